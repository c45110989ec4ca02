import PyProof.Rows.All
import Wide.All
import OpenK.AllK
import Wide.FinOn
import PySem.Challenge.RW_tp0059_01
set_option Elab.async false
namespace Mine
section
open PySem PySem.W PyProof.Rows PySem.Calls
set_option linter.unusedVariables false
/-! the run of the top on a tree of objects, from its first step to its last -/
noncomputable def ofL : List Obj → Nat → BT → Option BT
  | [], _, t => some t
  | o :: r, n, t => match ((t.ins n o).get n).isSome with
    | true => ofL r (n + 1) (t.ins n o)
    | false => none
theorem ofL_abs : ∀ (l : List Obj) (n : Nat) (t t' : BT) (life : Life), ofL l n t = some t' → absHeap t' (n + l.length) life = ⟨(absHeap t n life).objs ++ l.toArray, life⟩
  | [], n, t, t', life, h => by cases h; simp [absHeap]
  | o :: r, n, t, t', life, h => by
    unfold ofL at h
    cases g : ((t.ins n o).get n).isSome with
    | false => rw [g] at h; cases h
    | true =>
      rw [g] at h
      have := ofL_abs r (n + 1) _ t' life h
      rw [List.length_cons, show n + (r.length + 1) = n + 1 + r.length by omega, this, absHeap_ins g]
      simp [Heap.push]
theorem ofL_heap {h : Heap} {t : BT} (e : ofL h.objs.toList 0 .nil = some t) : absHeap t h.objs.size h.life = h := by
  have := ofL_abs _ 0 _ _ h.life e
  rw [Nat.zero_add, Array.length_toList] at this
  rw [this]
  obtain ⟨objs, life⟩ := h
  simp [absHeap, BT.list]
noncomputable def toT (s : Shared) (t : BT) : SharedT := ⟨t, s.heap.objs.size, s.heap.life, s.gens, s.drawn, s.toks, s.os⟩
theorem toT_abs {s : Shared} {t : BT} (e : ofL s.heap.objs.toList 0 .nil = some t) : (toT s t).abs = s := by
  obtain ⟨heap, gens, drawn, toks, os⟩ := s
  show Shared.mk (absHeap t heap.objs.size heap.life) _ _ _ _ = _
  rw [ofL_heap e]; rfl
noncomputable def impEndsT (tb : String → Option Builtin) (p : Program) (w : World) : Nat → SharedT → Thread → Option SharedT
  | 0, _, _ => none
  | n + 1, s, t => match t.atExitBegin with
    | some [] => some s
    | some (_ :: _) => none
    | none => match stepT (denote tb) p w s t with
      | some (s', t') => impEndsT tb p w n s' t'
      | none => none
theorem impEnds_of {tb : String → Option Builtin} {p : Program} {w : World} : ∀ {n : Nat} {s s' : SharedT} {t : Thread}, impEndsT tb p w n s t = some s' → importEnds tb p w n s.abs t = some s'.abs
  | 0, _, _, _, h => by cases h
  | n + 1, s, s', t, h => by
    unfold impEndsT at h
    unfold importEnds
    cases he : t.atExitBegin with
    | some l =>
      rw [he] at h
      cases l with
      | nil => cases h; rfl
      | cons x y => cases h
    | none =>
      rw [he] at h
      cases hs : stepT (denote tb) p w s t with
      | none => rw [hs] at h; cases h
      | some r => obtain ⟨s₂, t₂⟩ := r; rw [hs] at h; dsimp only; rw [stepT_spec hs]; exact impEnds_of h
noncomputable def topRunT (tb : String → Option Builtin) (p : Program) (w : World) (n₀ : Nat) (ann : Option Value) : Nat → SharedT → Thread → Option SharedT
  | 0, _, _ => none
  | n + 1, s, t => match through t with
    | true => some s
    | false => match stepOk n₀ ann t with
      | false => none
      | true => match stepT (denote tb) p w s t with
        | some (s', t') => topRunT tb p w n₀ ann n s' t'
        | none => none
theorem topRun_of {tb : String → Option Builtin} {p : Program} {w : World} {n₀ : Nat} {ann : Option Value} : ∀ {n : Nat} {s s' : SharedT} {t : Thread}, topRunT tb p w n₀ ann n s t = some s' → topRun tb p w n₀ ann n s.abs t = some s'.abs
  | 0, _, _, _, h => by cases h
  | n + 1, s, s', t, h => by
    unfold topRunT at h
    unfold topRun
    cases ht : through t with
    | true => rw [ht] at h; cases h; rfl
    | false =>
      rw [ht] at h
      cases hk : stepOk n₀ ann t with
      | false => rw [hk] at h; cases h
      | true =>
        rw [hk] at h
        cases hs : stepT (denote tb) p w s t with
        | none => rw [hs] at h; cases h
        | some r => obtain ⟨s₂, t₂⟩ := r; rw [hs] at h; dsimp only at h ⊢; rw [stepT_spec hs]; exact topRun_of h
noncomputable def foT (p : Program) (w : World) (N : Nat) : Option Shared :=
  match ofL (start (opening p)).1.heap.objs.toList 0 .nil with
  | none => none
  | some T => match impEndsT treeTable (opening p) w N (toT (start (opening p)).1 T) (start (opening p)).2 with
    | none => none
    | some S => fenceModules? p S.abs
theorem fo_of {p : Program} {w : World} {N : Nat} {s : Shared} (h : foT p w N = some s) : fencedOpening treeTable p w N = some s := by
  unfold foT at h
  split at h
  · cases h
  · rename_i T hT
    split at h
    · cases h
    · rename_i S hS
      unfold fencedOpening
      have := impEnds_of hS
      rw [toT_abs hT] at this
      rw [this]; exact h
noncomputable def tfT (p : Program) (w : World) (N : Nat) (s₀ : Shared) : Option Shared :=
  match s₀.heap.isNs mainGlobals && s₀.gens.size == 0 with
  | false => none
  | true => match ofL s₀.heap.objs.toList 0 .nil with
    | none => none
    | some T => match topRunT treeTable p w s₀.heap.objs.size (s₀.heap.nsMap mainGlobals "__annotations__") N (toT s₀ T) (topStub p) with
      | none => none
      | some S => match staticsOk (importedModules p.main.body) s₀.heap S.abs.heap && namesBound p S.abs.heap && gensDone S.abs && laidKept s₀.heap S.abs.heap with
        | true => some S.abs
        | false => none
theorem tf_of {p : Program} {w : World} {N : Nat} {s₀ s : Shared} (h : tfT p w N s₀ = some s) : topFrom treeTable p w N s₀ = some s := by
  unfold tfT at h
  unfold topFrom
  cases e : s₀.heap.isNs mainGlobals && s₀.gens.size == 0 with
  | false => rw [e] at h; cases h
  | true =>
    rw [e] at h
    dsimp only at h ⊢
    split at h
    · cases h
    · rename_i T hT
      split at h
      · cases h
      · rename_i S hS
        have := topRun_of hS
        rw [toT_abs hT] at this
        rw [this]
        split at h
        · rename_i e'
          rw [Option.bind_some, e']; exact h
        · cases h
noncomputable def wholeT (p : Program) (w : World) (N : Nat) : Option Shared := match foT p w N with
  | none => none
  | some s₀ => tfT p w N s₀
theorem whole_of {p : Program} {w : World} {N : Nat} {s : Shared} (h : wholeT p w N = some s) : openEnds treeTable p w N = some s := by
  unfold wholeT at h
  split at h
  · cases h
  · rename_i s₀ e
    unfold openEnds
    rw [fo_of e]; exact tf_of h
theorem left_of_whole {p q : Program} {loose : List Str} {Xt : Shared → Bool} {α : Type} {Yf : Shared → α} {Ya : World → α} {N : Nat} {g0 : Bool} (row : String)
    (h : ∀ (b : Bool) (w : World), (wholeT p (w.withFollow row b) N).map (fun s => (openSeen q loose (importedModules p.main.body) Xt g0 s, Yf s)) = some (openGood q loose, Ya (w.withFollow row b))) : LeftO p q loose Xt Yf Ya N g0 := fun w => by
  have := h (w.params.followText row) w
  rw [World.withFollow_self] at this
  obtain ⟨s, e, e'⟩ := Option.map_eq_some_iff.mp this
  rw [whole_of e]; exact congrArg some e'
end
section
open PySem PySem.W PyProof.Rows PySem.Calls
set_option linter.unusedVariables false
/-- plain data -/
inductive D where
  | none
  | bool (b : Bool)
  | int (i : Int)
  | str (s : Str)
  | tup (xs : List D)
  | lst (xs : List D)
  | ws (n : D)
  | obj (a : Addr)
  | hd (xs : List D)
noncomputable def tabLike (o : Obj) : Bool := match o.cls, o.data with
  | .none, .fields _ => true
  | _, _ => false
theorem tabLike_cls {o : Obj} {t : String} (h : o.cls = .type t) : tabLike o = false := by
  unfold tabLike; rw [h]
theorem tabLike_ref {o : Obj} {t : Addr} (h : o.cls = .ref t) : tabLike o = false := by
  unfold tabLike; rw [h]
/-- the class Whitespace -/
noncomputable def wsC : Addr := 149
/-- an object of a class: its place, its dict's, its class, what its dict holds -/
noncomputable def InsAt (h : Heap) (x dx C : Addr) (mA : Str → Option Value) : Prop := ∃ o, h.get? x = some o ∧ o.cls = .ref C ∧ (∀ c, o.data ≠ .cls c) ∧ o.dict = some dx ∧ dx ≠ x ∧ h.Ns1 dx mA
theorem InsAt.inst {h : Heap} {x dx C : Addr} {mA : Str → Option Value} (I : InsAt h x dx C mA) : h.Inst x C mA := let ⟨o, a, b, c, d, e, f⟩ := I; ⟨o, a, b, c, .inr ⟨dx, d, e, f⟩⟩
theorem InsAt.off {h h' : Heap} {x dx C : Addr} {mA : Str → Option Value} (I : InsAt h x dx C mA) (k : ∀ o, tabLike o = false → h.get? x = some o → h'.get? x = some o) (k2 : ∀ o, tabLike o = false → h.get? dx = some o → h'.get? dx = some o) : InsAt h' x dx C mA := by
  obtain ⟨o, a, b, c, d, e, o', es, ep, f1, f2, f3⟩ := I
  exact ⟨o, k o (tabLike_ref b) a, b, c, d, e, o', es, ep, k2 o' (by unfold tabLike; rw [f2]; split <;> simp_all) f1, f2, f3⟩
theorem InsAt.live {h : Heap} {x dx C : Addr} {mA : Str → Option Value} (I : InsAt h x dx C mA) : (∃ o, h.get? x = some o ∧ tabLike o = false) ∧ ∃ o, h.get? dx = some o ∧ tabLike o = false := by
  obtain ⟨o, a, b, c, d, e, o', es, ep, f1, f2, f3⟩ := I
  exact ⟨⟨o, a, tabLike_ref b⟩, o', f1, by unfold tabLike; rw [f2]; split <;> simp_all⟩
noncomputable def WsAt (h : Heap) (a dx : Addr) (vn : Value) : Prop := ∃ mA, InsAt h a dx wsC mA ∧ mA "norm" = some vn ∧ mA "equal" = none
/-- the class Headers -/
noncomputable def hdC : Addr := 297
noncomputable def HdAt (h : Heap) (a dx L : Addr) : Prop := ∃ mA, InsAt h a dx hdC mA ∧ mA "_headers" = some (.ref L) ∧ ∀ y : Str, y ≠ "_headers" → mA y = none
mutual
noncomputable def Rep (h : Heap) (Z : List Addr) : D → Value → Prop
  | .none, v => v = .none
  | .bool b, v => v = .bool b
  | .int i, v => ∃ t, v = .int i t
  | .str s, v => ∃ t, v = .str s t
  | .tup ds, v => ∃ a items, v = .ref a ∧ a ∉ Z ∧ h.IsTuple a items ∧ Reps h Z ds items.toList
  | .lst ds, v => ∃ a items, v = .ref a ∧ a ∉ Z ∧ h.IsList a items ∧ Reps h Z ds items.toList
  | .ws n, v => ∃ a dx vn, v = .ref a ∧ a ∉ Z ∧ dx ∉ Z ∧ WsAt h a dx vn ∧ Rep h Z n vn
  | .obj a, v => v = .ref a
  | .hd ds, v => ∃ a dx L items, v = .ref a ∧ a ∉ Z ∧ dx ∉ Z ∧ L ∉ Z ∧ HdAt h a dx L ∧ h.IsList L items ∧ Reps h Z ds items.toList
noncomputable def Reps (h : Heap) (Z : List Addr) : List D → List Value → Prop
  | [], vs => vs = []
  | d :: ds, vs => ∃ v r, vs = v :: r ∧ Rep h Z d v ∧ Reps h Z ds r
end
theorem IsList.ntab {h : Heap} {a : Addr} {items : Array Value} (x : h.IsList a items) : ∃ o, h.get? a = some o ∧ tabLike o = false := by
  obtain ⟨o, ho, hc, _⟩ := x
  exact ⟨o, ho, tabLike_cls hc⟩
theorem IsList.off {h h' : Heap} {a : Addr} {items : Array Value} (x : h.IsList a items) (k : ∀ o, tabLike o = false → h.get? a = some o → h'.get? a = some o) : h'.IsList a items := by
  obtain ⟨o, ho, hc, r⟩ := x
  exact ⟨o, k o (tabLike_cls hc) ho, hc, r⟩
theorem IsTuple.off {h h' : Heap} {a : Addr} {items : Array Value} (x : h.IsTuple a items) (k : ∀ o, tabLike o = false → h.get? a = some o → h'.get? a = some o) : h'.IsTuple a items := by
  obtain ⟨o, ho, hc, r⟩ := x
  exact ⟨o, k o (tabLike_cls hc) ho, hc, r⟩
theorem PlainList.off {h h' : Heap} {a : Addr} {items : Array Value} (x : h.PlainList a items) (k : ∀ o, tabLike o = false → h.get? a = some o → h'.get? a = some o) : h'.PlainList a items := by
  obtain ⟨n, ho⟩ := x
  exact ⟨n, k _ rfl ho⟩
theorem OwnList.off {h h' : Heap} {pl : Bool} {a : Addr} {items : Array Value} (x : h.IsList a items ∧ (pl = true → h.PlainList a items)) (k : ∀ o, tabLike o = false → h.get? a = some o → h'.get? a = some o) : h'.IsList a items ∧ (pl = true → h'.PlainList a items) :=
  ⟨IsList.off x.1 k, fun e => PlainList.off (x.2 e) k⟩
mutual
/-- what is kept off Z keeps what is borne off Z -/
theorem Rep.mono {h h' : Heap} {Z Z' : List Addr} (k : ∀ b o, b ∉ Z → tabLike o = false → h.get? b = some o → h'.get? b = some o ∧ b ∉ Z') : ∀ (d : D) (v : Value), Rep h Z d v → Rep h' Z' d v
  | .none, _, x => x
  | .bool _, _, x => x
  | .int _, _, x => x
  | .str _, _, x => x
  | .tup ds, v, x => by
    rw [Rep] at x ⊢
    obtain ⟨a, items, rfl, ha, hl, hr⟩ := x
    obtain ⟨o, ho, hc, r⟩ := id hl
    exact ⟨a, items, rfl, (k a o ha (tabLike_cls hc) ho).2, ⟨o, (k a o ha (tabLike_cls hc) ho).1, hc, r⟩, Reps.mono k ds _ hr⟩
  | .lst ds, v, x => by
    rw [Rep] at x ⊢
    obtain ⟨a, items, rfl, ha, hl, hr⟩ := x
    obtain ⟨o, ho, hc, r⟩ := id hl
    exact ⟨a, items, rfl, (k a o ha (tabLike_cls hc) ho).2, ⟨o, (k a o ha (tabLike_cls hc) ho).1, hc, r⟩, Reps.mono k ds _ hr⟩
  | .ws n, v, x => by
    rw [Rep] at x ⊢
    obtain ⟨a, dx, vn, rfl, ha, hd, ⟨mA, hi, hm⟩, hr⟩ := x
    obtain ⟨⟨oa, ea, ta⟩, od, ed, td⟩ := hi.live
    exact ⟨a, dx, vn, rfl, (k a _ ha ta ea).2, (k dx _ hd td ed).2, ⟨mA, hi.off (fun o t e => (k a o ha t e).1) (fun o t e => (k dx o hd t e).1), hm⟩, Rep.mono k n _ hr⟩
  | .hd ds, v, x => by
    rw [Rep] at x ⊢
    obtain ⟨a, dx, L, items, rfl, ha, hd, hL, ⟨mA, hi, hm⟩, hl, hr⟩ := x
    obtain ⟨⟨oa, ea, ta⟩, od, ed, td⟩ := hi.live
    obtain ⟨o, ho, hc, r⟩ := id hl
    exact ⟨a, dx, L, items, rfl, (k a _ ha ta ea).2, (k dx _ hd td ed).2, (k L o hL (tabLike_cls hc) ho).2, ⟨mA, hi.off (fun o t e => (k a o ha t e).1) (fun o t e => (k dx o hd t e).1), hm⟩, ⟨o, (k L o hL (tabLike_cls hc) ho).1, hc, r⟩, Reps.mono k ds _ hr⟩
  | .obj _, _, x => x
theorem Reps.mono {h h' : Heap} {Z Z' : List Addr} (k : ∀ b o, b ∉ Z → tabLike o = false → h.get? b = some o → h'.get? b = some o ∧ b ∉ Z') : ∀ (ds : List D) (vs : List Value), Reps h Z ds vs → Reps h' Z' ds vs
  | [], _, x => x
  | d :: ds, vs, x => by
    rw [Reps] at x ⊢
    obtain ⟨v, r, rfl, h1, h2⟩ := x
    exact ⟨v, r, rfl, Rep.mono k d v h1, Reps.mono k ds r h2⟩
end
theorem Reps.length {h : Heap} {Z : List Addr} : ∀ {ds : List D} {vs : List Value}, Reps h Z ds vs → vs.length = ds.length
  | [], _, x => by rw [Reps] at x; subst x; rfl
  | d :: ds, vs, x => by
    rw [Reps] at x
    obtain ⟨v, r, rfl, _, h2⟩ := x
    simp [Reps.length h2]
theorem Reps.get {h : Heap} {Z : List Addr} : ∀ {ds : List D} {vs : List Value}, Reps h Z ds vs → ∀ {i : Nat} {d : D}, ds[i]? = some d → ∃ v, vs[i]? = some v ∧ Rep h Z d v
  | [], _, _, i, d, e => by simp at e
  | d :: ds, vs, x, i, d', e => by
    rw [Reps] at x
    obtain ⟨v, r, rfl, h1, h2⟩ := x
    cases i with
    | zero => simp at e; subst e; exact ⟨v, by simp, h1⟩
    | succ i => simp at e; simpa using Reps.get h2 e
theorem Reps.get' {h : Heap} {Z : List Addr} : ∀ {ds : List D} {vs : List Value}, Reps h Z ds vs → ∀ {i : Nat} {v : Value}, vs[i]? = some v → ∃ d, ds[i]? = some d ∧ Rep h Z d v
  | [], _, x, i, v, e => by rw [Reps] at x; subst x; simp at e
  | d :: ds, vs, x, i, d', e => by
    rw [Reps] at x
    obtain ⟨v, r, rfl, h1, h2⟩ := x
    cases i with
    | zero => simp at e; subst e; exact ⟨d, by simp, h1⟩
    | succ i => simp at e; simpa using Reps.get' h2 e
theorem Reps.nil {h : Heap} {Z : List Addr} : Reps h Z [] [] := by rw [Reps]
theorem Reps.cons {h : Heap} {Z : List Addr} {d : D} {ds : List D} {v : Value} {vs : List Value} (a : Rep h Z d v) (b : Reps h Z ds vs) : Reps h Z (d :: ds) (v :: vs) := by
  rw [Reps]; exact ⟨v, vs, rfl, a, b⟩
theorem Reps.append {h : Heap} {Z : List Addr} : ∀ {ds es : List D} {vs us : List Value}, Reps h Z ds vs → Reps h Z es us → Reps h Z (ds ++ es) (vs ++ us)
  | [], _, _, _, x, y => by rw [Reps] at x; subst x; exact y
  | d :: ds, es, vs, us, x, y => by
    rw [Reps] at x
    obtain ⟨v, r, rfl, h1, h2⟩ := x
    exact Reps.cons h1 (Reps.append h2 y)
theorem Reps.of_get {h : Heap} {Z : List Addr} : ∀ {ds : List D} {vs : List Value}, vs.length = ds.length → (∀ (i : Nat) (d : D) (v : Value), ds[i]? = some d → vs[i]? = some v → Rep h Z d v) → Reps h Z ds vs
  | [], vs, e, _ => by rw [List.length_eq_zero_iff.mp e]; exact Reps.nil
  | d :: ds, vs, e, x => by
    cases vs with
    | nil => simp at e
    | cons v vs => exact Reps.cons (x 0 d v (by simp) (by simp)) (Reps.of_get (by simpa using e) fun i d' v' h1 h2 => x (i + 1) d' v' (by simpa using h1) (by simpa using h2))
/-! the table of an inner def's code -/
noncomputable def Tab1 (P : Addr) (line col : Int) (q : Str) (h : Heap) : Prop :=
  h.get? P = some (X.tableObj #[]) ∨ ∃ c oc fs t, h.get? P = some (X.tableObj #[rawInt line, rawInt col, .ref c]) ∧ h.get? c = some oc ∧ oc.cls = .type "code" ∧ oc.data = .fields fs ∧ fs[1]? = some (.str q t)
noncomputable def TabOk (h : Heap) : Prop := Tab1 54 36 4 "_int2digits.<locals>.inner" h ∧ Tab1 61 51 4 "_digits2int.<locals>.inner" h
theorem Tab1.mono {P : Addr} {l c : Int} {q : Str} {h h' : Heap} (x : Tab1 P l c q h) (k : ∀ b o, h.get? b = some o → h'.get? b = some o) : Tab1 P l c q h' := by
  rcases x with x | ⟨c, oc, fs, t, x, y, z⟩
  · exact .inl (k _ _ x)
  · exact .inr ⟨c, oc, fs, t, k _ _ x, k _ _ y, z⟩
theorem Tab1.touch {P : Addr} {l c : Int} {q : Str} {h h' : Heap} {a : Addr} {oa : Obj} (x : Tab1 P l c q h) (k : ∀ b o, b ≠ a → h.get? b = some o → h'.get? b = some o) (ha : h.get? a = some oa) (h1 : tabLike oa = false) (h2 : oa.cls ≠ .type "code") : Tab1 P l c q h' := by
  have ne : ∀ vs, h.get? P = some (X.tableObj vs) → P ≠ a := by
    rintro vs e rfl
    rw [ha] at e; cases e; exact absurd h1 (by intro q; cases q)
  rcases x with x | ⟨c, oc, fs, t, x, y, z⟩
  · exact .inl (k _ _ (ne _ x) x)
  · refine .inr ⟨c, oc, fs, t, k _ _ (ne _ x) x, k _ _ ?_ y, z⟩
    rintro rfl
    rw [ha] at y; cases y; exact h2 z.1
structure G (hb h : Heap) : Prop where
  old : ∀ b o, tabLike o = false → hb.get? b = some o → h.get? b = some o
  live : ∀ b o, hb.get? b = some o → ∃ o', h.get? b = some o'
  tab : TabOk h
  oth : ∀ b o, b ≠ 54 → b ≠ 61 → hb.get? b = some o → h.get? b = some o
theorem G.mono {hb h h' : Heap} (x : G hb h) (k : ∀ b o, h.get? b = some o → h'.get? b = some o) : G hb h' :=
  ⟨fun b o t e => k _ _ (x.old b o t e), fun b o e => let ⟨o', e'⟩ := x.live b o e; ⟨o', k _ _ e'⟩, ⟨x.tab.1.mono k, x.tab.2.mono k⟩, fun b o h1 h2 e => k _ _ (x.oth b o h1 h2 e)⟩
theorem G.touch {hb h h' : Heap} {a : Addr} {oa oa' : Obj} (x : G hb h) (k : ∀ b o, b ≠ a → h.get? b = some o → h'.get? b = some o) (ha : h.get? a = some oa) (ha' : h'.get? a = some oa') (h1 : tabLike oa = false) (h2 : oa.cls ≠ .type "code")
    (hf : hb.get? a = none) : G hb h' := by
  refine ⟨fun b o t e => k _ _ ?_ (x.old b o t e), fun b o e => ?_, ⟨x.tab.1.touch k ha h1 h2, x.tab.2.touch k ha h1 h2⟩, fun b o n1 n2 e => k _ _ ?_ (x.oth b o n1 n2 e)⟩
  · rintro rfl; rw [hf] at e; cases e
  · by_cases hba : b = a
    · subst hba; exact ⟨oa', ha'⟩
    · obtain ⟨o', e'⟩ := x.live b o e
      exact ⟨o', k _ _ hba e'⟩
  · rintro rfl; rw [hf] at e; cases e
/-- the heap has grown; tables of code alone may have turned -/
structure Ext (hb h h' : Heap) : Prop where
  keep : ∀ b o, tabLike o = false → h.get? b = some o → h'.get? b = some o
  live : ∀ b o, h.get? b = some o → ∃ o', h'.get? b = some o'
  g : G hb h → G hb h'
theorem Ext.refl (hb h : Heap) : Ext hb h h := ⟨fun _ _ _ e => e, fun _ o e => ⟨o, e⟩, id⟩
theorem Ext.trans {hb h h' h'' : Heap} (x : Ext hb h h') (y : Ext hb h' h'') : Ext hb h h'' :=
  ⟨fun b o t e => y.keep b o t (x.keep b o t e), fun b o e => let ⟨o', e'⟩ := x.live b o e; y.live b o' e', fun g => y.g (x.g g)⟩
theorem Ext.full {hb h h' : Heap} (k : ∀ b o, h.get? b = some o → h'.get? b = some o) : Ext hb h h' := ⟨fun b o _ e => k b o e, fun b o e => ⟨o, k b o e⟩, fun g => g.mono k⟩
theorem Ext.push {hb h : Heap} (o : Obj) : Ext hb h (h.push o) := Ext.full fun _ _ e => Heap.get?_push_of_some _ e
theorem Ext.none {hb h h' : Heap} (x : Ext hb h h') {a : Addr} (e : h'.get? a = none) : h.get? a = none := by
  cases q : h.get? a with
  | none => rfl
  | some o => obtain ⟨o', e'⟩ := x.live a o q; rw [e] at e'; cases e'
noncomputable def Kp (hb : Heap) (s s' : Shared) : Prop := ∃ h' tk, s' = { s with heap := h', toks := tk } ∧ Ext hb s.heap h'
theorem Kp.refl (hb : Heap) (s : Shared) : Kp hb s s := ⟨s.heap, s.toks, rfl, .refl _ _⟩
theorem Kp.trans {hb : Heap} {s s' s'' : Shared} (x : Kp hb s s') (y : Kp hb s' s'') : Kp hb s s'' := by
  obtain ⟨h', tk, rfl, e⟩ := x
  obtain ⟨h'', tk', rfl, e'⟩ := y
  exact ⟨h'', tk', rfl, e.trans e'⟩
theorem Kp.ext {hb : Heap} {s s' : Shared} (x : Kp hb s s') : Ext hb s.heap s'.heap := by
  obtain ⟨h', tk, rfl, e⟩ := x; exact e
theorem Kp.tok (hb : Heap) (s : Shared) (t : Nat) : Kp hb s { s with toks := t } := ⟨s.heap, t, rfl, .refl _ _⟩
theorem Kp.of {hb : Heap} {s : Shared} {h' : Heap} (e : Ext hb s.heap h') : Kp hb s { s with heap := h' } := ⟨h', s.toks, rfl, e⟩
theorem Kp.of' {hb : Heap} {s : Shared} {h' : Heap} {t : Nat} (e : Ext hb s.heap h') : Kp hb s { s with heap := h', toks := t } := ⟨h', t, rfl, e⟩
theorem Rep.ext {hb h h' : Heap} {Z : List Addr} {d : D} {v : Value} (x : Rep h Z d v) (e : Ext hb h h') : Rep h' Z d v := Rep.mono (fun b o hb ht ho => ⟨e.keep b o ht ho, hb⟩) d v x
theorem Reps.ext {hb h h' : Heap} {Z : List Addr} {ds : List D} {vs : List Value} (x : Reps h Z ds vs) (e : Ext hb h h') : Reps h' Z ds vs := Reps.mono (fun b o hb ht ho => ⟨e.keep b o ht ho, hb⟩) ds vs x
/-- addresses that are not live yet are avoided too -/
theorem Rep.more {h : Heap} {Z W : List Addr} {d : D} {v : Value} (x : Rep h Z d v) (hw : ∀ a ∈ W, h.get? a = none) : Rep h (W ++ Z) d v :=
  Rep.mono (fun b o hb _ ho => ⟨ho, fun hm => by rcases List.mem_append.mp hm with q | q; · rw [hw b q] at ho; cases ho
                                                 · exact hb q⟩) d v x
theorem Reps.more {h : Heap} {Z W : List Addr} {ds : List D} {vs : List Value} (x : Reps h Z ds vs) (hw : ∀ a ∈ W, h.get? a = none) : Reps h (W ++ Z) ds vs :=
  Reps.mono (fun b o hb _ ho => ⟨ho, fun hm => by rcases List.mem_append.mp hm with q | q; · rw [hw b q] at ho; cases ho
                                                  · exact hb q⟩) ds vs x
theorem Rep.less {h : Heap} {Z W : List Addr} {d : D} {v : Value} (x : Rep h (W ++ Z) d v) : Rep h Z d v := Rep.mono (fun b o hb _ ho => ⟨ho, fun hm => hb (List.mem_append_right _ hm)⟩) d v x
theorem Reps.less {h : Heap} {Z W : List Addr} {ds : List D} {vs : List Value} (x : Reps h (W ++ Z) ds vs) : Reps h Z ds vs := Reps.mono (fun b o hb _ ho => ⟨ho, fun hm => hb (List.mem_append_right _ hm)⟩) ds vs x
inductive Slot where
  | val (d : D)
  | own (pl : Bool) (ds : List D)
noncomputable abbrev Vars := List (Str × Slot)
noncomputable def VarAt (env : Env) (h : Heap) (x : Str) (v : Value) : Prop :=
  (env.kindOf x = some .local ∧ ∃ m, h.Ns env.locals m ∧ m x = some v) ∨
  ((env.kindOf x = some .cell ∨ env.kindOf x = some .free) ∧ ∃ c, env.cells.lookup x = some c ∧ h.IsCell c (some v))
theorem Ns.off {h h' : Heap} {a : Addr} {m : Str → Option Value} (x : h.Ns a m) (k : ∀ o, tabLike o = false → h.get? a = some o → h'.get? a = some o) : h'.Ns a m := by
  obtain ⟨o, es, ep, ho, hd, r⟩ := x
  refine ⟨o, es, ep, k o ?_ ho, hd, r⟩
  unfold tabLike; rw [hd]; split <;> simp_all
theorem IsCell.off {h h' : Heap} {c : Addr} {v : Option Value} (x : h.IsCell c v) (k : ∀ o, tabLike o = false → h.get? c = some o → h'.get? c = some o) : h'.IsCell c v := by
  obtain ⟨o, ho, hd⟩ := x
  refine ⟨o, k o ?_ ho, hd⟩
  unfold tabLike; rw [hd]; split <;> simp_all
theorem VarAt.ext {hb h h' : Heap} {env : Env} {x : Str} {v : Value} (y : VarAt env h x v) (e : Ext hb h h') : VarAt env h' x v := by
  rcases y with ⟨a, m, b, c⟩ | ⟨a, c, b, d⟩
  · exact .inl ⟨a, m, Ns.off b fun o => e.keep _ o, c⟩
  · exact .inr ⟨a, c, b, IsCell.off d fun o => e.keep _ o⟩
structure Rel (hb : Heap) (env : Env) (Z : List Addr) (h : Heap) (ρ : Vars) : Prop where
  g : G hb h
  kind : env.scope.kind = .function
  glob : env.globals = mainGlobals
  blt : env.builtins = builtinsNs
  live : ∀ a ∈ Z, ∃ o, h.get? a = some o ∧ tabLike o = false
  val : ∀ x d, (x, Slot.val d) ∈ ρ → ∃ v, VarAt env h x v ∧ Rep h Z d v
  own : ∀ x pl ds, (x, Slot.own pl ds) ∈ ρ → ∃ a items, VarAt env h x (.ref a) ∧ (h.IsList a items ∧ (pl = true → h.PlainList a items)) ∧ Reps h Z ds items.toList
theorem Rel.ext {hb h h' : Heap} {env : Env} {Z : List Addr} {ρ : Vars} (r : Rel hb env Z h ρ) (e : Ext hb h h') : Rel hb env Z h' ρ where
  g := e.g r.g
  kind := r.kind
  glob := r.glob
  blt := r.blt
  live := fun a ha => let ⟨o, ho, t⟩ := r.live a ha; ⟨o, e.keep a o t ho, t⟩
  val := fun x d hm => let ⟨v, a, b⟩ := r.val x d hm; ⟨v, a.ext e, b.ext e⟩
  own := fun x pl ds hm => let ⟨a, items, v, l, b⟩ := r.own x pl ds hm; ⟨a, items, v.ext e, OwnList.off l fun o => e.keep _ o, b.ext e⟩
theorem Rel.sub {hb h : Heap} {env : Env} {Z : List Addr} {ρ ρ' : Vars} (r : Rel hb env Z h ρ) (e : ∀ p ∈ ρ', p ∈ ρ) : Rel hb env Z h ρ' :=
  ⟨r.g, r.kind, r.glob, r.blt, r.live, fun x d hm => r.val x d (e _ hm), fun x pl d hm => r.own x pl d (e _ hm)⟩
theorem Rel.fresh {hb h : Heap} {env : Env} {Z : List Addr} {ρ : Vars} (r : Rel hb env Z h ρ) {a : Addr} (e : h.get? a = none) : a ∉ Z := fun hm => by
  obtain ⟨o, ho, _⟩ := r.live a hm
  rw [e] at ho; cases ho
structure Rm (n : Nat) (A : Around) : Prop where
  hd : A.handled = none
  dp : A.depth + n ≤ 700
  un : A.units + 10 * n ≤ 5000
theorem Rm.le {n m : Nat} {A : Around} (x : Rm n A) (h : m ≤ n) : Rm m A := ⟨x.hd, by have := x.dp; omega, by have := x.un; omega⟩
section
variable (prog : Program) (w : World) (hb : Heap)
noncomputable def Ev (n : Nat) (sc : Scope) (ρ : Vars) (e : Expr) (d : D) : Prop :=
  ∀ (A : Around) (env : Env) (Z : List Addr) (s : Shared) (Q : Value → Shared → Prop) (E : Value → Shared → Prop), Rm n A → env.scope = sc → Rel hb env Z s.heap ρ →
    (∀ v s', Rep s'.heap Z d v → Kp hb s s' → Q v s') → wpAny (model prog w) A (eval e env) Q E s
noncomputable def EvL (n : Nat) (sc : Scope) (ρ : Vars) (e : Expr) (ds : List D) : Prop :=
  ∀ (A : Around) (env : Env) (Z : List Addr) (s : Shared) (Q : Value → Shared → Prop) (E : Value → Shared → Prop), Rm n A → env.scope = sc → Rel hb env Z s.heap ρ →
    (∀ a items s', s'.heap.IsList a items → Reps s'.heap Z ds items.toList → Kp hb s s' → Q (.ref a) s') → wpAny (model prog w) A (eval e env) Q E s
noncomputable def EvF (n : Nat) (sc : Scope) (ρ : Vars) (e : Expr) (ds : List D) : Prop :=
  ∀ (A : Around) (env : Env) (Z : List Addr) (s : Shared) (Q : Value → Shared → Prop) (E : Value → Shared → Prop), Rm n A → env.scope = sc → Rel hb env Z s.heap ρ →
    (∀ a items s', s.heap.get? a = none → s'.heap.PlainList a items → Reps s'.heap (a :: Z) ds items.toList → Kp hb s s' → Q (.ref a) s') → wpAny (model prog w) A (eval e env) Q E s
noncomputable def EvB (n : Nat) (sc : Scope) (ρ : Vars) (e : Expr) (b : Bool) : Prop :=
  ∀ (A : Around) (env : Env) (Z : List Addr) (s : Shared) (Q : Bool → Shared → Prop) (E : Value → Shared → Prop), Rm n A → env.scope = sc → Rel hb env Z s.heap ρ →
    (∀ s', Kp hb s s' → Q b s') → wpAny (model prog w) A (isTrue e env (eval e env)) Q E s
end
section
variable {prog : Program} {w : World} {hb : Heap} {n : Nat} {sc : Scope} {ρ : Vars}
theorem EvF.ev {e : Expr} {ds : List D} (x : EvF prog w hb n sc ρ e ds) : Ev prog w hb n sc ρ e (.lst ds) := fun A env Z s Q E hA he r k =>
  x A env Z s Q E hA he r fun a items s' hn hl hr hk => k _ _ (by rw [Rep]; exact ⟨a, items, rfl, r.fresh hn, hl.isList, hr.less (W := [a])⟩) hk
theorem Ev.evL {e : Expr} {ds : List D} (x : Ev prog w hb n sc ρ e (.lst ds)) : EvL prog w hb n sc ρ e ds := fun A env Z s Q E hA he r k =>
  x A env Z s Q E hA he r fun v s' hr hk => by
    rw [Rep] at hr
    obtain ⟨a, items, rfl, _, hl, hr⟩ := hr
    exact k a items s' hl hr hk
theorem EvF.evL {e : Expr} {ds : List D} (x : EvF prog w hb n sc ρ e ds) : EvL prog w hb n sc ρ e ds := fun A env Z s Q E hA he r k =>
  x A env Z s Q E hA he r fun a items s' _ hl hr hk => k a items s' hl.isList (hr.less (W := [a])) hk
theorem ld_var {A : Around} {env : Env} {s : Shared} {x : Str} {v : Value} {Q : Value → Shared → Prop} {E : Value → Shared → Prop} (hk : env.scope.kind = .function) (h : VarAt env s.heap x v) (hn : (x == ("__classdict__" : Str)) = false) (q : Q v s) :
    wpAny (model prog w) A (loadName env x) Q E s := by
  rcases h with ⟨a, m, b, c⟩ | ⟨a | a, c, b, d⟩
  · exact wpAny_loadName_local hk a b c q
  · exact wpAny_loadName_cell hk a b d q
  · exact wpAny_loadName_free hk a b d q hn
noncomputable def okName (x : Str) : Bool := !(x == ("__classdict__" : Str)) && !(x == ("__debug__" : Str))
theorem ev_name {x : Str} {pos : Pos} {d : D} (h : (x, Slot.val d) ∈ ρ) (hx : okName x = true := by decide) : Ev prog w hb n sc ρ (.Name x pos) d := fun A env Z s Q E hA he r k => by
  simp only [okName, Bool.and_eq_true, Bool.not_eq_true'] at hx
  obtain ⟨v, a, b⟩ := r.val x d h
  exact wpAny_Name (ld_var r.kind a hx.1 (k v s b (.refl _ _))) hx.2
theorem ev_own {x : Str} {pos : Pos} {pl : Bool} {ds : List D} (h : (x, Slot.own pl ds) ∈ ρ) (hx : okName x = true := by decide) : EvL prog w hb n sc ρ (.Name x pos) ds := fun A env Z s Q E hA he r k => by
  simp only [okName, Bool.and_eq_true, Bool.not_eq_true'] at hx
  obtain ⟨a, items, v, l, b⟩ := r.own x pl ds h
  exact wpAny_Name (ld_var r.kind v hx.1 (k a items s l.1 b (.refl _ _))) hx.2
theorem ev_int {i : Int} {k : Nat} {pos : Pos} : Ev prog w hb n sc ρ (.Constant (.int i) k pos) (.int i) := fun A env Z s Q E hA he r q => by
  have : Q (.int i s.toks) { s with toks := s.toks + 1 } := q _ _ (by rw [Rep]; exact ⟨_, rfl⟩) (.tok _ _ _)
  exact fun _ _ _ => this
theorem ev_str {i : Str} {k : Nat} {pos : Pos} : Ev prog w hb n sc ρ (.Constant (.str i) k pos) (.str i) := fun A env Z s Q E hA he r q => by
  have : Q (.str i s.toks) { s with toks := s.toks + 1 } := q _ _ (by rw [Rep]; exact ⟨_, rfl⟩) (.tok _ _ _)
  exact Calls.Constant_str this
theorem ev_bool {b : Bool} {k : Nat} {pos : Pos} : Ev prog w hb n sc ρ (.Constant (.bool b) k pos) (.bool b) := fun A env Z s Q E hA he r q =>
  Constant_bool (q _ _ (by rw [Rep]) (.refl _ _))
theorem ev_none {k : Nat} {pos : Pos} : Ev prog w hb n sc ρ (.Constant .none k pos) .none := fun A env Z s Q E hA he r q =>
  Constant_none (q _ _ (by rw [Rep]) (.refl _ _))
end
end
section
open PySem PySem.W PyProof.Rows PySem.Calls
set_option linter.unusedVariables false
theorem rep_int {h : Heap} {Z : List Addr} {i : Int} {v : Value} (x : Rep h Z (.int i) v) : ∃ t, v = .int i t := by rw [Rep] at x; exact x
theorem rep_str {h : Heap} {Z : List Addr} {i : Str} {v : Value} (x : Rep h Z (.str i) v) : ∃ t, v = .str i t := by rw [Rep] at x; exact x
theorem rep_bool {h : Heap} {Z : List Addr} {i : Bool} {v : Value} (x : Rep h Z (.bool i) v) : v = .bool i := by rw [Rep] at x; exact x
theorem rep_of_int (h : Heap) (Z : List Addr) (i : Int) (t : Tok) : Rep h Z (.int i) (.int i t) := by rw [Rep]; exact ⟨t, rfl⟩
theorem rep_of_str (h : Heap) (Z : List Addr) (i : Str) (t : Tok) : Rep h Z (.str i) (.str i t) := by rw [Rep]; exact ⟨t, rfl⟩
theorem rep_of_bool (h : Heap) (Z : List Addr) (i : Bool) : Rep h Z (.bool i) (.bool i) := by rw [Rep]
theorem ints_of {h : Heap} {Z : List Addr} : ∀ {ns : List Int} {vs : List Value}, Reps h Z (ns.map D.int) vs → IntsAre vs ns
  | [], _, x => by simp only [List.map_nil, Reps] at x; subst x; exact .nil
  | n :: ns, vs, x => by
    rw [List.map_cons, Reps] at x
    obtain ⟨v, r, rfl, h1, h2⟩ := x
    obtain ⟨t, rfl⟩ := rep_int h1
    exact .cons n t (ints_of h2)
theorem reps_of_ints {h : Heap} {Z : List Addr} : ∀ {ns : List Int} {vs : List Value}, IntsAre vs ns → Reps h Z (ns.map D.int) vs
  | [], _, .nil => Reps.nil
  | n :: ns, _, .cons _ t r => Reps.cons (rep_of_int _ _ _ _) (reps_of_ints r)
section
variable {prog : Program} {w : World} {hb : Heap} {n : Nat} {sc : Scope} {ρ : Vars}
/-- two operands -/
theorem ev_bin {op : Operator} {l r : Expr} {pos : Pos} {a b d : D} (x : Ev prog w hb n sc ρ l a) (y : Ev prog w hb n sc ρ r b)
    (o : ∀ (A : Around) (Z : List Addr) (s : Shared) (u v : Value) (Q : Value → Shared → Prop) (E : Value → Shared → Prop), Rm n A → (∀ z ∈ Z, ∃ o, s.heap.get? z = some o ∧ tabLike o = false) → Rep s.heap Z a u → Rep s.heap Z b v →
      (∀ z s', Rep s'.heap Z d z → Kp hb s s' → Q z s') → wpAny (model prog w) A (binaryOp op u v) Q E s) : Ev prog w hb n sc ρ (.BinOp l op r pos) d := fun A env Z s Q E hA he rl k =>
  wpAny_BinOp (x A env Z s _ E hA he rl fun u s₁ hu k₁ => y A env Z s₁ _ E hA he (rl.ext k₁.ext) fun v s₂ hv k₂ =>
    o A Z s₂ u v Q E hA ((rl.ext k₁.ext).ext k₂.ext).live (hu.ext k₂.ext) hv fun z s₃ hz k₃ => k z s₃ hz ((k₁.trans k₂).trans k₃))
/-- the same on two ints -/
theorem ev_ints {op : Operator} {l r : Expr} {pos : Pos} {a b c : Int} (x : Ev prog w hb n sc ρ l (.int a)) (y : Ev prog w hb n sc ρ r (.int b))
    (o : ∀ (A : Around) (s : Shared) (t u : Tok) (Q : Value → Shared → Prop) (E : Value → Shared → Prop), (∀ t' k, Q (.int c t') { s with toks := k }) → wpAny (model prog w) A (binaryOp op (.int a t) (.int b u)) Q E s) :
    Ev prog w hb n sc ρ (.BinOp l op r pos) (.int c) :=
  ev_bin x y fun A Z s u v Q E hA _ hu hv k => by
    obtain ⟨t, rfl⟩ := rep_int hu
    obtain ⟨t', rfl⟩ := rep_int hv
    exact o A s t t' Q E fun t'' k' => k _ _ (rep_of_int _ _ _ _) (.tok _ _ _)
theorem ev_add {l r : Expr} {pos : Pos} {a b : Int} (x : Ev prog w hb n sc ρ l (.int a)) (y : Ev prog w hb n sc ρ r (.int b)) : Ev prog w hb n sc ρ (.BinOp l .Add r pos) (.int (a + b)) :=
  ev_ints x y fun A s t u Q E k => PyProof.Rows.add_int (k _ _)
theorem ev_sub {l r : Expr} {pos : Pos} {a b : Int} (x : Ev prog w hb n sc ρ l (.int a)) (y : Ev prog w hb n sc ρ r (.int b)) : Ev prog w hb n sc ρ (.BinOp l .Sub r pos) (.int (a - b)) :=
  ev_ints x y fun A s t u Q E k => PyProof.Rows.sub_int (k _ _)
theorem ev_mod {l r : Expr} {pos : Pos} {a b : Int} (x : Ev prog w hb n sc ρ l (.int a)) (y : Ev prog w hb n sc ρ r (.int b)) (hb0 : b ≠ 0) : Ev prog w hb n sc ρ (.BinOp l .Mod r pos) (.int (a.fmod b)) :=
  ev_ints x y fun A s t u Q E k => PyProof.Rows.mod_int' hb0 (k _ _)
theorem ev_floordiv {l r : Expr} {pos : Pos} {a b : Int} (x : Ev prog w hb n sc ρ l (.int a)) (y : Ev prog w hb n sc ρ r (.int b)) (hb0 : b ≠ 0) (hs : b.natAbs < 1073741824) : Ev prog w hb n sc ρ (.BinOp l .FloorDiv r pos) (.int (a.fdiv b)) :=
  ev_ints x y fun A s t u Q E k => PyProof.Rows.floordiv_int hb0 (k _ _) (.inl (PyProof.noPylong_small hs))
theorem ev_shl {l r : Expr} {pos : Pos} {a b : Int} (x : Ev prog w hb n sc ρ l (.int a)) (y : Ev prog w hb n sc ρ r (.int b)) (h0 : 0 ≤ b) (hs : (Builtin.Int.intBits a : Int) + b ≤ 2 ^ 27) : Ev prog w hb n sc ρ (.BinOp l .LShift r pos) (.int (a * 2 ^ b.toNat)) :=
  ev_ints x y fun A s t u Q E k => PyProof.Rows.lshift_int h0 hs (k _ _)
theorem ev_shr {l r : Expr} {pos : Pos} {a b : Int} (x : Ev prog w hb n sc ρ l (.int a)) (y : Ev prog w hb n sc ρ r (.int b)) (h0 : 0 ≤ b) : Ev prog w hb n sc ρ (.BinOp l .RShift r pos) (.int (a.fdiv (2 ^ b.toNat))) :=
  ev_ints x y fun A s t u Q E k => PyProof.Rows.rshift_int h0 (k _ _)
theorem ev_and {l r : Expr} {pos : Pos} {a b : Int} (x : Ev prog w hb n sc ρ l (.int a)) (y : Ev prog w hb n sc ρ r (.int b)) : Ev prog w hb n sc ρ (.BinOp l .BitAnd r pos) (.int (Builtin.bitAnd a b)) :=
  ev_ints x y fun A s t u Q E k => PyProof.Rows.and_int (k _ _)
theorem ev_or {l r : Expr} {pos : Pos} {a b : Int} (x : Ev prog w hb n sc ρ l (.int a)) (y : Ev prog w hb n sc ρ r (.int b)) : Ev prog w hb n sc ρ (.BinOp l .BitOr r pos) (.int (Builtin.bitOr a b)) :=
  ev_ints x y fun A s t u Q E k => PyProof.Rows.or_int (k _ _)
theorem ev_xor {l r : Expr} {pos : Pos} {a b : Int} (x : Ev prog w hb n sc ρ l (.int a)) (y : Ev prog w hb n sc ρ r (.int b)) : Ev prog w hb n sc ρ (.BinOp l .BitXor r pos) (.int (Builtin.bitXor a b)) :=
  ev_ints x y fun A s t u Q E k => PyProof.Rows.xor_int (k _ _)
theorem ev_invert {l : Expr} {pos : Pos} {a : Int} (x : Ev prog w hb n sc ρ l (.int a)) : Ev prog w hb n sc ρ (.UnaryOp .Invert l pos) (.int (Builtin.bitNot a)) := fun A env Z s Q E hA he rl k =>
  UnaryOp_ (x A env Z s _ E hA he rl fun u s₁ hu k₁ => by
    obtain ⟨t, rfl⟩ := rep_int hu
    exact PyProof.Rows.invert_int (k _ _ (rep_of_int _ _ _ _) (k₁.trans (.tok _ _ _))))
theorem ev_cat {l r : Expr} {pos : Pos} {a b : Str} (x : Ev prog w hb n sc ρ l (.str a)) (y : Ev prog w hb n sc ρ r (.str b)) (hz : a.length + b.length ≤ sizeLine) : Ev prog w hb n sc ρ (.BinOp l .Add r pos) (.str (a ++ b)) :=
  ev_bin x y fun A Z s u v Q E hA _ hu hv k => by
    obtain ⟨t, rfl⟩ := rep_str hu
    obtain ⟨t', rfl⟩ := rep_str hv
    exact PyProof.Rows.add_str (fun t'' k' => k _ _ (rep_of_str _ _ _ _) (.tok _ _ _)) hz
theorem ev_reps {l r : Expr} {pos : Pos} {a : Str} {b : Int} (x : Ev prog w hb n sc ρ l (.str a)) (y : Ev prog w hb n sc ρ r (.int b)) (hz : MulOk a b) : Ev prog w hb n sc ρ (.BinOp l .Mult r pos) (.str (Txt.mul a b)) :=
  ev_bin x y fun A Z s u v Q E hA _ hu hv k => by
    obtain ⟨t, rfl⟩ := rep_str hu
    obtain ⟨t', rfl⟩ := rep_int hv
    exact SB.mul hz fun t'' k' => k _ _ (rep_of_str _ _ _ _) (.tok _ _ _)
/-- two lists -/
theorem evF_add {l r : Expr} {pos : Pos} {as bs : List D} (x : EvL prog w hb n sc ρ l as) (y : EvL prog w hb n sc ρ r bs) (hz : as.length + bs.length ≤ sizeLine) : EvF prog w hb n sc ρ (.BinOp l .Add r pos) (as ++ bs) := fun A env Z s Q E hA he rl k =>
  wpAny_BinOp (x A env Z s _ E hA he rl fun la ia s₁ h1 r1 k₁ => y A env Z s₁ _ E hA he (rl.ext k₁.ext) fun lb ib s₂ h2 r2 k₂ => by
    have h1 := IsList.off h1 fun o => k₂.ext.keep _ o
    have r1 := r1.ext k₂.ext
    obtain ⟨⟨cls, dd, data, sl⟩, ho, hc, m, hd⟩ := id h1
    obtain ⟨⟨cls2, dd2, data2, sl2⟩, ho2, hc2, m2, hd2⟩ := id h2
    simp only at hc hd hc2 hd2
    subst hc hd hc2 hd2
    have l1 := r1.length
    have l2 := r2.length
    simp only [Array.length_toList] at l1 l2
    refine concat_meets ⟨_, ho, rfl⟩ ⟨_, ho2, rfl⟩ noFill_list_add seq_list_add PySem.F.slot_list_add PySem.F.entry_list_add (PySem.F.args_list_add_2 _ _) (list_addW la lb ia ib m m2 dd dd2 sl sl2 (by omega)) ⟨ho, ho2, ?_⟩
    have e : Ext hb s₂.heap (s₂.heap.push { cls := .type "list", data := .seq (ia ++ ib) }) := Ext.push _
    have fr : s₂.heap.get? s₂.heap.objs.size = none := Heap.get?_none_of_le (Nat.le_refl _)
    have more : ∀ {ds vs}, Reps s₂.heap Z ds vs → Reps s₂.heap (s₂.heap.objs.size :: Z) ds vs := fun x => x.more (W := [_]) fun b m => by simp at m; subst m; exact fr
    exact k _ _ _ ((k₁.trans k₂).ext.none fr) ⟨0, Heap.get?_push_size _ rfl⟩ (by rw [Array.toList_append]; exact ((more r1).ext e).append ((more r2).ext e)) ((k₁.trans k₂).trans (.of e)))
/-! comparisons of ints, texts -/
noncomputable def cmpInt (op : CmpOp) (a b : Int) : Option Bool := match op with
  | .Eq => some (a == b) | .NotEq => some (a != b) | .Lt => some (decide (a < b)) | .LtE => some (decide (a ≤ b)) | .Gt => some (decide (b < a)) | .GtE => some (decide (b ≤ a)) | _ => none
theorem cmp_ints {A : Around} {s : Shared} {Q : Value → Shared → Prop} {E : Value → Shared → Prop} {op : CmpOp} {a b : Int} {t u : Tok} {c : Bool} (h : cmpInt op a b = some c) (k : Q (.bool c) s) : wpAny (model prog w) A (compareOp op (.int a t) (.int b u)) Q E s := by
  cases op <;> simp only [cmpInt, Option.some.injEq, reduceCtorEq] at h <;> subst h
  · exact PyProof.Rows.eq_int k
  · exact PyProof.Rows.ne_int k
  · exact PyProof.Rows.lt_int k
  · exact PyProof.Rows.le_int k
  · exact PyProof.Rows.gt_int k
  · exact PyProof.Rows.ge_int k
theorem evB_cmp {op : CmpOp} {l r : Expr} {pos : Pos} {a b : D} {c : Bool} (x : Ev prog w hb n sc ρ l a) (y : Ev prog w hb n sc ρ r b)
    (o : ∀ (A : Around) (Z : List Addr) (s : Shared) (u v : Value) (Q : Value → Shared → Prop) (E : Value → Shared → Prop), Rm n A → Rep s.heap Z a u → Rep s.heap Z b v → (∀ s', Kp hb s s' → Q (.bool c) s') → wpAny (model prog w) A (compareOp op u v) Q E s)
    (hm : behindInMarks op r = false := by rfl) : EvB prog w hb n sc ρ (.Compare l [op] [r] pos) c := fun A env Z s Q E hA he rl k =>
  wpAny_isTrue_Compare1 (x A env Z s _ E hA he rl fun u s₁ hu k₁ => y A env Z s₁ _ E hA he (rl.ext k₁.ext) fun v s₂ hv k₂ =>
    o A Z s₂ u v _ E hA (hu.ext k₂.ext) hv fun s₃ k₃ => wpAny_truthy_bool (k s₃ ((k₁.trans k₂).trans k₃))) hm
theorem ev_cmp {op : CmpOp} {l r : Expr} {pos : Pos} {a b : D} {c : Bool} (x : Ev prog w hb n sc ρ l a) (y : Ev prog w hb n sc ρ r b)
    (o : ∀ (A : Around) (Z : List Addr) (s : Shared) (u v : Value) (Q : Value → Shared → Prop) (E : Value → Shared → Prop), Rm n A → Rep s.heap Z a u → Rep s.heap Z b v → (∀ s', Kp hb s s' → Q (.bool c) s') → wpAny (model prog w) A (compareOp op u v) Q E s)
    (hm : behindInMarks op r = false := by rfl) : Ev prog w hb n sc ρ (.Compare l [op] [r] pos) (.bool c) := fun A env Z s Q E hA he rl k =>
  wpAny_Compare1 (x A env Z s _ E hA he rl fun u s₁ hu k₁ => y A env Z s₁ _ E hA he (rl.ext k₁.ext) fun v s₂ hv k₂ =>
    o A Z s₂ u v _ E hA (hu.ext k₂.ext) hv fun s₃ k₃ => k _ s₃ (rep_of_bool _ _ _) ((k₁.trans k₂).trans k₃)) hm
theorem evB_int {op : CmpOp} {l r : Expr} {pos : Pos} {a b : Int} {c : Bool} (x : Ev prog w hb n sc ρ l (.int a)) (y : Ev prog w hb n sc ρ r (.int b)) (h : cmpInt op a b = some c) (hm : behindInMarks op r = false := by rfl) :
    EvB prog w hb n sc ρ (.Compare l [op] [r] pos) c := evB_cmp x y (fun A Z s u v Q E hA hu hv k => by
    obtain ⟨t, rfl⟩ := rep_int hu
    obtain ⟨t', rfl⟩ := rep_int hv
    exact cmp_ints h (k _ (.refl _ _))) hm
theorem ev_cmpInt {op : CmpOp} {l r : Expr} {pos : Pos} {a b : Int} {c : Bool} (x : Ev prog w hb n sc ρ l (.int a)) (y : Ev prog w hb n sc ρ r (.int b)) (h : cmpInt op a b = some c) (hm : behindInMarks op r = false := by rfl) :
    Ev prog w hb n sc ρ (.Compare l [op] [r] pos) (.bool c) := ev_cmp x y (fun A Z s u v Q E hA hu hv k => by
    obtain ⟨t, rfl⟩ := rep_int hu
    obtain ⟨t', rfl⟩ := rep_int hv
    exact cmp_ints h (k _ (.refl _ _))) hm
theorem evB_eqStr {l r : Expr} {pos : Pos} {a b : Str} (x : Ev prog w hb n sc ρ l (.str a)) (y : Ev prog w hb n sc ρ r (.str b)) (hm : behindInMarks .Eq r = false := by rfl) :
    EvB prog w hb n sc ρ (.Compare l [.Eq] [r] pos) (a == b) := evB_cmp x y (fun A Z s u v Q E hA hu hv k => by
    obtain ⟨t, rfl⟩ := rep_str hu
    obtain ⟨t', rfl⟩ := rep_str hv
    exact PyProof.Rows.eq_str (k _ (.refl _ _))) hm
theorem evB_inStr {l r : Expr} {pos : Pos} {a b : Str} (x : Ev prog w hb n sc ρ l (.str b)) (y : Ev prog w hb n sc ρ r (.str a)) (hm : behindInMarks .In r = false := by rfl) :
    EvB prog w hb n sc ρ (.Compare l [.In] [r] pos) (Txt.contains a b) := evB_cmp x y (fun A Z s u v Q E hA hu hv k => by
    obtain ⟨t, rfl⟩ := rep_str hu
    obtain ⟨t', rfl⟩ := rep_str hv
    exact SB.contains (k _ (.refl _ _))) hm
/-- an int in a tuple of ints -/
theorem evB_inTup {l r : Expr} {pos : Pos} {a : Int} {bs : List Int} (x : Ev prog w hb n sc ρ l (.int a)) (y : Ev prog w hb n sc ρ r (.tup (bs.map D.int))) (hm : behindInMarks .In r = false := by rfl) :
    EvB prog w hb n sc ρ (.Compare l [.In] [r] pos) (bs.any (· == a)) := evB_cmp x y (fun A Z s u v Q E hA hu hv k => by
    obtain ⟨t, rfl⟩ := rep_int hu
    rw [Rep] at hv
    obtain ⟨p, items, rfl, _, hl, hr⟩ := hv
    exact in_tuple_ints hl (ints_of hr) (k _ (.refl _ _))) hm
/-- an int in a list of ints -/
theorem evB_inLst {l r : Expr} {pos : Pos} {a : Int} {bs : List Int} (x : Ev prog w hb n sc ρ l (.int a)) (y : EvL prog w hb n sc ρ r (bs.map D.int)) (hm : behindInMarks .In r = false := by rfl) :
    EvB prog w hb n sc ρ (.Compare l [.In] [r] pos) (bs.any (· == a)) := fun A env Z s Q E hA he rl k =>
  wpAny_isTrue_Compare1 (x A env Z s _ E hA he rl fun u s₁ hu k₁ => y A env Z s₁ _ E hA he (rl.ext k₁.ext) fun p items s₂ hl hr k₂ => by
    obtain ⟨t, rfl⟩ := rep_int hu
    exact in_list_ints (vs := items.toList) (by simpa using hl) (ints_of hr) (wpAny_truthy_bool (k _ (k₁.trans k₂)))) hm
/-- two lists of ints -/
theorem evB_eqLst {op : CmpOp} {c : Bool} {l r : Expr} {pos : Pos} {as bs : List Int} (x : EvL prog w hb n sc ρ l (as.map D.int)) (y : EvL prog w hb n sc ρ r (bs.map D.int)) (h : (op = .Eq ∧ c = decide (as = bs)) ∨ (op = .NotEq ∧ c = !decide (as = bs))) (hm : behindInMarks op r = false := by rfl) :
    EvB prog w hb n sc ρ (.Compare l [op] [r] pos) c := fun A env Z s Q E hA he rl k =>
  wpAny_isTrue_Compare1 (x A env Z s _ E hA he rl fun p items s₁ hl hr k₁ => y A env Z s₁ _ E hA he (rl.ext k₁.ext) fun q its s₂ hl' hr' k₂ => by
    have hu : A.units + 64 < cLine := by have := hA.un; unfold cLine; omega
    have hl := IsList.off hl fun o => k₂.ext.keep _ o
    rcases h with ⟨rfl, rfl⟩ | ⟨rfl, rfl⟩
    · exact eq_intsK (vs := items.toList) (us := its.toList) (by simpa using hl) (ints_of hr) (by simpa using hl') (ints_of hr') hu (wpAny_truthy_bool (k _ (k₁.trans k₂)))
    · exact ne_intsK (vs := items.toList) (us := its.toList) (by simpa using hl) (ints_of hr) (by simpa using hl') (ints_of hr') hu (wpAny_truthy_bool (k _ (k₁.trans k₂)))) hm
theorem ev_eqLst {l r : Expr} {pos : Pos} {as bs : List Int} (x : EvL prog w hb n sc ρ l (as.map D.int)) (y : EvL prog w hb n sc ρ r (bs.map D.int)) (hm : behindInMarks .Eq r = false := by rfl) :
    Ev prog w hb n sc ρ (.Compare l [.Eq] [r] pos) (.bool (decide (as = bs))) := fun A env Z s Q E hA he rl k =>
  wpAny_Compare1 (x A env Z s _ E hA he rl fun p items s₁ hl hr k₁ => y A env Z s₁ _ E hA he (rl.ext k₁.ext) fun q its s₂ hl' hr' k₂ => by
    have hu : A.units + 64 < cLine := by have := hA.un; unfold cLine; omega
    have hl := IsList.off hl fun o => k₂.ext.keep _ o
    exact eq_intsK (vs := items.toList) (us := its.toList) (by simpa using hl) (ints_of hr) (by simpa using hl') (ints_of hr') hu (k _ _ (rep_of_bool _ _ _) (k₁.trans k₂))) hm
/-! truth -/
theorem evB_not {e : Expr} {pos : Pos} {c : Bool} (x : EvB prog w hb n sc ρ e c) : EvB prog w hb n sc ρ (.UnaryOp .Not e pos) (!c) := fun A env Z s Q E hA he rl k =>
  isTrue_not (x A env Z s _ E hA he rl fun s₁ k₁ => k s₁ k₁)
theorem evB_and0 {pos : Pos} : EvB prog w hb n sc ρ (.BoolOp .And [] pos) true := fun A env Z s Q E hA he rl k => isTrue_and_nil (k s (.refl _ _))
theorem evB_and {e : Expr} {es : List Expr} {pos : Pos} {c d : Bool} (x : EvB prog w hb n sc ρ e c) (y : c = true → EvB prog w hb n sc ρ (.BoolOp .And es pos) d) : EvB prog w hb n sc ρ (.BoolOp .And (e :: es) pos) (c && d) := fun A env Z s Q E hA he rl k =>
  isTrue_and (x A env Z s _ E hA he rl fun s₁ k₁ => by
    cases c with
    | false => exact k s₁ k₁
    | true => exact y rfl A env Z s₁ _ E hA he (rl.ext k₁.ext) fun s₂ k₂ => k s₂ (k₁.trans k₂))
/-- the truth of an int -/
theorem evB_truthInt {e : Expr} {a : Int} (x : Ev prog w hb n sc ρ e (.int a)) (he : ∀ env whole, PySem.isTrue e env whole = (do let v ← whole; standAt e.pos; holding [v] (truthy v)) := by intro _ _; rfl) : EvB prog w hb n sc ρ e (a != 0) := fun A env Z s Q E hA h2 rl k =>
  isTrue_plain (x A env Z s _ E hA h2 rl fun u s₁ hu k₁ => by
    obtain ⟨t, rfl⟩ := rep_int hu
    exact PySem.P.truthy_int (k _ k₁)) (he _ _)
theorem evB_truthBool {e : Expr} {a : Bool} (x : Ev prog w hb n sc ρ e (.bool a)) (he : ∀ env whole, PySem.isTrue e env whole = (do let v ← whole; standAt e.pos; holding [v] (truthy v)) := by intro _ _; rfl) : EvB prog w hb n sc ρ e a := fun A env Z s Q E hA h2 rl k =>
  isTrue_plain (x A env Z s _ E hA h2 rl fun u s₁ hu k₁ => by
    rw [rep_bool hu]
    exact wpAny_truthy_bool (k _ k₁)) (he _ _)
theorem evB_truthLst {e : Expr} {ds : List D} (x : EvL prog w hb n sc ρ e ds) (hz : (ds.length : Int) < 2 ^ 63) (he : ∀ env whole, PySem.isTrue e env whole = (do let v ← whole; standAt e.pos; holding [v] (truthy v)) := by intro _ _; rfl) : EvB prog w hb n sc ρ e (!ds.isEmpty) := fun A env Z s Q E hA h2 rl k =>
  isTrue_plain (x A env Z s _ E hA h2 rl fun p items s₁ hl hr k₁ => by
    have e1 := hr.length
    simp only [Array.length_toList] at e1
    refine wpAny_truthy_list hl (by rw [e1]; exact hz) ?_
    have e2 : items.isEmpty = ds.isEmpty := by
      rw [Bool.eq_iff_iff, List.isEmpty_iff, Array.isEmpty_iff]
      constructor
      · rintro rfl; exact List.length_eq_zero_iff.mp e1.symm
      · rintro rfl; exact Array.eq_empty_of_size_eq_zero e1
    rw [e2]; exact k _ (k₁.trans (.tok _ _ _))) (he _ _)
theorem ev_ite {t b o : Expr} {pos : Pos} {c : Bool} {d : D} (x : EvB prog w hb n sc ρ t c) (y : c = true → Ev prog w hb n sc ρ b d) (z : c = false → Ev prog w hb n sc ρ o d) : Ev prog w hb n sc ρ (.IfExp t b o pos) d := fun A env Z s Q E hA he rl k =>
  IfExp_ (x A env Z s _ E hA he rl fun s₁ k₁ => by
    cases c with
    | true => exact y rfl A env Z s₁ _ E hA he (rl.ext k₁.ext) fun v s₂ hv k₂ => k v s₂ hv (k₁.trans k₂)
    | false => exact z rfl A env Z s₁ _ E hA he (rl.ext k₁.ext) fun v s₂ hv k₂ => k v s₂ hv (k₁.trans k₂))
/-! lists of arguments -/
variable (prog w hb n sc ρ) in
noncomputable def Evs (es : List Expr) (ds : List D) : Prop :=
  ∀ (A : Around) (env : Env) (Z : List Addr) (s : Shared) (Q : List Value → Shared → Prop) (E : Value → Shared → Prop) (pos : Pos), Rm n A → env.scope = sc → Rel hb env Z s.heap ρ →
    (∀ vs s', Reps s'.heap Z ds vs → Kp hb s s' → Q vs s') → wpAny (model prog w) A (spliced (backTo pos (starEach es env))) Q E s
theorem evs_nil : Evs prog w hb n sc ρ [] [] := fun A env Z s Q E pos hA he rl k => spliced_nil (k _ _ Reps.nil (.refl _ _))
theorem evs_cons {e : Expr} {es : List Expr} {d : D} {ds : List D} (x : Ev prog w hb n sc ρ e d) (y : Evs prog w hb n sc ρ es ds) (hs : ∀ env, starEach (e :: es) env = (false, eval e env) :: starEach es env := by intro _; rfl) : Evs prog w hb n sc ρ (e :: es) (d :: ds) := fun A env Z s Q E pos hA he rl k => by
  rw [hs]
  exact spliced_cons (x A env Z s _ E hA he rl fun v s₁ hv k₁ => y A env Z s₁ _ E pos hA he (rl.ext k₁.ext) fun vs s₂ hvs k₂ => k _ _ (Reps.cons (hv.ext k₂.ext) hvs) (k₁.trans k₂))
theorem evF_list {es : List Expr} {pos : Pos} {ds : List D} (x : Evs prog w hb n sc ρ es ds) (hz : ds.length ≤ sizeLine) : EvF prog w hb n sc ρ (.List es pos) ds := fun A env Z s Q E hA he rl k =>
  List_ (x A env Z s _ E pos hA he rl fun vs s₁ hr k₁ => by
    refine wpAny_newList ?_ (by rw [hr.length]; exact hz)
    have e : Ext hb s₁.heap (s₁.heap.push { cls := .type "list", data := .seq vs.toArray }) := Ext.push _
    have fr : s₁.heap.get? s₁.heap.objs.size = none := Heap.get?_none_of_le (Nat.le_refl _)
    exact k _ _ _ (k₁.ext.none fr) ⟨0, Heap.get?_push_size _ rfl⟩ ((hr.more (W := [_]) fun b m => by simp at m; subst m; exact fr).ext e) (k₁.trans (.of e)))
theorem ev_tuple {es : List Expr} {k : Nat} {pos : Pos} {ds : List D} (x : Evs prog w hb n sc ρ es ds) (hz : ds.length ≤ sizeLine) : Ev prog w hb n sc ρ (.Tuple es k pos) (.tup ds) := fun A env Z s Q E hA he rl k =>
  Tuple_ (x A env Z s _ E pos hA he rl fun vs s₁ hr k₁ => by
    refine wpAny_newTuple ?_ (by rw [hr.length]; exact hz)
    have e : Ext hb s₁.heap (s₁.heap.push { cls := .type "tuple", data := .seq vs.toArray }) := Ext.push _
    refine k _ _ ?_ (k₁.trans (.of e))
    rw [Rep]
    exact ⟨_, vs.toArray, rfl, (rl.ext k₁.ext).fresh (Heap.get?_none_of_le (Nat.le_refl _)), ⟨_, Heap.get?_push_size _ rfl, rfl, 0, rfl⟩, hr.ext e⟩)
/-! items -/
theorem ev_item {value slice : Expr} {pos : Pos} {ds : List D} {i : Int} {d : D} (x : EvL prog w hb n sc ρ value ds) (y : Ev prog w hb n sc ρ slice (.int i)) (h0 : 0 ≤ i) (hd : ds[i.toNat]? = some d) (hz : ds.length ≤ sizeLine)
    (hs : ∀ a t, subscripted slice false (.ref a) (.int i t) = operate [.ref a, .int i t] (getItem (.ref a) (.int i t)) := by intro _ _; rfl) : Ev prog w hb n sc ρ (.Subscript value slice pos) d := fun A env Z s Q E hA he rl k =>
  Subscript_ (x A env Z s _ E hA he rl fun a items s₁ hl hr k₁ => y A env Z s₁ _ E hA he (rl.ext k₁.ext) fun u s₂ hu k₂ => by
    obtain ⟨t, rfl⟩ := rep_int hu
    have hl := IsList.off hl fun o => k₂.ext.keep _ o
    have hr := hr.ext k₂.ext
    obtain ⟨v, hv, hrv⟩ := hr.get hd
    have hlen : i.toNat < ds.length := (List.getElem?_eq_some_iff.mp hd).1
    have hi : i < 2 ^ 63 := by unfold sizeLine at hz; omega
    refine tail_any hl.typeIs slot_list_getitem.lookup (wpAny_getItem_list hl h0 hi (by simpa using hv) (k _ _ hrv (k₁.trans k₂))) (hs a t))
theorem ev_itemT {value slice : Expr} {pos : Pos} {ds : List D} {i : Int} {d : D} (x : Ev prog w hb n sc ρ value (.tup ds)) (y : Ev prog w hb n sc ρ slice (.int i)) (h0 : 0 ≤ i) (hd : ds[i.toNat]? = some d) (hz : ds.length ≤ sizeLine)
    (hs : ∀ a t, subscripted slice false (.ref a) (.int i t) = operate [.ref a, .int i t] (getItem (.ref a) (.int i t)) := by intro _ _; rfl) : Ev prog w hb n sc ρ (.Subscript value slice pos) d := fun A env Z s Q E hA he rl k =>
  Subscript_ (x A env Z s _ E hA he rl fun u₀ s₁ hu₀ k₁ => y A env Z s₁ _ E hA he (rl.ext k₁.ext) fun u s₂ hu k₂ => by
    rw [Rep] at hu₀
    obtain ⟨a, items, rfl, _, hl, hr⟩ := hu₀
    obtain ⟨t, rfl⟩ := rep_int hu
    have hl := IsTuple.off hl fun o => k₂.ext.keep _ o
    have hr := hr.ext k₂.ext
    obtain ⟨v, hv, hrv⟩ := hr.get hd
    have hlen : i.toNat < ds.length := (List.getElem?_eq_some_iff.mp hd).1
    have e := hr.length
    refine item_tupleT (l := items.toList) (by show Heap.IsTuple _ _ _; simpa using hl) (by unfold sizeLine at hz; omega) (by unfold sizeLine at hz; omega) (seqIndex_of h0 (by rw [e]; omega)) hv (k _ _ hrv (k₁.trans k₂)) (hs a t))
/-! len -/
theorem evL_len {e : Expr} {pos p : Pos} {ds : List D} (hg : ∀ A env Z (s : Shared) Q E, Rm n A → env.scope = sc → Rel hb env Z s.heap ρ → Q (.builtin "len") s → wpAny (model prog w) A (eval (.Name "len" p) env) Q E s)
    (x : EvL prog w hb n sc ρ e ds) (hz : ds.length ≤ sizeLine) (hs : ∀ env, starEach [e] env = [(false, eval e env)] := by intro _; rfl) (hcl : ∀ env, eval (.Call (.Name "len" p) [e] [] pos) env = (do callWith pos (← eval (.Name "len" p) env) [] (backTo pos (starEach [e] env)) (backToKw pos [])) := by intro _; rfl) :
    Ev prog w hb n sc ρ (.Call (.Name "len" p) [e] [] pos) (.int ds.length) := fun A env Z s Q E hA he rl k => by
  rw [hcl]
  refine wpAny_bind (hg A env Z s _ E hA he rl ?_)
  refine PyProof.Rows.callWith_builtin1 ?_ (by rw [hs]; rfl)
  rw [hs]
  refine spliced_cons (x A env Z s _ E hA he rl fun a items s₁ hl hr k₁ => spliced_nil ?_)
  have e1 := hr.length
  simp only [Array.length_toList] at e1
  refine Calls.call_len_list hl (by unfold sizeLine at hz; omega) ?_
  rw [e1]
  exact k _ _ (rep_of_int _ _ _ _) (k₁.trans (.tok _ _ _))
end
end
section
open PySem PySem.W PyProof.Rows PySem.Calls
set_option linter.unusedVariables false
noncomputable def niceO (o : Obj) : Bool := match o.data with
  | .fields _ => (match o.cls with | .type t => !(t == "code") | .none => false | _ => true)
  | _ => true
theorem niceO_tab {o : Obj} (h : niceO o = true) : tabLike o = false := by
  unfold niceO at h
  unfold tabLike
  split <;> simp_all
theorem niceO_code {o : Obj} (h : niceO o = true) {fs : Array Value} (d : o.data = .fields fs) : o.cls ≠ .type "code" := by
  unfold niceO at h
  rw [d] at h
  intro e
  rw [e] at h; simp at h
theorem niceO_of {o : Obj} {t : String} (hc : o.cls = .type t) (ht : (t == "code") = false) : niceO o = true := by
  unfold niceO
  split
  · rw [hc]; simp [ht]
  · rfl
noncomputable def Nice (h : Heap) (b : Addr) : Prop := ∃ o, h.get? b = some o ∧ niceO o = true
theorem Nice.off {h h' : Heap} {b : Addr} (x : Nice h b) (k : ∀ o, tabLike o = false → h.get? b = some o → h'.get? b = some o) : Nice h' b := let ⟨o, a, t⟩ := x; ⟨o, k o (niceO_tab t) a, t⟩
theorem Nice.ext {hb h h' : Heap} {b : Addr} (x : Nice h b) (e : Ext hb h h') : Nice h' b := x.off fun o => e.keep b o
theorem Nice.ntab {h : Heap} {b : Addr} (x : Nice h b) : ∃ o, h.get? b = some o ∧ tabLike o = false := let ⟨o, a, t⟩ := x; ⟨o, a, niceO_tab t⟩
/-- a record of fields (an iterator) -/
noncomputable def IsF (h : Heap) (b : Addr) : Prop := ∃ o fs, h.get? b = some o ∧ o.data = .fields fs ∧ niceO o = true
theorem IsF.nice {h : Heap} {b : Addr} (x : IsF h b) : Nice h b := let ⟨o, _, a, _, t⟩ := x; ⟨o, a, t⟩
theorem IsF.ne_ns {h : Heap} {a b : Addr} {m : Str → Option Value} (x : IsF h b) (y : h.Ns a m) : a ≠ b := by
  rintro rfl
  obtain ⟨o, fs, ho, hd, _⟩ := x
  obtain ⟨o', es, ep, ho', hd', _⟩ := y
  rw [ho] at ho'; cases ho'; rw [hd] at hd'; cases hd'
theorem IsF.ne_cell {h : Heap} {a b : Addr} {v : Option Value} (x : IsF h b) (y : h.IsCell a v) : a ≠ b := by
  rintro rfl
  obtain ⟨o, fs, ho, hd, _⟩ := x
  obtain ⟨o', ho', hd'⟩ := y
  rw [ho] at ho'; cases ho'; rw [hd] at hd'; cases hd'
theorem IsF.ne_list {h : Heap} {a b : Addr} {items : Array Value} (x : IsF h b) (y : h.IsList a items) : a ≠ b := by
  rintro rfl
  obtain ⟨o, fs, ho, hd, _⟩ := x
  obtain ⟨o', ho', _, n, hd'⟩ := y
  rw [ho] at ho'; cases ho'; rw [hd] at hd'; cases hd'
theorem nice_list {h : Heap} {b : Addr} {items : Array Value} (x : h.IsList b items) : Nice h b := by
  obtain ⟨o, ho, hc, n, hd⟩ := x
  exact ⟨o, ho, by unfold niceO; rw [hd]⟩
theorem nice_tuple {h : Heap} {b : Addr} {items : Array Value} (x : h.IsTuple b items) : Nice h b := by
  obtain ⟨o, ho, hc, n, hd⟩ := x
  exact ⟨o, ho, by unfold niceO; rw [hd]⟩
theorem nice_ns {h : Heap} {b : Addr} {m : Str → Option Value} (x : h.Ns b m) : Nice h b := by
  obtain ⟨o, es, ep, ho, hd, _⟩ := x
  exact ⟨o, ho, by unfold niceO; rw [hd]⟩
theorem nice_cell {h : Heap} {b : Addr} {v : Option Value} (x : h.IsCell b v) : Nice h b := by
  obtain ⟨o, ho, hd⟩ := x
  exact ⟨o, ho, by unfold niceO; rw [hd]⟩
theorem Tab1.touchW {P : Addr} {l c : Int} {q : Str} {h h' : Heap} {W : List Addr} (x : Tab1 P l c q h) (k : ∀ b o, b ∉ W → h.get? b = some o → h'.get? b = some o) (nice : ∀ b ∈ W, Nice h b) : Tab1 P l c q h' := by
  have ne : ∀ vs, h.get? P = some (X.tableObj vs) → P ∉ W := by
    intro vs e hm
    obtain ⟨o, ho, ht⟩ := nice P hm
    rw [e] at ho; cases ho; cases ht
  rcases x with x | ⟨c, oc, fs, t, x, y, z⟩
  · exact .inl (k _ _ (ne _ x) x)
  · refine .inr ⟨c, oc, fs, t, k _ _ (ne _ x) x, k _ _ ?_ y, z⟩
    intro hm
    obtain ⟨o, ho, hc⟩ := nice c hm
    rw [y] at ho; cases ho; exact niceO_code hc z.2.1 z.1
theorem G.touchW {hb h h' : Heap} {W : List Addr} (x : G hb h) (k : ∀ b o, b ∉ W → h.get? b = some o → h'.get? b = some o) (nice : ∀ b ∈ W, Nice h b) (hf : ∀ b ∈ W, hb.get? b = none) : G hb h' := by
  have nm : ∀ b o, hb.get? b = some o → b ∉ W := fun b o e hm => by rw [hf b hm] at e; cases e
  exact ⟨fun b o t e => k _ _ (nm b o e) (x.old b o t e), fun b o e => let ⟨o', e'⟩ := x.live b o e; ⟨o', k _ _ (nm b o e) e'⟩, ⟨x.tab.1.touchW k nice, x.tab.2.touchW k nice⟩, fun b o h1 h2 e => k _ _ (nm b o e) (x.oth b o h1 h2 e)⟩
/-- but for W all is kept (tables aside) -/
structure Kb (hb : Heap) (W : List Addr) (h h' : Heap) : Prop where
  keep : ∀ b o, b ∉ W → tabLike o = false → h.get? b = some o → h'.get? b = some o
  live : ∀ b o, b ∉ W → h.get? b = some o → ∃ o', h'.get? b = some o'
  g : G hb h → G hb h'
theorem Kb.refl (hb : Heap) (W : List Addr) (h : Heap) : Kb hb W h h := ⟨fun _ _ _ _ e => e, fun _ o _ e => ⟨o, e⟩, id⟩
theorem Kb.ext {hb h h' : Heap} {W : List Addr} (e : Ext hb h h') : Kb hb W h h' := ⟨fun b o _ t x => e.keep b o t x, fun b o _ x => e.live b o x, e.g⟩
theorem Kb.trans {hb h h' h'' : Heap} {W : List Addr} (x : Kb hb W h h') (y : Kb hb W h' h'') : Kb hb W h h'' :=
  ⟨fun b o m t e => y.keep b o m t (x.keep b o m t e), fun b o m e => let ⟨o', e'⟩ := x.live b o m e; y.live b o' m e', fun g => y.g (x.g g)⟩
theorem Kb.more {hb h h' : Heap} {W W' : List Addr} (x : Kb hb W h h') (m : ∀ b ∈ W, b ∈ W') : Kb hb W' h h' := ⟨fun b o hb t e => x.keep b o (fun q => hb (m b q)) t e, fun b o hb e => x.live b o (fun q => hb (m b q)) e, x.g⟩
theorem Kb.of {hb h h' : Heap} {W : List Addr} (k : ∀ b o, b ∉ W → h.get? b = some o → h'.get? b = some o) (nice : ∀ b ∈ W, Nice h b) (hf : ∀ b ∈ W, hb.get? b = none) : Kb hb W h h' :=
  ⟨fun b o m _ e => k b o m e, fun b o m e => ⟨o, k b o m e⟩, fun g => g.touchW k nice hf⟩
theorem Kb.same {hb h h' : Heap} {a : Addr} (s : Heap.SameBut a h h') (nice : Nice h a) (hf : hb.get? a = none) : Kb hb [a] h h' :=
  Kb.of (fun b o m e => (s.2 b (fun q => m (by simp [q]))).trans e) (fun b m => by simp at m; subst m; exact nice) (fun b m => by simp at m; subst m; exact hf)
/-- what is new to the first heap is no part of it -/
theorem Kb.toExt {hb h₀ h h' : Heap} {W : List Addr} (x : Kb hb W h h') (e : Ext hb h₀ h) (n : ∀ b ∈ W, h₀.get? b = none) : Ext hb h₀ h' where
  keep := fun b o t q => x.keep b o (fun m => by rw [n b m] at q; cases q) t (e.keep b o t q)
  live := fun b o q => let ⟨o', e'⟩ := e.live b o q; x.live b o' (fun m => by rw [n b m] at q; cases q) e'
  g := fun g => x.g (e.g g)
theorem Rep.kb {hb h h' : Heap} {W Z : List Addr} {d : D} {v : Value} (x : Rep h Z d v) (k : Kb hb W h h') (m : ∀ b ∈ W, b ∈ Z) : Rep h' Z d v :=
  Rep.mono (fun b o hn t e => ⟨k.keep b o (fun q => hn (m b q)) t e, hn⟩) d v x
theorem Reps.kb {hb h h' : Heap} {W Z : List Addr} {d : List D} {v : List Value} (x : Reps h Z d v) (k : Kb hb W h h') (m : ∀ b ∈ W, b ∈ Z) : Reps h' Z d v :=
  Reps.mono (fun b o hn t e => ⟨k.keep b o (fun q => hn (m b q)) t e, hn⟩) d v x
/-- the place of a name -/
noncomputable def StoreAt (env : Env) (h : Heap) (x : Str) (q : Addr) : Prop :=
  (env.kindOf x = some .local ∧ q = env.locals ∧ ∃ m, h.Ns env.locals m) ∨ (env.kindOf x = some .cell ∧ env.cells.lookup x = some q ∧ ∃ v, h.IsCell q v)
theorem StoreAt.nice {env : Env} {h : Heap} {x : Str} {q : Addr} (y : StoreAt env h x q) : Nice h q := by
  rcases y with ⟨_, rfl, m, hn⟩ | ⟨_, _, v, hv⟩
  · exact nice_ns hn
  · exact nice_cell hv
theorem StoreAt.off {env : Env} {h h' : Heap} {x : Str} {q : Addr} (y : StoreAt env h x q) (k : ∀ o, tabLike o = false → h.get? q = some o → h'.get? q = some o) : StoreAt env h' x q := by
  rcases y with ⟨a, rfl, m, hn⟩ | ⟨a, b, v, hv⟩
  · exact .inl ⟨a, rfl, m, Ns.off hn k⟩
  · exact .inr ⟨a, b, v, IsCell.off hv k⟩
section
variable {prog : Program} {w : World} {hb : Heap}
theorem ns_cell_ne {h : Heap} {a c : Addr} {m : Str → Option Value} {v : Option Value} (x : h.Ns a m) (y : h.IsCell c v) : a ≠ c := by
  rintro rfl
  obtain ⟨o, es, ep, ho, hd, _⟩ := x
  obtain ⟨o', ho', hd'⟩ := y
  rw [ho] at ho'; cases ho'; rw [hd] at hd'; cases hd'
/-- a store into a name -/
theorem store_var {A : Around} {env : Env} {s : Shared} {x : Str} {q : Addr} {v : Value} {Q : Unit → Shared → Prop} {E : Value → Shared → Prop} (hk : env.scope.kind = .function) (st : StoreAt env s.heap x q)
    (hap : ∀ y, env.cells.lookup y = some q → y = x)
    (h : ∀ h' tk, Heap.SameBut q s.heap h' → StoreAt env h' x q → VarAt env h' x v → (∀ y u, y ≠ x → VarAt env s.heap y u → VarAt env h' y u) → Q () { s with heap := h', toks := tk }) :
    wpAny (model prog w) A (storeName env x v) Q E s := by
  rcases st with ⟨a, rfl, m, hn⟩ | ⟨a, b, v₀, hv⟩
  · refine wpAny_storeName_local a hn (fun h' hn' hs' => ?_) (by rw [hk]; rfl)
    refine h h' _ hs' (.inl ⟨a, rfl, _, hn'⟩) (.inl ⟨a, _, hn', by simp⟩) fun y u hy hu => ?_
    rcases hu with ⟨a', m', b', c'⟩ | ⟨a', c, b', d'⟩
    · refine .inl ⟨a', _, hn', ?_⟩
      rw [if_neg hy, ← c']
      exact Heap.Ns.agree hn b' y
    · exact .inr ⟨a', c, b', d'.sameBut hs' (Ne.symm (ns_cell_ne hn d'))⟩
  · refine wpAny_storeName_cell hk a b hv fun h' hv' hs' => ?_
    refine h h' s.toks hs' (.inr ⟨a, b, _, hv'⟩) (.inr ⟨.inl a, q, b, hv'⟩) fun y u hy hu => ?_
    rcases hu with ⟨a', m', b', c'⟩ | ⟨a', c, b', d'⟩
    · exact .inl ⟨a', m', b'.sameBut hs' (ns_cell_ne b' hv), c'⟩
    · refine .inr ⟨a', c, b', d'.sameBut hs' ?_⟩
      rintro rfl
      exact hy (hap y b')
/-- the frame behind a store -/
theorem Rel.stored {env : Env} {Z : List Addr} {h h' : Heap} {ρ : Vars} {x : Str} {q : Addr} {d : D} {v : Value} (r : Rel hb env Z h ρ) (hq : q ∈ Z) (hs : Heap.SameBut q h h') (st : StoreAt env h x q) (hbq : hb.get? q = none) (st' : StoreAt env h' x q) (hv : VarAt env h' x v)
    (hd : Rep h Z d v) (ho : ∀ y u, y ≠ x → VarAt env h y u → VarAt env h' y u) (hlist : ∀ a items, h.IsList a items → a ≠ q) (hx : ∀ p ∈ ρ, p.1 ≠ x) : Rel hb env Z h' ((x, .val d) :: ρ) := by
  have kb : Kb hb [q] h h' := Kb.same hs st.nice hbq
  have mq : ∀ b ∈ [q], b ∈ Z := fun b m => by simp at m; subst m; exact hq
  refine ⟨kb.g r.g, r.kind, r.glob, r.blt, fun a ha => ?_, fun y e hm => ?_, fun y pl es hm => ?_⟩
  · by_cases hqa : a = q
    · subst hqa; exact st'.nice.ntab
    · obtain ⟨o, ho, t⟩ := r.live a ha
      exact ⟨o, kb.keep a o (by simpa using hqa) t ho, t⟩
  · rcases List.mem_cons.mp hm with q' | hm
    · cases q'; exact ⟨v, hv, hd.kb kb mq⟩
    · obtain ⟨u, a, b⟩ := r.val y e hm
      exact ⟨u, ho y u (hx _ hm) a, b.kb kb mq⟩
  · rcases List.mem_cons.mp hm with q' | hm
    · cases q'
    · obtain ⟨a, items, v', l, b⟩ := r.own y pl es hm
      exact ⟨a, items, ho y _ (hx _ hm) v', OwnList.off l fun o t e => kb.keep a o (by simpa using hlist a items l.1) t e, b.kb kb mq⟩
theorem list_ne_store {env : Env} {h : Heap} {x : Str} {q : Addr} (st : StoreAt env h x q) : ∀ a items, h.IsList a items → a ≠ q := by
  rintro a items ⟨o, ho, hc, n, hd⟩ rfl
  rcases st with ⟨_, rfl, m, ⟨o', es, ep, ho', hd', _⟩⟩ | ⟨_, _, v, ⟨o', ho', hd'⟩⟩
  · rw [ho] at ho'; cases ho'; rw [hd] at hd'; cases hd'
  · rw [ho] at ho'; cases ho'; rw [hd] at hd'; cases hd'
/-! iteration -/
structure Iter (prog : Program) (w : World) (hb h₀ : Heap) (Z : List Addr) (ds : List D) (I : Addr) (fp wr : List Addr) (P : Nat → Value → Prop) (St : Nat → Heap → Prop) (h : Heap) : Prop where
  W : ∀ A', A'.handled = none → Walks prog w A' I fp wr ds.length P St
  st : St 0 h
  lt : ∀ b ∈ fp, b < h.objs.size
  new : ∀ b ∈ wr, h₀.get? b = none
  off : ∀ b ∈ fp, b ∉ Z
  nice : ∀ i h', St i h' → ∀ b ∈ fp, Nice h' b
  fld : ∀ i h', St i h' → ∀ b ∈ wr, IsF h' b
  item : ∀ i v, P i v → ∃ d, ds[i]? = some d ∧ Rep h (wr ++ Z) d v
variable (prog w hb) in
noncomputable def It (n : Nat) (sc : Scope) (ρ : Vars) (e : Expr) (ds : List D) : Prop :=
  ∀ (A : Around) (env : Env) (Z : List Addr) (s : Shared) (Q : Value → Shared → Prop) (E : Value → Shared → Prop), Rm n A → env.scope = sc → Rel hb env Z s.heap ρ →
    (∀ I fp wr P St s', Kp hb s s' → Iter prog w hb s.heap Z ds I fp wr P St s'.heap → Q (.ref I) s') → wpAny (model prog w) A (eval e env) (fun xv s₁ => wpAny (model prog w) A (pyIter xv) Q E s₁) E s
variable {n : Nat} {sc : Scope} {ρ : Vars}
theorem isF_listiter {h : Heap} {a l : Addr} {i : Nat} (x : h.IsListIter a l i) : IsF h a := by
  obtain ⟨o, ho, hc, hd⟩ := x
  exact ⟨o, _, ho, hd, niceO_of hc (by decide)⟩
theorem isF_tupiter {h : Heap} {a l : Addr} {i : Nat} (x : h.IsTupleIter a l i) : IsF h a := by
  obtain ⟨o, ho, hc, hd⟩ := x
  exact ⟨o, _, ho, hd, niceO_of hc (by decide)⟩
theorem it_list {e : Expr} {ds : List D} (x : Ev prog w hb n sc ρ e (.lst ds)) : It prog w hb n sc ρ e ds := fun A env Z s Q E hA he rl k => x A env Z s _ E hA he rl fun v s₁ hv k₁ => by
  rw [Rep] at hv
  obtain ⟨a, items, rfl, ha, hl, hr⟩ := hv
  refine wpAny_pyIter_list hl ?_
  have ex : Ext hb s₁.heap (s₁.heap.push { cls := .type "list_iterator", data := .fields #[.ref a, .int 0 0] }) := Ext.push _
  have hne : a ≠ s₁.heap.objs.size := by obtain ⟨o, ho, _⟩ := id hl; exact Nat.ne_of_lt (Heap.lt_size ho)
  have hsz : items.size = ds.length := by have := hr.length; simpa using this
  have fr : s₁.heap.get? s₁.heap.objs.size = none := Heap.get?_none_of_le (Nat.le_refl _)
  refine k _ [s₁.heap.objs.size, a] [s₁.heap.objs.size] (fun i v => items[i]? = some v) (fun i h => h.IsListIter s₁.heap.objs.size a i ∧ h.IsList a items) _ (k₁.trans (.of ex)) ⟨fun A' h' => hsz ▸ Walks.list h' _ a hne items,
    ⟨⟨_, Heap.get?_push_size _ rfl, rfl, rfl⟩, IsList.off hl fun o => ex.keep _ o⟩, ?_, ?_, ?_, ?_, fun i h' hh b hb' => by simp at hb'; subst hb'; exact isF_listiter hh.1, ?_⟩
  · intro b hb'
    obtain ⟨o, ho, _⟩ := id hl
    have lt := Heap.lt_size ho
    simp only [Heap.size_push]
    rcases List.mem_cons.mp hb' with rfl | hb'
    · exact Nat.lt_succ_self _
    · simp at hb'; subst hb'; exact Nat.lt_succ_of_lt lt
  · intro b hb'; simp at hb'; subst hb'; exact k₁.ext.none fr
  · intro b hb'
    rcases List.mem_cons.mp hb' with rfl | hb'
    · exact (rl.ext k₁.ext).fresh fr
    · simp at hb'; subst hb'; exact ha
  · rintro i h' ⟨h1, h2⟩ b hb'
    rcases List.mem_cons.mp hb' with rfl | hb'
    · exact (isF_listiter h1).nice
    · simp at hb'; subst hb'; exact nice_list h2
  · intro i v hv
    obtain ⟨d, e1, e2⟩ := hr.get' (i := i) (v := v) (by simpa using hv)
    exact ⟨d, e1, (e2.more fun a' h => by simp at h; subst h; exact fr).ext ex⟩
theorem it_tup {e : Expr} {ds : List D} (x : Ev prog w hb n sc ρ e (.tup ds)) : It prog w hb n sc ρ e ds := fun A env Z s Q E hA he rl k => x A env Z s _ E hA he rl fun v s₁ hv k₁ => by
  rw [Rep] at hv
  obtain ⟨a, items, rfl, ha, hl, hr⟩ := hv
  refine wpAny_pyIter_tuple hl ?_
  have ex : Ext hb s₁.heap (s₁.heap.push { cls := .type "tuple_iterator", data := .fields #[.ref a, .int 0 0] }) := Ext.push _
  have hne : a ≠ s₁.heap.objs.size := by obtain ⟨o, ho, _⟩ := id hl; exact Nat.ne_of_lt (Heap.lt_size ho)
  have hsz : items.size = ds.length := by have := hr.length; simpa using this
  have fr : s₁.heap.get? s₁.heap.objs.size = none := Heap.get?_none_of_le (Nat.le_refl _)
  refine k _ [s₁.heap.objs.size, a] [s₁.heap.objs.size] (fun i v => items[i]? = some v) (fun i h => h.IsTupleIter s₁.heap.objs.size a i ∧ h.IsTuple a items) _ (k₁.trans (.of ex)) ⟨fun A' h' => hsz ▸ Walks.tuple h' _ a hne items,
    ⟨⟨_, Heap.get?_push_size _ rfl, rfl, rfl⟩, IsTuple.off hl fun o => ex.keep _ o⟩, ?_, ?_, ?_, ?_, fun i h' hh b hb' => by simp at hb'; subst hb'; exact isF_tupiter hh.1, ?_⟩
  · intro b hb'
    obtain ⟨o, ho, _⟩ := id hl
    have lt := Heap.lt_size ho
    simp only [Heap.size_push]
    rcases List.mem_cons.mp hb' with rfl | hb'
    · exact Nat.lt_succ_self _
    · simp at hb'; subst hb'; exact Nat.lt_succ_of_lt lt
  · intro b hb'; simp at hb'; subst hb'; exact k₁.ext.none fr
  · intro b hb'
    rcases List.mem_cons.mp hb' with rfl | hb'
    · exact (rl.ext k₁.ext).fresh fr
    · simp at hb'; subst hb'; exact ha
  · rintro i h' ⟨h1, h2⟩ b hb'
    rcases List.mem_cons.mp hb' with rfl | hb'
    · exact (isF_tupiter h1).nice
    · simp at hb'; subst hb'; exact nice_tuple h2
  · intro i v hv
    obtain ⟨d, e1, e2⟩ := hr.get' (i := i) (v := v) (by simpa using hv)
    exact ⟨d, e1, (e2.more fun a' h => by simp at h; subst h; exact fr).ext ex⟩
/-- range(k) -/
noncomputable def rangeD (k : Int) : List D := (List.range k.toNat).map fun (i : Nat) => D.int (i : Int)
theorem range_small {k : Int} (h0 : -(2 ^ 60) < k) (h : k < 2 ^ 60) : Builtin.Range.small 0 k 1 = true ∧ Builtin.Range.rangeSize 0 k 1 = (k.toNat : Int) := by
  have e : Builtin.Range.rangeSize 0 k 1 = (k.toNat : Int) := by
    unfold Builtin.Range.rangeSize
    rw [if_pos (by decide)]
    split <;> omega
  refine ⟨?_, e⟩
  unfold Builtin.Range.small
  rw [e]
  simp only [Builtin.Range.rangeFitsLong, Bool.and_eq_true, Bool.or_eq_true, decide_eq_true_eq]
  refine ⟨⟨⟨⟨?_, ?_⟩, ?_⟩, ?_⟩, .inr ?_⟩ <;> (try rw [if_pos (by decide)]) <;> (try simp only [decide_eq_true_eq, Bool.and_eq_true]) <;> omega
theorem it_range {e : Expr} {pos p : Pos} {kk : Int} (hg : ∀ A env Z (s : Shared) Q E, Rm n A → env.scope = sc → Rel hb env Z s.heap ρ → Q (.type "range") s → wpAny (model prog w) A (eval (.Name "range" p) env) Q E s)
    (x : Ev prog w hb n sc ρ e (.int kk)) (hk0 : -(2 ^ 60) < kk) (hk : kk < 2 ^ 60) (hs : ∀ env, starEach [e] env = [(false, eval e env)] := by intro _; rfl) (hcl : ∀ env, eval (.Call (.Name "range" p) [e] [] pos) env = (do callWith pos (← eval (.Name "range" p) env) [] (backTo pos (starEach [e] env)) (backToKw pos [])) := by intro _; rfl) :
    It prog w hb n sc ρ (.Call (.Name "range" p) [e] [] pos) (rangeD kk) := fun A env Z s Q E hA he rl k => by
  rw [hcl]
  refine wpAny_bind (hg A env Z s _ E hA he rl ?_)
  refine PyProof.Rows.callWith_type1 ?_ (by rw [hs]; rfl)
  rw [hs]
  refine spliced_cons (x A env Z s _ E hA he rl fun u s₁ hu k₁ => spliced_nil ?_)
  obtain ⟨t, rfl⟩ := rep_int hu
  refine PySem.call_range_1 ?_
  obtain ⟨sm, rs⟩ := range_small hk0 hk
  refine wpAny_pyIter_range (IsRange.new _ _ _ _ _ _ _) sm ?_
  have e1 : Ext hb s₁.heap (s₁.heap.push { cls := .type "range", data := .fields #[.int 0 s₁.toks, .int kk t, .int 1 (s₁.toks + 1)] }) := Ext.push _
  generalize hH : s₁.heap.push { cls := .type "range", data := .fields #[.int 0 s₁.toks, .int kk t, .int 1 (s₁.toks + 1)] } = H at *
  have e2 : Ext hb H (H.push { cls := .type "range_iterator", data := .fields #[rawInt 0, rawInt (Builtin.Range.rangeSize 0 kk 1), rawInt 1] }) := Ext.push _
  have ex := e1.trans e2
  have fr : H.get? H.objs.size = none := Heap.get?_none_of_le (Nat.le_refl _)
  refine k _ [H.objs.size] [H.objs.size] _ _ _ (k₁.trans (.of' ex)) ⟨fun A' h' => by
      have W := (Walks.range (prog := prog) (w := w) h' H.objs.size 0 1 kk.toNat).bound
      simpa [rangeD] using W, ?_, ?_, ?_, ?_, ?_, fun i h' hi b hb' => by simp at hb'; subst hb'; exact ⟨_, _, hi, rfl, niceO_of rfl (by decide)⟩, ?_⟩
  · show IsRangeIter _ _ _ _ _
    rw [rs]
    have := Heap.get?_push_size H (o := { cls := .type "range_iterator", data := .fields #[rawInt 0, rawInt (kk.toNat : Int), rawInt 1] }) rfl
    simpa [IsRangeIter] using this
  · intro b hb'; simp at hb'; subst hb'; simp [Heap.size_push]
  · intro b hb'; simp at hb'; subst hb'; exact k₁.ext.none (e1.none fr)
  · intro b hb'; simp at hb'; subst hb'; exact ((rl.ext k₁.ext).ext e1).fresh fr
  · intro i h' hi b hb'; simp at hb'; subst hb'
    exact ⟨_, hi, niceO_of rfl (by decide)⟩
  · rintro i v ⟨hlt, t', rfl⟩
    refine ⟨.int i, ?_, ?_⟩
    · simp [rangeD, hlt]
    · have := rep_of_int (H.push { cls := .type "range_iterator", data := .fields #[rawInt 0, rawInt (Builtin.Range.rangeSize 0 kk 1), rawInt 1] }) ([H.objs.size] ++ Z) i t'
      simpa using this
/-! comprehensions -/
variable (prog w hb) in
noncomputable def Tst (n : Nat) (sc : Scope) (ρ : Vars) (ifs : List Expr) (b : Bool) : Prop :=
  ∀ (A : Around) (env : Env) (Z : List Addr) (s : Shared) (Q : Bool → Shared → Prop) (E : Value → Shared → Prop), Rm n A → env.scope = sc → Rel hb env Z s.heap ρ → (∀ s', Kp hb s s' → Q b s') →
    wpAny (model prog w) A (forIn ifs true fun c r => if r = true then do let ok ← PySem.isTrue c env (eval c env); pure (ForInStep.yield ok) else pure (ForInStep.yield r)) Q E s
theorem tst_nil : Tst prog w hb n sc ρ [] true := fun A env Z s Q E hA he rl k => wpAny_tests_nil (k s (.refl _ _))
theorem tst_one {e : Expr} {b : Bool} (x : EvB prog w hb n sc ρ e b) : Tst prog w hb n sc ρ [e] b := fun A env Z s Q E hA he rl k => wpAny_tests_one (x A env Z s _ E hA he rl k)
theorem VarAt.fn {env : Env} {h : Heap} {y : Str} {u v : Value} (a : VarAt env h y u) (b : VarAt env h y v) : u = v := by
  rcases a with ⟨a1, m, a2, a3⟩ | ⟨a1, c, a2, a3⟩ <;> rcases b with ⟨b1, m', b2, b3⟩ | ⟨b1, c', b2, b3⟩
  · have := Heap.Ns.agree a2 b2 y
    rw [a3, b3] at this; exact Option.some.inj this
  · rw [a1] at b1; rcases b1 with b1 | b1 <;> cases b1
  · rw [b1] at a1; rcases a1 with a1 | a1 <;> cases a1
  · rw [a2] at b2; cases b2
    obtain ⟨o, ho, hd⟩ := a3
    obtain ⟨o', ho', hd'⟩ := b3
    rw [ho] at ho'; cases ho'; rw [hd] at hd'; cases hd'; rfl
theorem VarAt.touchF {env : Env} {W : List Addr} {h h' : Heap} {y : Str} {u : Value} (x : VarAt env h y u) (k : ∀ b o, b ∉ W → h.get? b = some o → h'.get? b = some o) (f : ∀ b ∈ W, IsF h b) : VarAt env h' y u := by
  rcases x with ⟨a1, m, a2, a3⟩ | ⟨a1, c, a2, a3⟩
  · exact .inl ⟨a1, m, Ns.off a2 fun o t e => k _ o (fun q => (f _ q).ne_ns a2 rfl) e, a3⟩
  · exact .inr ⟨a1, c, a2, IsCell.off a3 fun o t e => k _ o (fun q => (f _ q).ne_cell a3 rfl) e⟩
/-- a step of an iterator is no matter to the names -/
theorem Rel.touchF {env : Env} {Z W : List Addr} {h h' : Heap} (r : Rel hb env Z h ρ) (k : ∀ b o, b ∉ W → h.get? b = some o → h'.get? b = some o) (f : ∀ b ∈ W, IsF h b) (f' : ∀ b ∈ W, IsF h' b) (hf : ∀ b ∈ W, hb.get? b = none) (m : ∀ b ∈ W, b ∈ Z) : Rel hb env Z h' ρ := by
  have kb : Kb hb W h h' := Kb.of k (fun b q => (f b q).nice) hf
  have va : ∀ y u, VarAt env h y u → VarAt env h' y u := fun y u x => x.touchF k f
  refine ⟨kb.g r.g, r.kind, r.glob, r.blt, fun a ha => ?_, fun y d hm => ?_, fun y pl es hm => ?_⟩
  · by_cases hw' : a ∈ W
    · exact (f' a hw').nice.ntab
    · obtain ⟨o, ho, t⟩ := r.live a ha
      exact ⟨o, k a o hw' ho, t⟩
  · obtain ⟨u, a, b⟩ := r.val y d hm
    exact ⟨u, va _ _ a, b.kb kb m⟩
  · obtain ⟨a, items, v, l, b⟩ := r.own y pl es hm
    exact ⟨a, items, va _ _ v, OwnList.off l fun o t e => kb.keep _ o (fun q => (f _ q).ne_list l.1 rfl) t e, b.kb kb m⟩
theorem take_filter_map (p : D → Bool) (f : D → D) (ds : List D) (j : Nat) (d : D) (h : ds[j]? = some d) : ((ds.take (j + 1)).filter p).map f = ((ds.take j).filter p).map f ++ (if p d then [f d] else []) := by
  rw [List.take_add_one, h, List.filter_append, List.map_append]
  cases hp : p d <;> simp [hp]
theorem comp_loop {A : Around} (hA : Rm n A) {cenv : Env} {x : Str} {px : Pos} {elt iter : Expr} {ifs : List Expr} {scope : Scope} {pos : Pos} {I Dl q : Addr} {fp wr Z : List Addr} {P : Nat → Value → Prop} {St : Nat → Heap → Prop} {ds : List D} {s : Shared} {R : Result → Shared → Prop}
    (p : D → Bool) (f : D → D) (cap : Vars)
    (W : Walks prog w A I fp wr ds.length P St) (nice : ∀ i h', St i h' → ∀ b ∈ fp, Nice h' b) (fld : ∀ i h', St i h' → ∀ b ∈ wr, IsF h' b)
    (item : ∀ i v, P i v → ∃ d, ds[i]? = some d ∧ Rep s.heap (Dl :: q :: (wr ++ Z)) d v)
    (st : St 0 s.heap) (hD : s.heap.PlainList Dl #[]) (hDf : Dl ∉ fp) (hqf : q ∉ fp) (hDq : Dl ≠ q)
    (hst : StoreAt cenv s.heap x q) (hap : ∀ y, cenv.cells.lookup y = some q → y = x)
    (rel : Rel hb cenv (Dl :: q :: (wr ++ Z)) s.heap cap) (capx : ∀ p ∈ cap, p.1 ≠ x)
    (ov : ∀ y pl es, (y, Slot.own pl es) ∈ cap → ∃ a, a ≠ Dl ∧ VarAt cenv s.heap y (.ref a))
    (hbD : hb.get? Dl = none) (hbq : hb.get? q = none) (hbw : ∀ b ∈ wr, hb.get? b = none)
    (htest : ∀ d ∈ ds, Tst prog w hb n cenv.scope ((x, .val d) :: cap) ifs (p d))
    (helt : ∀ d ∈ ds, p d = true → Ev prog w hb n cenv.scope ((x, .val d) :: cap) elt (f d))
    (hR : ∀ h' tk ys, h'.PlainList Dl ys → Reps h' (Dl :: q :: (wr ++ Z)) ((ds.filter p).map f) ys.toList → StoreAt cenv h' x q → Kb hb (Dl :: q :: wr) s.heap h' → R (.ok .next) { s with heap := h', toks := tk })
    (hsz : ds.length ≤ sizeLine) :
    codeAny (model prog w) A (.compLoop (.ListComp elt [⟨.Name x px, iter, ifs, 0⟩] scope pos) 0 (.ref I) (.ref Dl) cenv) R s := by
  have hwf := W.sub
  refine codeAny_compLoop_tests
    (fun k s' => ∃ h' tk j ys, s' = { s with heap := h', toks := tk } ∧ St j h' ∧ h'.PlainList Dl ys ∧ Reps h' (Dl :: q :: (wr ++ Z)) (((ds.take j).filter p).map f) ys.toList ∧ j ≤ ds.length ∧ k = ds.length + 1 - j ∧
      StoreAt cenv h' x q ∧ Rel hb cenv (Dl :: q :: (wr ++ Z)) h' cap ∧ Kb hb (Dl :: q :: wr) s.heap h' ∧ ∀ y pl es, (y, Slot.own pl es) ∈ cap → ∃ a, a ≠ Dl ∧ VarAt cenv h' y (.ref a)) ?_ (ds.length + 1)
    ⟨s.heap, s.toks, 0, #[], rfl, st, hD, by simpa using Reps.nil, Nat.zero_le _, rfl, hst, rel, Kb.refl _ _ _, ov⟩
  rintro k s' ⟨H, tk, j, ys, rfl, hst', hl', hr', hj, rfl, sa', rel', kb', ov'⟩
  have inW : ∀ b ∈ Dl :: q :: wr, b ∈ Dl :: q :: (wr ++ Z) := fun b m => by
    rcases List.mem_cons.mp m with rfl | m
    · exact List.mem_cons_self
    · rcases List.mem_cons.mp m with rfl | m
      · exact List.mem_cons_of_mem _ List.mem_cons_self
      · exact List.mem_cons_of_mem _ (List.mem_cons_of_mem _ (List.mem_append_left _ m))
  have qW : q ∉ wr := fun m => hqf (hwf q m)
  have DW : Dl ∉ wr := fun m => hDf (hwf Dl m)
  have wrW : ∀ b ∈ wr, b ∈ Dl :: q :: wr := fun b m => List.mem_cons_of_mem _ (List.mem_cons_of_mem _ m)
  have wrZ : ∀ b ∈ wr, b ∈ Dl :: q :: (wr ++ Z) := fun b m => inW b (wrW b m)
  have stepKb : ∀ h₁, (∀ b o, b ∉ wr → H.get? b = some o → h₁.get? b = some o) → Kb hb wr H h₁ := fun h₁ k₁ => Kb.of k₁ (fun b m => (fld j H hst' b m).nice) hbw
  by_cases hlt : j < ds.length
  · refine W.item j _ _ _ hlt hst' fun v h₁ tk₁ hPv hst₁ hk₁ => ?_
    obtain ⟨d, hd, hrv⟩ := item j v hPv
    have hmem : d ∈ ds := List.mem_of_getElem? hd
    have kb₁ := stepKb h₁ hk₁
    have rel₁ := rel'.touchF hk₁ (fun b m => fld j H hst' b m) (fun b m => fld (j + 1) h₁ hst₁ b m) hbw wrZ
    have sa₁ : StoreAt cenv h₁ x q := sa'.off fun o t e => kb₁.keep _ o qW t e
    have hl₁ : h₁.PlainList Dl ys := PlainList.off hl' fun o t e => kb₁.keep _ o DW t e
    have hr₁ := hr'.kb kb₁ wrZ
    have kbs₁ := kb'.trans (kb₁.more wrW)
    have hrv₁ : Rep h₁ (Dl :: q :: (wr ++ Z)) d v := hrv.kb kbs₁ inW
    refine wpAny_assign_Name (store_var rel₁.kind sa₁ hap fun h₂ tk₂ hs₂ sa₂ va₂ vo₂ => ?_)
    have kb₂ : Kb hb [q] h₁ h₂ := Kb.same hs₂ sa₁.nice hbq
    have ov₂ : ∀ y pl es, (y, Slot.own pl es) ∈ cap → ∃ a, a ≠ Dl ∧ VarAt cenv h₂ y (.ref a) := fun y pl es hm => let ⟨a, e, va⟩ := ov' y pl es hm; ⟨a, e, vo₂ y _ (capx _ hm) (va.touchF hk₁ fun b m => fld j H hst' b m)⟩
    have rel₂ := rel₁.stored (List.mem_cons_of_mem _ List.mem_cons_self) hs₂ sa₁ hbq sa₂ va₂ hrv₁ vo₂ (list_ne_store sa₁) capx
    have qZ : ∀ b ∈ [q], b ∈ Dl :: q :: (wr ++ Z) := fun b m => by simp at m; subst m; exact List.mem_cons_of_mem _ List.mem_cons_self
    have qWs : ∀ b ∈ [q], b ∈ Dl :: q :: wr := fun b m => by simp at m; subst m; exact List.mem_cons_of_mem _ List.mem_cons_self
    have hl₂ : h₂.PlainList Dl ys := PlainList.off hl₁ fun o t e => kb₂.keep _ o (by simpa using hDq) t e
    have hr₂ := hr₁.kb kb₂ qZ
    have kbs₂ := kbs₁.trans (kb₂.more qWs)
    have hst₂ : St (j + 1) h₂ := W.frame _ _ _ hst₁ fun b m o e => by
      obtain ⟨o', ho', t⟩ := nice (j + 1) h₁ hst₁ b m
      rw [e] at ho'; cases ho'
      exact kb₂.keep b o (by simp; rintro rfl; exact hqf m) (niceO_tab t) e
    -- behind an evaluation
    have after : ∀ h₃ h₄, Ext hb h₃ h₄ → St (j + 1) h₃ → St (j + 1) h₄ := fun h₃ h₄ e st₃ => W.frame _ _ _ st₃ fun b m o e' => by
      obtain ⟨o', ho', t⟩ := nice (j + 1) h₃ st₃ b m
      rw [e'] at ho'; cases ho'
      exact e.keep b o (niceO_tab t) e'
    refine htest d hmem A cenv (Dl :: q :: (wr ++ Z)) _ _ _ hA rfl rel₂ fun s₃ k₃ => ?_
    obtain ⟨h₃, tk₃, rfl, e₃⟩ := k₃
    dsimp only at e₃ ⊢
    have hst₃ := after _ _ e₃ hst₂
    have rel₃ := rel₂.ext e₃
    have capR : ∀ {hh : Heap}, Rel hb cenv (Dl :: q :: (wr ++ Z)) hh ((x, .val d) :: cap) → Rel hb cenv (Dl :: q :: (wr ++ Z)) hh cap := fun r => r.sub fun p hp => List.mem_cons_of_mem _ hp
    cases hpd : p d with
    | false =>
      simp only [Bool.false_eq_true, if_false]
      refine ⟨ds.length + 1 - (j + 1), by omega, h₃, tk₃, j + 1, ys, rfl, hst₃, PlainList.off hl₂ fun o => e₃.keep _ o, ?_, hlt, rfl, sa₂.off fun o => e₃.keep _ o, capR rel₃, kbs₂.trans (Kb.ext e₃), fun y pl es hm => let ⟨a, e, va⟩ := ov₂ y pl es hm; ⟨a, e, va.ext e₃⟩⟩
      rw [take_filter_map p f ds j d hd, hpd]
      simpa using hr₂.ext e₃
    | true =>
      simp only [if_true]
      refine helt d hmem hpd A cenv (Dl :: q :: (wr ++ Z)) _ _ _ hA rfl rel₃ fun y s₄ hy k₄ => ?_
      obtain ⟨h₄, tk₄, rfl, e₄⟩ := k₄
      dsimp only at e₄ hy ⊢
      have hst₄ := after _ _ e₄ hst₃
      have hl₄ : h₄.PlainList Dl ys := PlainList.off hl₂ fun o t e => e₄.keep _ o t (e₃.keep _ o t e)
      have hr₄ := (hr₂.ext e₃).ext e₄
      have hlen := hr₄.length
      have hle : (((ds.take j).filter p).map f).length ≤ sizeLine := by
        rw [List.length_map]
        exact Nat.le_trans (List.length_filter_le _ _) (Nat.le_trans (by rw [List.length_take]; omega) hsz)
      refine wpAny_list_append_plain hl₄ (fun h₅ hl₅ hs₅ => ?_) (by rw [Array.length_toList] at hlen; rw [hlen]; exact hle)
      have kb₅ : Kb hb [Dl] h₄ h₅ := Kb.same hs₅ (nice_list hl₄.isList) hbD
      have DZ : ∀ b ∈ [Dl], b ∈ Dl :: q :: (wr ++ Z) := fun b m => by simp at m; subst m; exact List.mem_cons_self
      have DWs : ∀ b ∈ [Dl], b ∈ Dl :: q :: wr := fun b m => by simp at m; subst m; exact List.mem_cons_self
      have sa₄ : StoreAt cenv h₄ x q := sa₂.off fun o t e => e₄.keep _ o t (e₃.keep _ o t e)
      have rel₄ := capR (rel₃.ext e₄)
      have hne : ∀ {b : Addr}, b ≠ Dl → b ∉ [Dl] := fun h => by simpa using h
      have va : ∀ y' u, VarAt cenv h₄ y' u → VarAt cenv h₅ y' u := by
        rintro y' u (⟨a1, m, a2, a3⟩ | ⟨a1, c, a2, a3⟩)
        · exact .inl ⟨a1, m, Ns.off a2 fun o t e => kb₅.keep _ o (hne (by
            rintro e'; obtain ⟨o', es, ep, ho', hd', _⟩ := a2; obtain ⟨o₂, ho₂, _, n₂, hd₂⟩ := hl₄.isList
            rw [e', ho₂] at ho'; cases ho'; rw [hd₂] at hd'; cases hd')) t e, a3⟩
        · exact .inr ⟨a1, c, a2, IsCell.off a3 fun o t e => kb₅.keep _ o (hne (by
            rintro e'; obtain ⟨o', ho', hd'⟩ := a3; obtain ⟨o₂, ho₂, _, n₂, hd₂⟩ := hl₄.isList
            rw [e', ho₂] at ho'; cases ho'; rw [hd₂] at hd'; cases hd')) t e⟩
      have ov₄ : ∀ y pl es, (y, Slot.own pl es) ∈ cap → ∃ a, a ≠ Dl ∧ VarAt cenv h₄ y (.ref a) := fun y pl es hm => let ⟨a, e, va⟩ := ov₂ y pl es hm; ⟨a, e, (va.ext e₃).ext e₄⟩
      refine ⟨ds.length + 1 - (j + 1), by omega, h₅, tk₄, j + 1, ys.push y, rfl, ?_, hl₅, ?_, hlt, rfl, ?_, ?_, ((kbs₂.trans (Kb.ext e₃)).trans (Kb.ext e₄)).trans (kb₅.more DWs), fun y pl es hm => let ⟨a, e, v⟩ := ov₄ y pl es hm; ⟨a, e, va _ _ v⟩⟩
      · refine W.frame _ _ _ hst₄ fun b m o e => ?_
        obtain ⟨o', ho', t⟩ := nice (j + 1) h₄ hst₄ b m
        rw [e] at ho'; cases ho'
        exact kb₅.keep b o (hne (by rintro rfl; exact hDf m)) (niceO_tab t) e
      · rw [take_filter_map p f ds j d hd, hpd]
        simp only [if_true, Array.toList_push]
        exact (hr₄.kb kb₅ DZ).append (Reps.cons (hy.kb kb₅ DZ) Reps.nil)
      · exact sa₄.off fun o t e => kb₅.keep _ o (hne (Ne.symm hDq)) t e
      · refine ⟨kb₅.g rel₄.g, rel₄.kind, rel₄.glob, rel₄.blt, fun a ha => ?_, fun y' d' hm => ?_, fun y' pl es hm => ?_⟩
        · by_cases e' : a = Dl
          · subst e'; exact (nice_list hl₅.isList).ntab
          · obtain ⟨o, ho, t⟩ := rel₄.live a ha
            exact ⟨o, kb₅.keep a o (hne e') t ho, t⟩
        · obtain ⟨u, a, b⟩ := rel₄.val y' d' hm
          exact ⟨u, va _ _ a, b.kb kb₅ DZ⟩
        · obtain ⟨a, items, v', l, b⟩ := rel₄.own y' pl es hm
          obtain ⟨a', e', va'⟩ := ov₄ y' pl es hm
          have : a = a' := Value.ref.inj (v'.fn va')
          exact ⟨a, items, va _ _ v', OwnList.off l fun o t e => kb₅.keep _ o (hne (this ▸ e')) t e, b.kb kb₅ DZ⟩
  · have hin : j = ds.length := by omega
    subst hin
    refine W.done _ _ _ hst' fun h₁ tk₁ hk₁ => ?_
    have kb₁ := stepKb h₁ hk₁
    refine hR h₁ tk₁ ys (PlainList.off hl' fun o t e => kb₁.keep _ o DW t e) ?_ (sa'.off fun o t e => kb₁.keep _ o qW t e) (kb'.trans (kb₁.more wrW))
    have := hr'.kb kb₁ wrZ
    rwa [List.take_length] at this
end
end
section
open PySem PySem.W PyProof.Rows PySem.Calls
set_option linter.unusedVariables false
/-- what a comprehension's environment captures -/
noncomputable def clOf (env : Env) : List (Str × NameKind) → List (Str × Addr) → List (Str × Addr)
  | [], acc => acc
  | (y, k) :: r, acc => clOf env r (if k == .free then (y, (env.cells.lookup y).getD 0) :: acc else acc)
theorem closure_loop {env : Env} : ∀ (names : List (Str × NameKind)) (acc : List (Str × Addr)), (∀ y, (y, NameKind.free) ∈ names → ∃ c, env.cells.lookup y = some c) →
    (forIn names acc fun (x : Str × NameKind) (r : List (Str × Addr)) => (if x.2 == .free then do let c ← cellOf env x.1; pure (ForInStep.yield ((x.1, c) :: r)) else pure (ForInStep.yield r) : Sem (ForInStep (List (Str × Addr))))) = (pure (clOf env names acc) : Sem _)
  | [], acc, _ => rfl
  | (y, k) :: r, acc, h => by
    rw [List.forIn_cons]
    have ih := fun acc => closure_loop (env := env) r acc fun z hz => h z (List.mem_cons_of_mem _ hz)
    cases hk : (k == NameKind.free) with
    | false =>
      simp only [hk, Bool.false_eq_true, if_false, clOf]
      exact ih acc
    | true =>
      have e : k = .free := eq_of_beq hk
      subst e
      obtain ⟨c, hc⟩ := h y List.mem_cons_self
      simp only [beq_self_eq_true, if_true, clOf, hc, Option.getD_some]
      have : cellOf env y = pure c := by unfold cellOf; rw [hc]
      rw [this]
      exact ih _
theorem closure_is {env : Env} {scope : Scope} (h : ∀ y, (y, NameKind.free) ∈ scope.names → ∃ c, env.cells.lookup y = some c) : closureFor scope env = pure (clOf env scope.names []) := by
  unfold closureFor
  have := closure_loop (env := env) scope.names [] h
  first
    | exact this
    | (simp only [bind_pure]; exact this)
    | (have e := congrArg (fun (t : Sem (List (Str × Addr))) => t >>= fun r => pure r) this
       simpa using e)
theorem clOf_mem {env : Env} : ∀ (names : List (Str × NameKind)) (acc : List (Str × Addr)), (∀ y, (y, NameKind.free) ∈ names → ∃ c, env.cells.lookup y = some c) → (∀ p ∈ acc, env.cells.lookup p.1 = some p.2) → ∀ p ∈ clOf env names acc, env.cells.lookup p.1 = some p.2
  | [], acc, _, ha => ha
  | (y, k) :: r, acc, h, ha => by
    unfold clOf
    refine clOf_mem r _ (fun z hz => h z (List.mem_cons_of_mem _ hz)) ?_
    split
    · rename_i hk
      have e : k = .free := eq_of_beq hk
      subst e
      obtain ⟨c, hc⟩ := h y List.mem_cons_self
      intro p hp
      rcases List.mem_cons.mp hp with rfl | hp
      · simp [hc]
      · exact ha p hp
    · exact ha
theorem clOf_acc {env : Env} : ∀ (names : List (Str × NameKind)) (acc : List (Str × Addr)) (p : Str × Addr), p ∈ acc → p ∈ clOf env names acc
  | [], _, _, h => h
  | (y, k) :: r, acc, p, h => by
    unfold clOf
    refine clOf_acc r _ p ?_
    split
    · exact List.mem_cons_of_mem _ h
    · exact h
theorem clOf_has {env : Env} : ∀ (names : List (Str × NameKind)) (acc : List (Str × Addr)) (y : Str), (y, NameKind.free) ∈ names → ∃ c, (y, c) ∈ clOf env names acc
  | (z, k) :: r, acc, y, h => by
    unfold clOf
    rcases List.mem_cons.mp h with e | h
    · cases e
      simp only [beq_self_eq_true, if_true]
      exact ⟨_, clOf_acc r _ _ List.mem_cons_self⟩
    · exact clOf_has r _ y h
theorem clOf_from {env : Env} : ∀ (names : List (Str × NameKind)) (acc : List (Str × Addr)) (p : Str × Addr), p ∈ clOf env names acc → p ∈ acc ∨ (p.1, NameKind.free) ∈ names
  | [], acc, _, h => .inl h
  | (z, k) :: r, acc, p, h => by
    unfold clOf at h
    rcases clOf_from r _ p h with q | q
    · split at q
      · rename_i hk
        have e : k = .free := eq_of_beq hk
        subst e
        rcases List.mem_cons.mp q with rfl | q
        · exact .inr List.mem_cons_self
        · exact .inl q
      · exact .inl q
    · exact .inr (List.mem_cons_of_mem _ q)
theorem cellsFrom_has : ∀ (names : List (Str × NameKind)) (n : Nat) (acc : List (Str × Addr)) (y : Str), (y, NameKind.cell) ∈ names → ∃ c, (y, c) ∈ cellsFrom n names acc ∧ n ≤ c
  | (z, k) :: r, n, acc, y, h => by
    unfold cellsFrom
    rcases List.mem_cons.mp h with e | h
    · cases e
      simp only [beq_self_eq_true, if_true]
      have : ∀ (names : List (Str × NameKind)) (n : Nat) (acc : List (Str × Addr)) (p : Str × Addr), p ∈ acc → p ∈ cellsFrom n names acc := by
        intro names
        induction names with
        | nil => intro n acc p h; exact h
        | cons q r ih =>
          intro n acc p h
          obtain ⟨z, k⟩ := q
          unfold cellsFrom
          split
          · exact ih _ _ p (List.mem_cons_of_mem _ h)
          · exact ih _ _ p h
      exact ⟨n, this r _ _ _ List.mem_cons_self, Nat.le_refl _⟩
    · split
      · obtain ⟨c, a, b⟩ := cellsFrom_has r (n + 1) ((z, n) :: acc) y h
        exact ⟨c, a, Nat.le_of_succ_le b⟩
      · exact cellsFrom_has r n acc y h
theorem lookup_of_has {cs : List (Str × Addr)} {y : Str} {c : Addr} (h : (y, c) ∈ cs) : ∃ c', cs.lookup y = some c' := by
  induction cs with
  | nil => cases h
  | cons p r ih =>
    obtain ⟨z, d⟩ := p
    rw [List.lookup_cons]
    cases hb : y == z with
    | true => exact ⟨d, rfl⟩
    | false =>
      rcases List.mem_cons.mp h with e | h
      · cases e; simp at hb
      · exact ih h
theorem clOf_lookup {env : Env} {names : List (Str × NameKind)} (h : ∀ y, (y, NameKind.free) ∈ names → ∃ c, env.cells.lookup y = some c) {y : Str} (hy : (y, NameKind.free) ∈ names) : (clOf env names []).lookup y = env.cells.lookup y := by
  obtain ⟨c, hc⟩ := clOf_has (env := env) names [] y hy
  obtain ⟨c', hc'⟩ := lookup_of_has hc
  rw [hc']
  exact (clOf_mem names [] h (fun _ hp => nomatch hp) _ (mem_of_lookup hc')).symm
theorem cellsFrom_other : ∀ (names : List (Str × NameKind)) (n : Nat) (acc : List (Str × Addr)) (y : Str), (∀ p ∈ names, p.2 = NameKind.cell → p.1 ≠ y) → (cellsFrom n names acc).lookup y = acc.lookup y
  | [], _, _, _, _ => rfl
  | (z, k) :: r, n, acc, y, h => by
    unfold cellsFrom
    split
    · rename_i hk
      have e : k = .cell := eq_of_beq hk
      rw [cellsFrom_other r _ _ y fun p hp => h p (List.mem_cons_of_mem _ hp), List.lookup_cons]
      have : (y == z) = false := by
        have := h (z, k) List.mem_cons_self e
        simpa using fun q => this q.symm
      rw [this]
    · exact cellsFrom_other r _ _ y fun p hp => h p (List.mem_cons_of_mem _ hp)
theorem cellsFrom_mem : ∀ (names : List (Str × NameKind)) (n : Nat) (acc : List (Str × Addr)) (p : Str × Addr), p ∈ cellsFrom n names acc → p ∈ acc ∨ (n ≤ p.2 ∧ (p.1, NameKind.cell) ∈ names)
  | [], _, _, _, h => .inl h
  | (z, k) :: r, n, acc, p, h => by
    unfold cellsFrom at h
    split at h
    · rename_i hk
      have e : k = .cell := eq_of_beq hk
      subst e
      rcases cellsFrom_mem r (n + 1) _ p h with q | ⟨q1, q2⟩
      · rcases List.mem_cons.mp q with rfl | q
        · exact .inr ⟨Nat.le_refl _, List.mem_cons_self⟩
        · exact .inl q
      · exact .inr ⟨Nat.le_of_succ_le q1, List.mem_cons_of_mem _ q2⟩
    · rcases cellsFrom_mem r n _ p h with q | ⟨q1, q2⟩
      · exact .inl q
      · exact .inr ⟨q1, List.mem_cons_of_mem _ q2⟩
theorem cellsFrom_keep : ∀ (names : List (Str × NameKind)) (n : Nat) (acc : List (Str × Addr)) (p : Str × Addr), p ∈ acc → p ∈ cellsFrom n names acc
  | [], _, _, _, h => h
  | (z, k) :: r, n, acc, p, h => by
    unfold cellsFrom
    split
    · exact cellsFrom_keep r _ _ p (List.mem_cons_of_mem _ h)
    · exact cellsFrom_keep r _ _ p h
/-- each cell that was laid is an empty one -/
theorem pushCells_at : ∀ (names : List (Str × NameKind)) (h : Heap) (acc : List (Str × Addr)) (p : Str × Addr), p ∈ cellsFrom h.objs.size names acc → p ∈ acc ∨ ((pushCells h names).IsCell p.2 none ∧ h.objs.size ≤ p.2)
  | [], _, _, _, h => .inl h
  | (z, k) :: r, H, acc, p, h => by
    unfold cellsFrom at h
    unfold pushCells
    split at h
    · rename_i hk
      rw [if_pos hk]
      have e := pushCells_at r (H.push { cls := .type "cell", data := .cell none }) ((z, H.objs.size) :: acc) p (by rw [Heap.size_push]; exact h)
      rcases e with q | ⟨q1, q2⟩
      · rcases List.mem_cons.mp q with rfl | q
        · exact .inr ⟨⟨_, pushCells_keeps r _ _ _ (Heap.get?_push_size _ rfl), rfl⟩, Nat.le_refl _⟩
        · exact .inl q
      · rw [Heap.size_push] at q2
        exact .inr ⟨q1, Nat.le_of_succ_le q2⟩
    · rename_i hk
      rw [if_neg hk]
      exact pushCells_at r H acc p h
section
variable {prog : Program} {w : World} {hb : Heap} {n : Nat} {sc : Scope} {ρ : Vars}
theorem newEnvC {A : Around} {s : Shared} {E : Value → Shared → Prop} {Q : Env → Shared → Prop} {scope : Scope} {g : Addr} {cl : List (Str × Addr)} {qual : Str} {env : Env}
    (h : Q { scope := scope, locals := s.heap.objs.size, globals := g, cells := cellsFrom (s.heap.objs.size + 1) scope.names cl, qual := qual, func := none, code := env.code, frame := env.frame, builtins := env.builtins }
      { s with heap := pushCells (s.heap.push { cls := .type "dict", data := .dict #[] }) scope.names }) :
    wpAny (model prog w) A (newFunctionEnv scope g cl [] qual none .none (some env)) Q E s := by
  simp only [newFunctionEnv, Option.isSome_some, if_true]
  refine wpAny_bind (wpAny_alloc ?_)
  refine wpAny_bind (wpAny_layCells _ (fun name kind cells => by cases hkc : kind == NameKind.cell <;> simp) _ _ _ _ ?_)
  rw [show ({ s with heap := s.heap.push { cls := .type "dict", data := .dict #[] } } : Shared).heap.objs.size = s.heap.objs.size + 1 from Heap.size_push ..]
  simp only [List.forIn_nil]
  exact wpAny_bind (wpAny_pure (wpAny_pure h))
noncomputable def relab (scope sc : Scope) : Scope :=
  { scope with names := scope.names.map fun (n, k) => if (k == .free && sc.kind == .function && sc.names.lookup n == some .cell) then (n, .cell) else (n, k) }
theorem relab_is (scope : Scope) (env : Env) : relabel scope env = relab scope env.scope := rfl
theorem lookup_mapk (g : Str → NameKind → NameKind) (y : Str) : ∀ names : List (Str × NameKind), (names.map fun p => (p.1, g p.1 p.2)).lookup y = (names.lookup y).map (g y)
  | [] => rfl
  | (z, k) :: r => by
    rw [List.map_cons, List.lookup_cons, List.lookup_cons]
    cases hz : y == z with
    | true => rw [eq_of_beq hz]; rfl
    | false => exact lookup_mapk g y r
noncomputable def rk (sc : Scope) (n : Str) (k : NameKind) : NameKind := if (k == .free && sc.kind == .function && sc.names.lookup n == some .cell) then .cell else k
theorem relab_names (scope sc : Scope) : (relab scope sc).names = scope.names.map fun p => (p.1, rk sc p.1 p.2) := by
  unfold relab
  refine List.map_congr_left fun p _ => ?_
  obtain ⟨n, k⟩ := p
  show (if _ then _ else _) = _
  unfold rk
  split <;> rfl
theorem lookup_relab {scope sc : Scope} {y : Str} (h : scope.names.lookup y = some .free) (hs : sc.names.lookup y = some .cell ∨ sc.names.lookup y = some .free) :
    (relab scope sc).names.lookup y = some .cell ∨ (relab scope sc).names.lookup y = some .free := by
  rw [relab_names, lookup_mapk, h, Option.map_some]
  unfold rk
  split
  · exact .inl rfl
  · exact .inr rfl
theorem lookup_relab_keep {scope sc : Scope} {y : Str} {k : NameKind} (h : scope.names.lookup y = some k) (hk : k ≠ .free) : (relab scope sc).names.lookup y = some k := by
  rw [relab_names, lookup_mapk, h, Option.map_some]
  unfold rk
  have : (k == NameKind.free) = false := by simpa using hk
  rw [this]; rfl
/-- what a comprehension's scope must be like -/
structure CompOk (scope sc : Scope) (x : Str) (cap ρ : Vars) : Prop where
  kind : scope.kind = .function
  names : ∀ y ∈ scope.names, y.2 = .local → scope.names.lookup y.1 = some .local
  tgt : scope.names.lookup x = some .local ∨ scope.names.lookup x = some .cell
  only : ∀ y ∈ scope.names, y.2 = .cell → y.1 = x
  nox : ∀ y ∈ scope.names, y.2 = .free → y.1 ≠ x
  free : ∀ y, (y, NameKind.free) ∈ scope.names → (sc.names.lookup y = some .cell ∨ sc.names.lookup y = some .free) ∧ ∃ sl, (y, sl) ∈ ρ
  cap : ∀ p ∈ cap, p ∈ ρ ∧ p.1 ≠ x ∧ scope.names.lookup p.1 = some .free
theorem cells_of {env : Env} {Z : List Addr} {h : Heap} {y : Str} {sl : Slot} (r : Rel hb env Z h ρ) (hm : (y, sl) ∈ ρ) (hk : env.scope.names.lookup y = some .cell ∨ env.scope.names.lookup y = some .free) : ∃ c, env.cells.lookup y = some c ∧ ∃ v, h.IsCell c (some v) := by
  have key : ∀ v, VarAt env h y v → ∃ c, env.cells.lookup y = some c ∧ ∃ v, h.IsCell c (some v) := by
    rintro v (⟨a, _⟩ | ⟨_, c, b, d⟩)
    · have a : env.scope.names.lookup y = some .local := a
      rw [a] at hk; rcases hk with q | q <;> cases q
    · exact ⟨c, b, v, d⟩
  cases sl with
  | val d => obtain ⟨v, a, _⟩ := r.val y d hm; exact key v a
  | own pl ds => obtain ⟨a, items, v, _⟩ := r.own y pl ds hm; exact key _ v
/-- the comprehension, up to what is done with its list -/
theorem comp_core {A : Around} (hA : Rm n A) {env : Env} (he : env.scope = sc) {x : Str} {px : Pos} {elt iter : Expr} {ifs : List Expr} {scope : Scope} {pos spos : Pos} {Z : List Addr} {ds : List D} {s : Shared} {use : Option (Value → Sem Unit)} {Q : Value → Shared → Prop} {E : Value → Shared → Prop}
    (p : D → Bool) (f : D → D) (cap : Vars) (rl : Rel hb env Z s.heap ρ) (hit : It prog w hb n sc ρ iter ds) (ok : CompOk scope sc x cap ρ)
    (hs : ∀ x, foldedSetIterable iter env x = pure x)
    (htest : ∀ d ∈ ds, Tst prog w hb n (relab scope sc) ((x, .val d) :: cap) ifs (p d))
    (helt : ∀ d ∈ ds, p d = true → Ev prog w hb n (relab scope sc) ((x, .val d) :: cap) elt (f d))
    (hsz : ds.length ≤ sizeLine)
    (k : ∀ Dl C h' tk ys, s.heap.get? Dl = none → s.heap.get? C = none → Dl ≠ C → h'.PlainList Dl ys → Reps h' (Dl :: C :: Z) ((ds.filter p).map f) ys.toList → (∃ m, h'.Ns C m) → Ext hb s.heap h' →
      compPost (model prog w) A E use Q (.ref Dl) C (.ok .next) { s with heap := h', toks := tk }) :
    wpAny (model prog w) A (comprehension (.ListComp elt [⟨.Name x px, iter, ifs, 0⟩] scope pos) scope env spos (newList []) false (eval iter env) use) Q E s := by
  have hcells : ∀ y, (y, NameKind.free) ∈ scope.names → ∃ c, env.cells.lookup y = some c := fun y hy => by
    obtain ⟨hk, sl, hm⟩ := ok.free y hy
    obtain ⟨c, hc, _⟩ := cells_of rl hm (he ▸ hk)
    exact ⟨c, hc⟩
  refine wpAny_comprehension_free rfl hs (closure_is hcells) ok.kind ok.names ?_
  refine hit A env Z s _ E hA he rl fun I fp wr P St s₁ k₁ it => ?_
  obtain ⟨h₁, tk₁, rfl, e₁⟩ := k₁
  dsimp only at e₁ it ⊢
  refine wpAny_newList ?_ (by simp)
  dsimp only
  have frD : h₁.get? h₁.objs.size = none := Heap.get?_none_of_le (Nat.le_refl _)
  have e₂ : Ext hb h₁ (h₁.push { cls := .type "list", data := .seq ([] : List Value).toArray }) := Ext.push _
  have gD : (h₁.push { cls := .type "list", data := .seq ([] : List Value).toArray }).get? h₁.objs.size = some { cls := .type "list", data := .seq ([] : List Value).toArray } := Heap.get?_push_size _ rfl
  have szD : (h₁.push { cls := .type "list", data := .seq ([] : List Value).toArray }).objs.size = h₁.objs.size + 1 := Heap.size_push ..
  generalize hH : h₁.push { cls := .type "list", data := .seq ([] : List Value).toArray } = H at *
  refine newEnvC ?_
  dsimp only
  have frC : H.get? H.objs.size = none := Heap.get?_none_of_le (Nat.le_refl _)
  have full : ∀ b o, H.get? b = some o → (pushCells (H.push { cls := .type "dict", data := .dict #[] }) scope.names).get? b = some o := fun b o e => pushCells_keeps _ _ b o (Heap.get?_push_of_some _ e)
  have fullH : ∀ b o, h₁.get? b = some o → H.get? b = some o := fun b o e => by rw [← hH]; exact Heap.get?_push_of_some _ e
  have e₃ : Ext hb H (pushCells (H.push { cls := .type "dict", data := .dict #[] }) scope.names) := Ext.full full
  have nC : (pushCells (H.push { cls := .type "dict", data := .dict #[] }) scope.names).Ns H.objs.size fun _ => none := (Heap.Ns.new H (.type "dict")).keeps fun b o e => pushCells_keeps _ _ b o e
  have atC := pushCells_at scope.names (H.push { cls := .type "dict", data := .dict #[] }) (clOf env scope.names [])
  rw [Heap.size_push] at atC
  generalize hH4 : pushCells (H.push { cls := .type "dict", data := .dict #[] }) scope.names = H4 at *
  have rel₁ := rl.ext e₁
  have hbfr : ∀ b, h₁.objs.size ≤ b → hb.get? b = none := fun b hle => by
    cases q : hb.get? b with
    | none => rfl
    | some o =>
      obtain ⟨o', ho'⟩ := rel₁.g.live b o q
      exact absurd (Heap.lt_size ho') (Nat.not_lt.mpr hle)
  have h1fr : ∀ b, h₁.objs.size ≤ b → h₁.get? b = none := fun b hle => Heap.get?_none_of_le hle
  -- captured cells are older
  have old : ∀ y c, (y, c) ∈ clOf env scope.names [] → env.cells.lookup y = some c ∧ (y, NameKind.free) ∈ scope.names ∧ c < h₁.objs.size := fun y c hm => by
    have a := clOf_mem scope.names [] hcells (fun _ hp => nomatch hp) _ hm
    rcases clOf_from scope.names [] _ hm with q | q
    · cases q
    · obtain ⟨hk, sl, hm'⟩ := ok.free y q
      obtain ⟨c', hc', v, hv⟩ := cells_of rel₁ hm' (he ▸ hk)
      have a' : env.cells.lookup y = some c := a
      rw [a'] at hc'; cases hc'
      exact ⟨a, q, hv.lt⟩
  have szH : H.objs.size = h₁.objs.size + 1 := szD
  -- the target's place
  have tgt : ∃ q, H.objs.size ≤ q ∧ StoreAt { scope := relabel scope env, locals := H.objs.size, globals := env.globals, cells := cellsFrom (H.objs.size + 1) scope.names (clOf env scope.names []), qual := env.qual, func := none, code := env.code, frame := env.frame, builtins := env.builtins } H4 x q ∧
      (∀ y, (cellsFrom (H.objs.size + 1) scope.names (clOf env scope.names [])).lookup y = some q → y = x) ∧ (q = H.objs.size ∨ H.objs.size < q) := by
    rcases ok.tgt with hl | hl
    · refine ⟨H.objs.size, Nat.le_refl _, .inl ⟨lookup_relab_keep (sc := env.scope) hl (by decide), rfl, _, nC⟩, fun y hy => ?_, .inl rfl⟩
      rcases cellsFrom_mem _ _ _ _ (mem_of_lookup hy) with q | ⟨q, _⟩
      · have := (old y _ q).2.2
        rw [szH] at this; exact absurd this (Nat.not_lt.mpr (Nat.le_succ _))
      · exact absurd q (Nat.not_succ_le_self _)
    · obtain ⟨c, hc, hcle⟩ := cellsFrom_has scope.names (H.objs.size + 1) (clOf env scope.names []) x (mem_of_lookup hl)
      obtain ⟨q, hq⟩ := lookup_of_has hc
      have hqm := mem_of_lookup hq
      rcases atC _ hqm with r | ⟨r1, r2⟩
      · exact absurd rfl (ok.nox _ (old x q r).2.1 rfl)
      · refine ⟨q, Nat.le_of_succ_le r2, .inr ⟨lookup_relab_keep (sc := env.scope) hl (by decide), hq, none, r1⟩, fun y hy => ?_, .inr r2⟩
        rcases cellsFrom_mem _ _ _ _ (mem_of_lookup hy) with r | ⟨_, r⟩
        · have := (old y q r).2.2
          exact absurd (Nat.lt_of_lt_of_le this (Nat.le_trans (by rw [szH]; exact Nat.le_succ _) (Nat.le_of_succ_le r2))) (Nat.lt_irrefl _)
        · exact ok.only _ r rfl
  obtain ⟨q, hqle, sa, hap, hqC⟩ := tgt
  have hDq : h₁.objs.size ≠ q := by
    intro e; rw [← e, szH] at hqle; exact absurd hqle (Nat.not_succ_le_self _)
  have hqle1 : h₁.objs.size ≤ q := Nat.le_trans (by rw [szH]; exact Nat.le_succ _) hqle
  have fresh4 : ∀ b ∈ [h₁.objs.size, q], h₁.get? b = none := fun b m => by
    simp at m
    rcases m with rfl | rfl
    · exact frD
    · exact h1fr _ hqle1
  have frC1 : h₁.get? H.objs.size = none := h1fr _ (by rw [szH]; exact Nat.le_succ _)
  have e14 : Ext hb h₁ H4 := e₂.trans e₃
  have wrfp : ∀ b ∈ wr, b ∈ fp := (it.W A hA.hd).sub
  have lift : ∀ d v, Rep h₁ (wr ++ Z) d v → Rep H4 (h₁.objs.size :: q :: (wr ++ (H.objs.size :: Z))) d v := fun d v hr => by
    refine Rep.mono (fun b o hn t e => ⟨e14.keep b o t e, fun hm => ?_⟩) d v hr
    rcases List.mem_cons.mp hm with rfl | hm
    · rw [frD] at e; cases e
    · rcases List.mem_cons.mp hm with rfl | hm
      · rw [h1fr _ hqle1] at e; cases e
      · rcases List.mem_append.mp hm with hm | hm
        · exact hn (List.mem_append_left _ hm)
        · rcases List.mem_cons.mp hm with rfl | hm
          · rw [frC1] at e; cases e
          · exact hn (List.mem_append_right _ hm)
  have e04 : Ext hb s.heap H4 := e₁.trans e14
  have kk : ∀ b o, b ∉ Z → tabLike o = false → s.heap.get? b = some o → H4.get? b = some o ∧ b ∉ h₁.objs.size :: q :: (wr ++ (H.objs.size :: Z)) := fun b o hn t e => by
    refine ⟨e04.keep b o t e, fun hm => ?_⟩
    have e' := e₁.keep b o t e
    rcases List.mem_cons.mp hm with rfl | hm
    · rw [frD] at e'; cases e'
    · rcases List.mem_cons.mp hm with rfl | hm
      · rw [h1fr _ hqle1] at e'; cases e'
      · rcases List.mem_append.mp hm with hm | hm
        · rw [it.new b hm] at e; cases e
        · rcases List.mem_cons.mp hm with rfl | hm
          · rw [frC1] at e'; cases e'
          · exact hn hm
  have gD4 : H4.PlainList h₁.objs.size #[] := ⟨0, full _ _ gD⟩
  have va : ∀ p ∈ cap, ∀ v, VarAt env s.heap p.1 v → VarAt { scope := relabel scope env, locals := H.objs.size, globals := env.globals, cells := cellsFrom (H.objs.size + 1) scope.names (clOf env scope.names []), qual := env.qual, func := none, code := env.code, frame := env.frame, builtins := env.builtins } H4 p.1 v := fun p hp v hv => by
    obtain ⟨hm, hx, hl⟩ := ok.cap p hp
    have hmem := mem_of_lookup hl
    obtain ⟨hk, _⟩ := ok.free _ hmem
    rcases hv with ⟨a, _⟩ | ⟨_, c, b, d⟩
    · have a : env.scope.names.lookup p.1 = some .local := a
      rw [he] at a; rw [a] at hk; rcases hk with q | q <;> cases q
    · refine .inr ⟨?_, c, ?_, IsCell.off d fun o t e => e04.keep _ o t e⟩
      · have := lookup_relab (scope := scope) (sc := env.scope) hl (he ▸ hk)
        exact this
      · show (cellsFrom _ _ _).lookup _ = _
        rw [cellsFrom_other _ _ _ _ fun y hy hc => by rw [ok.only y hy hc]; exact fun e => hx e.symm, clOf_lookup hcells hmem, b]
  have relC : Rel hb { scope := relabel scope env, locals := H.objs.size, globals := env.globals, cells := cellsFrom (H.objs.size + 1) scope.names (clOf env scope.names []), qual := env.qual, func := none, code := env.code, frame := env.frame, builtins := env.builtins }
      (h₁.objs.size :: q :: (wr ++ (H.objs.size :: Z))) H4 cap := by
    refine ⟨e04.g rl.g, ok.kind, rl.glob, rl.blt, fun a ha => ?_, fun y d hm => ?_, fun y pl es hm => ?_⟩
    · rcases List.mem_cons.mp ha with rfl | ha
      · exact (nice_list gD4.isList).ntab
      · rcases List.mem_cons.mp ha with rfl | ha
        · exact sa.nice.ntab
        · rcases List.mem_append.mp ha with ha | ha
          · exact ((it.fld 0 _ it.st a ha).nice.ext e14).ntab
          · rcases List.mem_cons.mp ha with rfl | ha
            · exact (nice_ns nC).ntab
            · obtain ⟨o, ho, t⟩ := rl.live a ha
              exact ⟨o, e04.keep a o t ho, t⟩
    · obtain ⟨v, a, b⟩ := rl.val y d (ok.cap _ hm).1
      exact ⟨v, va _ hm v a, Rep.mono kk d v b⟩
    · obtain ⟨a, items, v, l, b⟩ := rl.own y pl es (ok.cap _ hm).1
      exact ⟨a, items, va _ hm _ v, OwnList.off l fun o => e04.keep _ o, Reps.mono kk _ _ b⟩
  have st4 : St 0 H4 := (it.W A hA.hd).frame _ _ _ it.st fun b _ o e => full b o (fullH b o e)
  have ov : ∀ y pl es, (y, Slot.own pl es) ∈ cap → ∃ a, a ≠ h₁.objs.size ∧ VarAt { scope := relabel scope env, locals := H.objs.size, globals := env.globals, cells := cellsFrom (H.objs.size + 1) scope.names (clOf env scope.names []), qual := env.qual, func := none, code := env.code, frame := env.frame, builtins := env.builtins } H4 y (.ref a) := fun y pl es hm => by
    obtain ⟨a, items, v, l, b⟩ := rl.own y pl es (ok.cap _ hm).1
    refine ⟨a, ?_, va _ hm _ v⟩
    rintro rfl
    obtain ⟨o, ho, hc, _⟩ := l.1
    have := e₁.keep _ o (tabLike_cls hc) ho
    rw [frD] at this; cases this
  have hDq' : H.objs.size ≠ h₁.objs.size := by rw [szH]; exact Nat.succ_ne_self _
  have wrlt : ∀ b ∈ wr, b < h₁.objs.size := fun b m => it.lt b (wrfp b m)
  have loop : codeAny (model prog w) A (.compLoop (.ListComp elt [⟨.Name x px, iter, ifs, 0⟩] scope pos) 0 (.ref I) (.ref h₁.objs.size) { scope := relabel scope env, locals := H.objs.size, globals := env.globals, cells := cellsFrom (H.objs.size + 1) scope.names (clOf env scope.names []), qual := env.qual, func := none, code := env.code, frame := env.frame, builtins := env.builtins })
      (compPost (model prog w) A E use Q (.ref h₁.objs.size) H.objs.size) { s with heap := H4, toks := tk₁ } := by
    refine comp_loop (hb := hb) (n := n) hA p f cap (it.W A hA.hd) it.nice it.fld ?_ st4 gD4 (fun m => Nat.lt_irrefl _ (it.lt _ m)) (fun m => absurd (it.lt _ m) (Nat.not_lt.mpr hqle1)) hDq sa hap relC (fun p hp => (ok.cap p hp).2.1) ov
      (hbfr _ (Nat.le_refl _)) (hbfr _ hqle1) (fun b m => ?_) ?_ ?_ ?_ hsz
    · intro i v hv
      obtain ⟨d, e, r⟩ := it.item i v hv
      exact ⟨d, e, lift d v r⟩
    · cases qq : hb.get? b with
      | none => rfl
      | some o =>
        obtain ⟨o', ho'⟩ := rl.g.live b o qq
        rw [it.new b m] at ho'; cases ho'
    · intro d hd; have := htest d hd; rw [← he] at this; exact this
    · intro d hd hp; have := helt d hd hp; rw [← he] at this; exact this
    · intro h' tk ys hl hr sa' kb
      refine k _ _ h' tk ys (e₁.none frD) (e₁.none frC1) (Ne.symm hDq') hl ?_ ?_ ?_
      · refine Reps.mono (fun b o hn t e => ⟨e, fun hm => hn ?_⟩) _ _ hr
        rcases List.mem_cons.mp hm with rfl | hm
        · exact List.mem_cons_self
        · exact List.mem_cons_of_mem _ (List.mem_cons_of_mem _ (List.mem_append_right _ hm))
      · rcases hqC with rfl | hlt
        · rcases sa' with ⟨_, _, m, hm⟩ | ⟨_, b, v, hv⟩
          · exact ⟨m, hm⟩
          · exact absurd (hap x b) (by
              intro _
              rcases sa with ⟨a1, _⟩ | ⟨_, b', _, hv'⟩
              · rename_i a2 _ _
                rw [a1] at a2; cases a2
              · exact ns_cell_ne nC hv' rfl)
        · refine ⟨_, Ns.off nC fun o t e => kb.keep _ o (fun m => ?_) t e⟩
          rcases List.mem_cons.mp m with q' | m
          · exact hDq' q'
          · rcases List.mem_cons.mp m with q' | m
            · exact absurd (q' ▸ hlt) (Nat.lt_irrefl _)
            · have := wrlt _ m
              rw [szH] at this; exact absurd this (Nat.not_lt.mpr (Nat.le_succ _))
      · exact kb.toExt e04 fun b m => by
          rcases List.mem_cons.mp m with rfl | m
          · exact e₁.none frD
          · rcases List.mem_cons.mp m with rfl | m
            · exact e₁.none (h1fr _ hqle1)
            · exact it.new b m
  exact codeAny_compStart_list loop ((it.W A hA.hd).self 0 _ _ _ st4 loop)
end
end
section
open PySem PySem.W PyProof.Rows PySem.Calls
set_option linter.unusedVariables false
section
variable {prog : Program} {w : World} {hb : Heap} {n : Nat} {sc : Scope} {ρ : Vars}
theorem evF_comp {x : Str} {px : Pos} {elt iter : Expr} {ifs : List Expr} {scope : Scope} {pos : Pos} {ds : List D} (p : D → Bool) (f : D → D) (cap : Vars) (hit : It prog w hb n sc ρ iter ds) (ok : CompOk scope sc x cap ρ)
    (htest : ∀ d ∈ ds, Tst prog w hb n (relab scope sc) ((x, .val d) :: cap) ifs (p d))
    (helt : ∀ d ∈ ds, p d = true → Ev prog w hb n (relab scope sc) ((x, .val d) :: cap) elt (f d))
    (hsz : ds.length ≤ sizeLine) (hs : ∀ env x, foldedSetIterable iter env x = pure x := by intro _ _; rfl) :
    EvF prog w hb n sc ρ (.ListComp elt [⟨.Name x px, iter, ifs, 0⟩] scope pos) ((ds.filter p).map f) := fun A env Z s Q E hA he rl k => by
  rw [eval_ListComp]
  refine comp_core (hb := hb) hA he p f cap rl hit ok (hs env) htest helt hsz fun Dl C h' tk ys hD hC hDC hl hr hn ex => ?_
  obtain ⟨m, hm⟩ := hn
  refine ⟨m, hm, fun h'' hs'' => ?_⟩
  have hbC : hb.get? C = none := by
    cases q : hb.get? C with
    | none => rfl
    | some o => obtain ⟨o', ho'⟩ := rl.g.live C o q; rw [hC] at ho'; cases ho'
  have kb : Kb hb [C] h' h'' := Kb.same hs'' (nice_ns hm) hbC
  refine k Dl ys _ hD (PlainList.off hl fun o t e => kb.keep _ o (by simpa using hDC) t e) ?_ (.of' (kb.toExt ex fun b mm => by simp at mm; subst mm; exact hC))
  have := hr.kb kb fun b mm => by simp at mm; subst mm; exact List.mem_cons_of_mem _ List.mem_cons_self
  refine Reps.mono (fun b o hn t e => ⟨e, fun hm => hn ?_⟩) _ _ this
  rcases List.mem_cons.mp hm with rfl | hm
  · exact List.mem_cons_self
  · exact List.mem_cons_of_mem _ (List.mem_cons_of_mem _ hm)
/-! a function's activation -/
structure Act (hb : Heap) (env : Env) (h₀ hs : Heap) (Y Z : List Addr) (h : Heap) (ρ : Vars) : Prop where
  rel : Rel hb env (Y ++ Z) h ρ
  g₀ : G hb h₀
  kept : Ext hb h₀ h
  kb : Kb hb Y hs h
  fresh : ∀ a ∈ Y, h₀.get? a = none
  st : ∀ x, env.kindOf x = some .local ∨ env.kindOf x = some .cell → ∃ q, q ∈ Y ∧ StoreAt env h x q
  apart : ∀ x y q, env.cells.lookup x = some q → env.cells.lookup y = some q → x = y
  noL : ∀ y q, env.cells.lookup y = some q → q ≠ env.locals
  own : ∀ x pl ds, (x, Slot.own pl ds) ∈ ρ → ∃ a, a ∈ Y ∧ VarAt env h x (.ref a)
  yz : ∀ a ∈ Y, a ∉ Z
theorem Act.hbfr {env : Env} {h₀ hs h : Heap} {Y Z : List Addr} (a : Act hb env h₀ hs Y Z h ρ) {q : Addr} (m : q ∈ Y) : hb.get? q = none := by
  cases e : hb.get? q with
  | none => rfl
  | some o => obtain ⟨o', ho'⟩ := a.g₀.live q o e; rw [a.fresh q m] at ho'; cases ho'
theorem Act.ext {env : Env} {h₀ hs h h' : Heap} {Y Z : List Addr} (a : Act hb env h₀ hs Y Z h ρ) (e : Ext hb h h') : Act hb env h₀ hs Y Z h' ρ :=
  ⟨a.rel.ext e, a.g₀, a.kept.trans e, a.kb.trans (Kb.ext e), a.fresh, fun x hx => let ⟨q, m, s⟩ := a.st x hx; ⟨q, m, s.off fun o => e.keep _ o⟩, a.apart, a.noL, fun x pl ds hm => let ⟨q, m, v⟩ := a.own x pl ds hm; ⟨q, m, v.ext e⟩, a.yz⟩
theorem Act.sub {env : Env} {h₀ hs h : Heap} {Y Z : List Addr} {ρ' : Vars} (a : Act hb env h₀ hs Y Z h ρ) (m : ∀ p ∈ ρ', p ∈ ρ) : Act hb env h₀ hs Y Z h ρ' :=
  ⟨a.rel.sub m, a.g₀, a.kept, a.kb, a.fresh, a.st, a.apart, a.noL, fun x pl ds hm => a.own x pl ds (m _ hm), a.yz⟩
theorem Act.rebase {env : Env} {h₀ hs h : Heap} {Y Z : List Addr} (a : Act hb env h₀ hs Y Z h ρ) : Act hb env h₀ h Y Z h ρ :=
  ⟨a.rel, a.g₀, a.kept, Kb.refl _ _ _, a.fresh, a.st, a.apart, a.noL, a.own, a.yz⟩
theorem Act.based {env : Env} {h₀ hs h h' : Heap} {Y Z : List Addr} {ρ' : Vars} (a : Act hb env h₀ h Y Z h' ρ') (k : Kb hb Y hs h) : Act hb env h₀ hs Y Z h' ρ' :=
  ⟨a.rel, a.g₀, a.kept, k.trans a.kb, a.fresh, a.st, a.apart, a.noL, a.own, a.yz⟩
/-- a value is bound -/
theorem Act.bind {env : Env} {h₀ hs h h' : Heap} {Y Z : List Addr} {ρ' : Vars} {x : Str} {q : Addr} {d : D} {v : Value} (a : Act hb env h₀ hs Y Z h ρ) (hq : q ∈ Y) (sa : StoreAt env h x q) (hs' : Heap.SameBut q h h') (sa' : StoreAt env h' x q) (hv : VarAt env h' x v)
    (hd : Rep h (Y ++ Z) d v) (ho : ∀ y u, y ≠ x → VarAt env h y u → VarAt env h' y u) (hρ : ∀ p ∈ ρ', p ∈ ρ ∧ p.1 ≠ x) : Act hb env h₀ hs Y Z h' ((x, .val d) :: ρ') := by
  have hbq := a.hbfr hq
  have kb : Kb hb [q] h h' := Kb.same hs' sa.nice hbq
  have mY : ∀ b ∈ [q], b ∈ Y := fun b m => by simp at m; subst m; exact hq
  refine ⟨(a.rel.sub fun p hp => (hρ p hp).1).stored (List.mem_append_left _ hq) hs' sa hbq sa' hv hd ho (list_ne_store sa) (fun p hp => (hρ p hp).2), a.g₀, kb.toExt a.kept fun b m => by simp at m; subst m; exact a.fresh _ hq, a.kb.trans (kb.more mY), a.fresh,
    fun y hy => ?_, a.apart, a.noL, fun y pl es hm => ?_, a.yz⟩
  · obtain ⟨q', m', s'⟩ := a.st y hy
    by_cases e : q' = q
    · subst e
      refine ⟨q', m', ?_⟩
      rcases s' with ⟨b1, b2, _⟩ | ⟨b1, b2, v', b3⟩
      · rcases sa' with ⟨c1, c2, m, c3⟩ | ⟨c1, c2, v', c3⟩
        · exact .inl ⟨b1, b2, m, c3⟩
        · rcases sa with ⟨d1, _⟩ | ⟨_, _, v'', d3⟩
          · rw [d1] at c1; cases c1
          · have := a.st
            obtain ⟨m, c4⟩ : ∃ m, h.Ns env.locals m := by assumption
            exact absurd b2.symm (ns_cell_ne c4 d3)
      · rcases sa' with ⟨c1, c2, m, c3⟩ | ⟨c1, c2, v', c3⟩
        · rcases sa with ⟨_, _, m', d3⟩ | ⟨d1, _⟩
          · exact absurd c2.symm (ns_cell_ne d3 b3)
          · rw [d1] at c1; cases c1
        · exact .inr ⟨b1, b2, v', c3⟩
    · exact ⟨q', m', s'.off fun o t e' => kb.keep _ o (by simpa using e) t e'⟩
  · rcases List.mem_cons.mp hm with e | hm
    · cases e
    · obtain ⟨b, m, v⟩ := a.own y pl es (hρ _ hm).1
      exact ⟨b, m, ho _ _ (hρ _ hm).2 v⟩
theorem Act.hap {env : Env} {h₀ hs h : Heap} {Y Z : List Addr} {x : Str} {q : Addr} (a : Act hb env h₀ hs Y Z h ρ) (sa : StoreAt env h x q) : ∀ y, env.cells.lookup y = some q → y = x := fun y hy => by
  rcases sa with ⟨b1, b2, m, b3⟩ | ⟨b1, b2, _⟩
  · exact absurd b2 (a.noL _ _ hy)
  · exact a.apart _ _ _ hy b2
theorem x_assign {A : Around} {env : Env} (hA : Rm n A) (he : env.scope = sc) {h₀ hs : Heap} {Y Z : List Addr} {s : Shared} {x : Str} {px pos : Pos} {e : Expr} {d : D} {rest : List Stmt} {Q : Flow → Shared → Prop} {E : Value → Shared → Prop} (ρ' : Vars)
    (a : Act hb env h₀ hs Y Z s.heap ρ) (ev : Ev prog w hb n sc ρ e d) (hx : sc.names.lookup x = some .local ∨ sc.names.lookup x = some .cell) (hρ : ∀ p ∈ ρ', p ∈ ρ ∧ p.1 ≠ x)
    (k : ∀ h' tk, Act hb env h₀ hs Y Z h' ((x, .val d) :: ρ') → wpAny (model prog w) A (execs rest env) Q E { s with heap := h', toks := tk })
    (hsw : swapsWith e (some (.Name x px)) pos.line env = pure false := by rfl) :
    wpAny (model prog w) A (execs (.Assign [.Name x px] e pos :: rest) env) Q E s := by
  refine wpAny_execs_cons (wpAny_Assign_Name (ev A env (Y ++ Z) s _ E hA he a.rel fun v s₁ hv k₁ => ?_) hsw)
  obtain ⟨h₁, tk₁, rfl, e₁⟩ := k₁
  have a₁ := a.ext e₁
  obtain ⟨q, hq, sa⟩ := a₁.st x (by show env.scope.names.lookup x = _ ∨ env.scope.names.lookup x = _; rw [he]; exact hx)
  exact store_var a₁.rel.kind (s := { s with heap := h₁, toks := tk₁ }) sa (a₁.hap sa) fun h' tk hs' sa' va' vo' => k h' tk (a₁.bind hq sa hs' sa' va' hv vo' hρ)
end
end
section
open PySem PySem.W PyProof.Rows PySem.Calls
set_option linter.unusedVariables false
section
variable {prog : Program} {w : World} {hb : Heap} {n : Nat} {sc : Scope} {ρ : Vars}
noncomputable def SlotAt (env : Env) (h : Heap) (Z : List Addr) (x : Str) : Slot → Prop
  | .val d => ∃ v, VarAt env h x v ∧ Rep h Z d v
  | .own pl ds => ∃ a items, VarAt env h x (.ref a) ∧ (h.IsList a items ∧ (pl = true → h.PlainList a items)) ∧ Reps h Z ds items.toList
theorem Rel.slot {env : Env} {Z : List Addr} {h : Heap} (r : Rel hb env Z h ρ) {x : Str} {sl : Slot} (m : (x, sl) ∈ ρ) : SlotAt env h Z x sl := by
  cases sl with
  | val d => exact r.val x d m
  | own pl ds => exact r.own x pl ds m
theorem Rel.of_slots {env : Env} {Z : List Addr} {h : Heap} (g : G hb h) (kind : env.scope.kind = .function) (glob : env.globals = mainGlobals) (blt : env.builtins = builtinsNs) (live : ∀ a ∈ Z, ∃ o, h.get? a = some o ∧ tabLike o = false)
    (s : ∀ x sl, (x, sl) ∈ ρ → SlotAt env h Z x sl) : Rel hb env Z h ρ := ⟨g, kind, glob, blt, live, fun x d m => s x _ m, fun x pl ds m => s x _ m⟩
/-- the heap turns in W alone, W avoided; each slot is shown anew or carried over -/
theorem SlotAt.kb {env : Env} {h h' : Heap} {W Z : List Addr} {x : Str} {sl : Slot} (s : SlotAt env h Z x sl) (kb : Kb hb W h h') (m : ∀ b ∈ W, b ∈ Z) (va : ∀ v, VarAt env h x v → VarAt env h' x v) (hl : ∀ pl ds, sl = .own pl ds → ∀ a, VarAt env h x (.ref a) → a ∉ W) : SlotAt env h' Z x sl := by
  cases sl with
  | val d => obtain ⟨v, a, b⟩ := s; exact ⟨v, va v a, b.kb kb m⟩
  | own pl ds =>
    obtain ⟨a, items, v, l, b⟩ := s
    exact ⟨a, items, va _ v, OwnList.off l fun o t e => kb.keep a o (hl pl ds rfl a v) t e, b.kb kb m⟩
/-- a new place that is mine -/
theorem Act.grow {env : Env} {h₀ hs h h' : Heap} {Y Z : List Addr} {l : Addr} (a : Act hb env h₀ hs Y Z h ρ) (e : Ext hb h h') (hl : h.get? l = none) (nice : Nice h' l) : Act hb env h₀ hs (l :: Y) Z h' ρ := by
  have a' := a.ext e
  refine ⟨?_, a.g₀, a'.kept, a'.kb.more fun b m => List.mem_cons_of_mem _ m, fun b m => ?_, fun x hx => let ⟨q, m, s⟩ := a'.st x hx; ⟨q, List.mem_cons_of_mem _ m, s⟩, a.apart, a.noL, fun x pl ds m => let ⟨q, m', v⟩ := a'.own x pl ds m; ⟨q, List.mem_cons_of_mem _ m', v⟩, fun b m => ?_⟩
  · have more : ∀ {d v}, Rep h (Y ++ Z) d v → Rep h' (l :: (Y ++ Z)) d v := fun x => (x.more (W := [l]) fun b m => by simp at m; subst m; exact hl).ext e
    have mores : ∀ {d v}, Reps h (Y ++ Z) d v → Reps h' (l :: (Y ++ Z)) d v := fun x => (x.more (W := [l]) fun b m => by simp at m; subst m; exact hl).ext e
    refine ⟨a'.rel.g, a'.rel.kind, a'.rel.glob, a'.rel.blt, fun b m => ?_, fun x d m => ?_, fun x pl ds m => ?_⟩
    · rcases List.mem_cons.mp m with rfl | m
      · exact nice.ntab
      · exact a'.rel.live b m
    · obtain ⟨v, p, q⟩ := a.rel.val x d m
      exact ⟨v, p.ext e, more q⟩
    · obtain ⟨b, items, v, p, q⟩ := a.rel.own x pl ds m
      exact ⟨b, items, v.ext e, OwnList.off p fun o => e.keep _ o, mores q⟩
  · rcases List.mem_cons.mp m with rfl | m
    · exact a.kept.none hl
    · exact a.fresh b m
  · rcases List.mem_cons.mp m with rfl | m
    · exact fun hm => a.rel.fresh hl (List.mem_append_right _ hm)
    · exact a.yz b m
theorem Act.dead {env : Env} {h₀ hs h : Heap} {Y Z : List Addr} {l : Addr} (a : Act hb env h₀ hs Y Z h ρ) (hl : h.get? l = none) : hs.get? l = none := by
  cases e : hs.get? l with
  | none => rfl
  | some o =>
    have : l ∉ Y := fun m => a.rel.fresh hl (List.mem_append_left _ m)
    obtain ⟨o', ho'⟩ := a.kb.live l o this e
    rw [hl] at ho'; cases ho'
/-- a name is bound to a slot -/
theorem Act.bindS {env : Env} {h₀ hs h h' : Heap} {Y Z : List Addr} {ρ' : Vars} {x : Str} {q : Addr} {sl : Slot} (a : Act hb env h₀ hs Y Z h ρ) (hq : q ∈ Y) (sa : StoreAt env h x q) (hs' : Heap.SameBut q h h') (sa' : StoreAt env h' x q)
    (hsl : SlotAt env h' (Y ++ Z) x sl) (hown : ∀ pl ds, sl = .own pl ds → ∃ b, b ∈ Y ∧ VarAt env h' x (.ref b))
    (ho : ∀ y u, y ≠ x → VarAt env h y u → VarAt env h' y u) (hρ : ∀ p ∈ ρ', p ∈ ρ ∧ p.1 ≠ x) : Act hb env h₀ hs Y Z h' ((x, sl) :: ρ') := by
  have hbq := a.hbfr hq
  have kb : Kb hb [q] h h' := Kb.same hs' sa.nice hbq
  have mY : ∀ b ∈ [q], b ∈ Y := fun b m => by simp at m; subst m; exact hq
  have mYZ : ∀ b ∈ [q], b ∈ Y ++ Z := fun b m => List.mem_append_left _ (mY b m)
  refine ⟨Rel.of_slots (kb.g a.rel.g) a.rel.kind a.rel.glob a.rel.blt (fun b m => ?_) (fun y sl' m => ?_), a.g₀, kb.toExt a.kept fun b m => by simp at m; subst m; exact a.fresh _ hq, a.kb.trans (kb.more mY), a.fresh,
    fun y hy => ?_, a.apart, a.noL, fun y pl es hm => ?_, a.yz⟩
  · by_cases e : b = q
    · subst e; exact sa'.nice.ntab
    · obtain ⟨o, ho', t⟩ := a.rel.live b m
      exact ⟨o, kb.keep b o (by simpa using e) t ho', t⟩
  · rcases List.mem_cons.mp m with e | m
    · cases e; exact hsl
    · refine (a.rel.slot (hρ _ m).1).kb kb mYZ (fun v hv => ho y v (hρ _ m).2 hv) fun pl ds e b hv => ?_
      subst e
      obtain ⟨b', items, v', l, _⟩ := a.rel.own y pl ds (hρ _ m).1
      have : b = b' := Value.ref.inj (hv.fn v')
      subst this
      simpa using list_ne_store sa _ _ l.1
  · obtain ⟨q', m', s'⟩ := a.st y hy
    by_cases e : q' = q
    · subst e
      refine ⟨q', m', ?_⟩
      rcases s' with ⟨b1, b2, _⟩ | ⟨b1, b2, v', b3⟩
      · rcases sa' with ⟨c1, c2, m, c3⟩ | ⟨c1, c2, v', c3⟩
        · exact .inl ⟨b1, b2, m, c3⟩
        · exact absurd b2 (a.noL _ _ c2)
      · rcases sa' with ⟨c1, c2, m, c3⟩ | ⟨c1, c2, v', c3⟩
        · exact absurd c2 (a.noL _ _ b2)
        · exact .inr ⟨b1, b2, v', c3⟩
    · exact ⟨q', m', s'.off fun o t e' => kb.keep _ o (by simpa using e) t e'⟩
  · rcases List.mem_cons.mp hm with e | hm
    · cases e; exact hown pl es rfl
    · obtain ⟨b, m, v⟩ := a.own y pl es (hρ _ hm).1
      exact ⟨b, m, ho _ _ (hρ _ hm).2 v⟩
theorem x_own {A : Around} {env : Env} (hA : Rm n A) (he : env.scope = sc) {h₀ hs : Heap} {Y Z : List Addr} {s : Shared} {x : Str} {px pos : Pos} {e : Expr} {ds : List D} {rest : List Stmt} {Q : Flow → Shared → Prop} {E : Value → Shared → Prop} (ρ' : Vars)
    (a : Act hb env h₀ hs Y Z s.heap ρ) (ev : EvF prog w hb n sc ρ e ds) (hx : sc.names.lookup x = some .local ∨ sc.names.lookup x = some .cell) (hρ : ∀ p ∈ ρ', p ∈ ρ ∧ p.1 ≠ x)
    (k : ∀ l h' tk, hs.get? l = none → Act hb env h₀ hs (l :: Y) Z h' ((x, .own true ds) :: ρ') → wpAny (model prog w) A (execs rest env) Q E { s with heap := h', toks := tk })
    (hsw : swapsWith e (some (.Name x px)) pos.line env = pure false := by rfl) :
    wpAny (model prog w) A (execs (.Assign [.Name x px] e pos :: rest) env) Q E s := by
  refine wpAny_execs_cons (wpAny_Assign_Name (ev A env (Y ++ Z) s _ E hA he a.rel fun l items s₁ hl hp hr k₁ => ?_) hsw)
  obtain ⟨h₁, tk₁, rfl, e₁⟩ := k₁
  dsimp only at hp hr e₁
  have a₁ := a.grow e₁ hl (nice_list hp.isList)
  obtain ⟨q, hq, sa⟩ := a₁.st x (by show env.scope.names.lookup x = _ ∨ env.scope.names.lookup x = _; rw [he]; exact hx)
  refine store_var a₁.rel.kind (s := { s with heap := h₁, toks := tk₁ }) sa (a₁.hap sa) fun h' tk hs' sa' va' vo' => k l h' tk (a.dead hl) (a₁.bindS hq sa hs' sa' ?_ (fun pl ds' e => ⟨l, List.mem_cons_self, va'⟩) vo' hρ)
  have kb : Kb hb [q] h₁ h' := Kb.same hs' sa.nice (a₁.hbfr hq)
  have hne := list_ne_store sa _ _ hp.isList
  exact ⟨l, items, va', ⟨IsList.off hp.isList fun o t e => kb.keep _ o (by simpa using hne) t e, fun _ => PlainList.off hp fun o t e => kb.keep _ o (by simpa using hne) t e⟩,
    hr.kb kb fun b m => by simp at m; subst m; exact List.mem_append_left _ hq⟩
/-- my own list turns -/
theorem Act.turn {env : Env} {h₀ hs h h' : Heap} {Y Z : List Addr} {ρ' : Vars} {x : Str} {pl₀ pl : Bool} {ds₀ ds : List D} {l : Addr} {items : Array Value} (a : Act hb env h₀ hs Y Z h ρ) (hx : (x, Slot.own pl₀ ds₀) ∈ ρ) (hl : VarAt env h x (.ref l)) (hs' : Heap.SameBut l h h')
    (hn : h'.IsList l items ∧ (pl = true → h'.PlainList l items)) (hr : Reps h (Y ++ Z) ds items.toList) (hρ : ∀ p ∈ ρ', p ∈ ρ ∧ ∃ d, p.2 = .val d) : Act hb env h₀ hs Y Z h' ((x, .own pl ds) :: ρ') := by
  obtain ⟨l', items₀, v', lo, _⟩ := a.rel.own x pl₀ ds₀ hx
  have : l = l' := Value.ref.inj (hl.fn v')
  subst this
  obtain ⟨b, hY, vb⟩ := a.own x pl₀ ds₀ hx
  have : l = b := Value.ref.inj (hl.fn vb)
  subst this
  have kb : Kb hb [l] h h' := Kb.same hs' (nice_list lo.1) (a.hbfr hY)
  have mY : ∀ b ∈ [l], b ∈ Y := fun b m => by simp at m; subst m; exact hY
  have mYZ : ∀ b ∈ [l], b ∈ Y ++ Z := fun b m => List.mem_append_left _ (mY b m)
  have st_ne : ∀ y q, StoreAt env h y q → q ≠ l := fun y q s e => list_ne_store s _ _ lo.1 e.symm
  have va : ∀ y u, VarAt env h y u → VarAt env h' y u := by
    rintro y u (⟨a1, m, a2, a3⟩ | ⟨a1, c, a2, a3⟩)
    · exact .inl ⟨a1, m, a2.sameBut hs' (by
        rintro rfl
        obtain ⟨o', es, ep, ho', hd', _⟩ := a2; obtain ⟨o₂, ho₂, _, n₂, hd₂⟩ := lo.1
        rw [ho₂] at ho'; cases ho'; rw [hd₂] at hd'; cases hd'), a3⟩
    · exact .inr ⟨a1, c, a2, a3.sameBut hs' (by
        rintro rfl
        obtain ⟨o', ho', hd'⟩ := a3; obtain ⟨o₂, ho₂, _, n₂, hd₂⟩ := lo.1
        rw [ho₂] at ho'; cases ho'; rw [hd₂] at hd'; cases hd')⟩
  refine ⟨Rel.of_slots (kb.g a.rel.g) a.rel.kind a.rel.glob a.rel.blt (fun b m => ?_) (fun y sl' m => ?_), a.g₀, kb.toExt a.kept fun b m => by simp at m; subst m; exact a.fresh _ hY, a.kb.trans (kb.more mY), a.fresh,
    fun y hy => ?_, a.apart, a.noL, fun y pl es hm => ?_, a.yz⟩
  · by_cases e : b = l
    · subst e; exact (nice_list hn.1).ntab
    · obtain ⟨o, ho', t⟩ := a.rel.live b m
      exact ⟨o, kb.keep b o (by simpa using e) t ho', t⟩
  · rcases List.mem_cons.mp m with e | m
    · cases e; exact ⟨l, items, va _ _ hl, hn, hr.kb kb mYZ⟩
    · obtain ⟨d, e⟩ := (hρ _ m).2
      refine (a.rel.slot (hρ _ m).1).kb kb mYZ (va y) fun pl ds e' => ?_
      simp only at e; rw [e] at e'; cases e'
  · obtain ⟨q, m, s⟩ := a.st y hy
    exact ⟨q, m, s.off fun o t e => kb.keep _ o (by simpa using st_ne y q s) t e⟩
  · rcases List.mem_cons.mp hm with e | hm
    · cases e; exact ⟨l, hY, va _ _ hl⟩
    · obtain ⟨d, e⟩ := (hρ _ hm).2
      simp only at e; cases e
theorem x_append {A : Around} {env : Env} (hA : Rm n A) (he : env.scope = sc) {h₀ hs : Heap} {Y Z : List Addr} {s : Shared} {x : Str} {px apos pos spos : Pos} {e : Expr} {ds : List D} {d : D} {rest : List Stmt} {Q : Flow → Shared → Prop} {E : Value → Shared → Prop} (ρ' : Vars)
    (a : Act hb env h₀ hs Y Z s.heap ρ) (hx : (x, Slot.own true ds) ∈ ρ) (ev : Ev prog w hb n sc ρ e d) (hρ : ∀ p ∈ ρ', p ∈ ρ ∧ ∃ d, p.2 = .val d) (hz : ds.length ≤ 100000)
    (k : ∀ h' tk, Act hb env h₀ hs Y Z h' ((x, .own true (ds ++ [d])) :: ρ') → wpAny (model prog w) A (execs rest env) Q E { s with heap := h', toks := tk })
    (hok : okName x = true := by decide)
    (h1 : ∀ env, attributeBase (.Name x px) (Str.ofString "append") env (eval (.Name x px) env) = eval (.Name x px) env := by intro _; rfl)
    (h2 : ∀ env, ((((backTo pos (starEach [e] env)).all fun x => !x.fst) && (backToKw pos (keywordEach [] env)).all fun x => x.fst.isSome) && decide (([e].length + ([] : List Keyword).length + if ([] : List Keyword).isEmpty = true then 0 else 1) < 30)) = true := by intro _; rfl)
    (h3 : (apos.endLine == pos.line) = true := by rfl) (h4 : ∀ env, backTo pos (starEach [e] env) = [(false, eval e env)] := by intro _; rfl)
    (hi : interactive env = false := by rfl) (hsw : swapsWith (.Call (.Attribute (.Name x px) (Str.ofString "append") apos) [e] [] pos) none spos.line env = pure false := by rfl) :
    wpAny (model prog w) A (execs (.Expr (.Call (.Attribute (.Name x px) (Str.ofString "append") apos) [e] [] pos) spos :: rest) env) Q E s := by
  refine wpAny_execs_cons (wpAny_Expr ?_ hi hsw)
  refine wpAny_Call_append (h1 env) (h2 env) h3 (h4 env) ?_
  obtain ⟨l, items, v, lo, hr⟩ := a.rel.own x true ds hx
  simp only [okName, Bool.and_eq_true, Bool.not_eq_true'] at hok
  refine wpAny_Name (ld_var a.rel.kind v hok.1 ⟨l, items, rfl, ?_, ?_⟩) hok.2
  · obtain ⟨m, hm⟩ := lo.2 rfl
    exact ⟨_, m, hm, rfl, rfl, rfl⟩
  · refine ev A env (Y ++ Z) s _ E hA he a.rel fun y s₁ hy k₁ => ?_
    obtain ⟨h₁, tk₁, rfl, e₁⟩ := k₁
    have a₁ := a.ext e₁
    have hp : h₁.PlainList l items := PlainList.off (lo.2 rfl) fun o => e₁.keep _ o
    have hr₁ := hr.ext e₁
    have hlen := hr.length
    simp only [Array.length_toList] at hlen
    refine wpAny_list_append_plain hp (fun h' hl' hs' => ?_) (by rw [hlen]; unfold sizeLine; omega)
    exact k h' tk₁ (a₁.turn hx (v.ext e₁) hs' ⟨hl'.isList, fun _ => hl'⟩ (by rw [Array.toList_push]; exact hr₁.append (Reps.cons hy Reps.nil)) hρ)
theorem x_setitem {A : Around} {env : Env} (hA : Rm n A) (he : env.scope = sc) {h₀ hs : Heap} {Y Z : List Addr} {s : Shared} {x : Str} {px ps pos : Pos} {e i : Expr} {pl : Bool} {ds : List D} {d : D} {j : Int} {rest : List Stmt} {Q : Flow → Shared → Prop} {E : Value → Shared → Prop} (ρ' : Vars)
    (a : Act hb env h₀ hs Y Z s.heap ρ) (hx : (x, Slot.own pl ds) ∈ ρ) (ev : Ev prog w hb n sc ρ e d) (evi : Ev prog w hb n sc ρ i (.int j)) (h0 : 0 ≤ j) (hj : j < ds.length) (hz : ds.length ≤ sizeLine) (hρ : ∀ p ∈ ρ', p ∈ ρ ∧ ∃ d, p.2 = .val d)
    (k : ∀ h' tk, Act hb env h₀ hs Y Z h' ((x, .own false (ds.set j.toNat d)) :: ρ') → wpAny (model prog w) A (execs rest env) Q E { s with heap := h', toks := tk })
    (hok : okName x = true := by decide) (hsw : swapsWith e (some ((Expr.Name x px).Subscript i ps)) pos.line env = pure false := by rfl) :
    wpAny (model prog w) A (execs (.Assign [.Subscript (.Name x px) i ps] e pos :: rest) env) Q E s := by
  refine wpAny_execs_cons (wpAny_Assign_Subscript ?_ hsw)
  refine ev A env (Y ++ Z) s _ E hA he a.rel fun y s₁ hy k₁ => ?_
  obtain ⟨h₁, tk₁, rfl, e₁⟩ := k₁
  have a₁ := a.ext e₁
  obtain ⟨l, items, v, lo, hr⟩ := a₁.rel.own x pl ds hx
  simp only [okName, Bool.and_eq_true, Bool.not_eq_true'] at hok
  refine wpAny_Name (ld_var (s := { s with heap := h₁, toks := tk₁ }) a₁.rel.kind v hok.1 ?_) hok.2
  refine evi A env (Y ++ Z) { s with heap := h₁, toks := tk₁ } _ E hA he a₁.rel fun u s₂ hu k₂ => ?_
  obtain ⟨h₂, tk₂, rfl, e₂⟩ := k₂
  obtain ⟨t, rfl⟩ := rep_int hu
  have a₂ := a₁.ext e₂
  have lo₂ := OwnList.off lo fun o => e₂.keep _ o
  have hr₂ := hr.ext e₂
  have hlen := hr.length
  simp only [Array.length_toList] at hlen
  refine wpAny_setItem_list lo₂.1 h0 (by unfold sizeLine at hz; omega) (by rw [hlen]; exact hj) fun h' hl' hs' => ?_
  refine k h' tk₂ (a₂.turn hx (v.ext e₂) hs' ⟨hl', fun e => nomatch e⟩ ?_ hρ)
  have hy₂ := hy.ext e₂
  rw [Array.toList_setIfInBounds]
  refine Reps.of_get (by simpa using hr₂.length) fun i' d' v' hd' hv' => ?_
  rw [List.getElem?_set] at hd' hv'
  by_cases e : j.toNat = i'
  · subst e
    simp only [if_true] at hd' hv'
    split at hd'
    · cases hd'
      split at hv'
      · cases hv'; exact hy₂
      · cases hv'
    · cases hd'
  · rw [if_neg e] at hd' hv'
    obtain ⟨u', hu', ru'⟩ := hr₂.get hd'
    rw [hv'] at hu'; cases hu'
    exact ru'
end
end
section
open PySem PySem.W PyProof.Rows PySem.Calls
set_option linter.unusedVariables false
inductive Out where
  | next (ρ : Vars)
  | ret (d : D)
section
variable (prog : Program) (w : World) (hb : Heap)
noncomputable def Post (t : Bool) (env : Env) (h₀ hs : Heap) (Y Z : List Addr) (s : Shared) (Q : Flow → Shared → Prop) : Out → Prop
  | .next ρ' => ∀ Y' h' tk, Act hb env h₀ hs Y' Z h' ρ' → (∀ a ∈ Y', a ∈ Y ∨ hs.get? a = none) → (t = false → ∀ a ∈ Y, a ∈ Y') → Q .next { s with heap := h', toks := tk }
  | .ret d => ∀ v h' tk, Rep h' Z d v → Ext hb h₀ h' → Q (.ret v) { s with heap := h', toks := tk }
/-- a block of statements, its names before, what comes of it -/
noncomputable def St (t : Bool) (n : Nat) (sc : Scope) (ρ : Vars) (ss : List Stmt) (R : Out) : Prop :=
  ∀ (A : Around) (env : Env) (h₀ hs : Heap) (Y Z : List Addr) (s : Shared) (Q : Flow → Shared → Prop) (E : Value → Shared → Prop), Rm n A → env.scope = sc → (t = true → hs = h₀) → Act hb env h₀ hs Y Z s.heap ρ →
    Post hb t env h₀ hs Y Z s Q R → wpAny (model prog w) A (execs ss env) Q E s
end
section
variable {prog : Program} {w : World} {hb : Heap} {t : Bool} {n : Nat} {sc : Scope} {ρ ρ' : Vars} {R : Out} {rest : List Stmt}
theorem Post.from {env : Env} {h₀ hs : Heap} {Y Y' Z : List Addr} {s : Shared} {h' : Heap} {tk : Nat} {Q : Flow → Shared → Prop} (p : Post hb t env h₀ hs Y Z s Q R) (m : ∀ a ∈ Y', a ∈ Y ∨ hs.get? a = none) (m2 : t = false → ∀ a ∈ Y, a ∈ Y') :
    Post hb t env h₀ hs Y' Z { s with heap := h', toks := tk } Q R := by
  cases R with
  | next ρ' => exact fun Y'' h'' tk'' a m' m2' => p Y'' h'' tk'' a (fun b hb' => (m' b hb').elim (fun q => m b q) .inr) fun e b hb' => m2' e b (m2 e b hb')
  | ret d => exact fun v h'' tk'' r e => p v h'' tk'' r e
theorem st_nil : St prog w hb t n sc ρ [] (.next ρ) := fun A env h₀ hs Y Z s Q E hA he ht a p =>
  wpAny_execs_nil (p Y s.heap s.toks a (fun _ m => .inl m) fun _ _ m => m)
theorem st_sub (m : ∀ p ∈ ρ', p ∈ ρ) {ss : List Stmt} (x : St prog w hb t n sc ρ' ss R) : St prog w hb t n sc ρ ss R := fun A env h₀ hs Y Z s Q E hA he ht a p =>
  x A env h₀ hs Y Z s Q E hA he ht (a.sub m) p
theorem st_weak {ss : List Stmt} (x : St prog w hb t n sc ρ ss (.next ρ')) {ρ'' : Vars} (m : ∀ p ∈ ρ'', p ∈ ρ') : St prog w hb t n sc ρ ss (.next ρ'') := fun A env h₀ hs Y Z s Q E hA he ht a p =>
  x A env h₀ hs Y Z s Q E hA he ht a fun Y' h' tk a' m' m2' => p Y' h' tk (a'.sub m) m' m2'
noncomputable def ownPl (x : Str) (sl : Slot) : Prop := True
theorem st_assign {x : Str} {px pos : Pos} {e : Expr} {d : D} (ρ' : Vars) (ev : Ev prog w hb n sc ρ e d) (k : St prog w hb t n sc ((x, .val d) :: ρ') rest R)
    (hx : sc.names.lookup x = some .local ∨ sc.names.lookup x = some .cell) (hρ : ∀ p ∈ ρ', p ∈ ρ ∧ p.1 ≠ x)
    (hsw : ∀ env, env.scope = sc → swapsWith e (some (.Name x px)) pos.line env = pure false := by intro _ _; rfl) :
    St prog w hb t n sc ρ (.Assign [.Name x px] e pos :: rest) R := fun A env h₀ hs Y Z s Q E hA he ht a p =>
  x_assign hA he ρ' a ev hx hρ (fun h' tk a' => k A env h₀ hs Y Z _ Q E hA he ht a' (p.from (fun _ m => .inl m) fun _ _ m => m)) (hsw env he)
theorem st_own {x : Str} {px pos : Pos} {e : Expr} {ds : List D} (ρ' : Vars) (ev : EvF prog w hb n sc ρ e ds) (k : St prog w hb t n sc ((x, .own true ds) :: ρ') rest R)
    (hx : sc.names.lookup x = some .local ∨ sc.names.lookup x = some .cell) (hρ : ∀ p ∈ ρ', p ∈ ρ ∧ p.1 ≠ x)
    (hsw : ∀ env, env.scope = sc → swapsWith e (some (.Name x px)) pos.line env = pure false := by intro _ _; rfl) :
    St prog w hb t n sc ρ (.Assign [.Name x px] e pos :: rest) R := fun A env h₀ hs Y Z s Q E hA he ht a p =>
  x_own hA he ρ' a ev hx hρ (fun l h' tk hl a' => k A env h₀ hs (l :: Y) Z _ Q E hA he ht a' (p.from (fun b m => by
    rcases List.mem_cons.mp m with rfl | m
    · exact .inr hl
    · exact .inl m) fun _ _ m => List.mem_cons_of_mem _ m)) (hsw env he)
theorem st_append {x : Str} {px apos pos spos : Pos} {e : Expr} {ds : List D} {d : D} (ρ' : Vars) (hx : (x, Slot.own true ds) ∈ ρ) (ev : Ev prog w hb n sc ρ e d) (hρ : ∀ p ∈ ρ', p ∈ ρ ∧ ∃ d, p.2 = .val d) (hz : ds.length ≤ 100000)
    (k : St prog w hb t n sc ((x, .own true (ds ++ [d])) :: ρ') rest R) (hok : okName x = true := by decide)
    (h1 : ∀ env, attributeBase (.Name x px) (Str.ofString "append") env (eval (.Name x px) env) = eval (.Name x px) env := by intro _; rfl)
    (h2 : ∀ env, ((((backTo pos (starEach [e] env)).all fun x => !x.fst) && (backToKw pos (keywordEach [] env)).all fun x => x.fst.isSome) && decide (([e].length + ([] : List Keyword).length + if ([] : List Keyword).isEmpty = true then 0 else 1) < 30)) = true := by intro _; rfl)
    (h3 : (apos.endLine == pos.line) = true := by rfl) (h4 : ∀ env, backTo pos (starEach [e] env) = [(false, eval e env)] := by intro _; rfl)
    (hi : ∀ env, env.scope = sc → interactive env = false := by intro _ _; rfl) (hsw : ∀ env, env.scope = sc → swapsWith (.Call (.Attribute (.Name x px) (Str.ofString "append") apos) [e] [] pos) none spos.line env = pure false := by intro _ _; rfl) :
    St prog w hb t n sc ρ (.Expr (.Call (.Attribute (.Name x px) (Str.ofString "append") apos) [e] [] pos) spos :: rest) R := fun A env h₀ hs Y Z s Q E hA he ht a p =>
  x_append hA he ρ' a hx ev hρ hz (fun h' tk a' => k A env h₀ hs Y Z _ Q E hA he ht a' (p.from (fun _ m => .inl m) fun _ _ m => m)) hok h1 h2 h3 h4 (hi env he) (hsw env he)
theorem st_setitem {x : Str} {px ps pos : Pos} {e i : Expr} {pl : Bool} {ds : List D} {d : D} {j : Int} (ρ' : Vars) (hx : (x, Slot.own pl ds) ∈ ρ) (ev : Ev prog w hb n sc ρ e d) (evi : Ev prog w hb n sc ρ i (.int j)) (h0 : 0 ≤ j) (hj : j < ds.length) (hz : ds.length ≤ sizeLine)
    (hρ : ∀ p ∈ ρ', p ∈ ρ ∧ ∃ d, p.2 = .val d) (k : St prog w hb t n sc ((x, .own false (ds.set j.toNat d)) :: ρ') rest R)
    (hok : okName x = true := by decide) (hsw : ∀ env, env.scope = sc → swapsWith e (some ((Expr.Name x px).Subscript i ps)) pos.line env = pure false := by intro _ _; rfl) :
    St prog w hb t n sc ρ (.Assign [.Subscript (.Name x px) i ps] e pos :: rest) R := fun A env h₀ hs Y Z s Q E hA he ht a p =>
  x_setitem hA he ρ' a hx ev evi h0 hj hz hρ (fun h' tk a' => k A env h₀ hs Y Z _ Q E hA he ht a' (p.from (fun _ m => .inl m) fun _ _ m => m)) hok (hsw env he)
theorem st_ret {e : Expr} {pos : Pos} {d : D} (ev : Ev prog w hb n sc ρ e d) : St prog w hb t n sc ρ (.Return (some e) pos :: rest) (.ret d) := fun A env h₀ hs Y Z s Q E hA he ht a p => by
  refine wpAny_execs_cons (wpAny_Return_some (ev A env (Y ++ Z) s _ E hA he a.rel fun v s₁ hv k₁ => ?_))
  obtain ⟨h₁, tk₁, rfl, e₁⟩ := k₁
  exact p v h₁ tk₁ hv.less (a.kept.trans e₁)
theorem st_retOwn {x : Str} {px pos : Pos} {pl : Bool} {ds : List D} (hx : (x, Slot.own pl ds) ∈ ρ) (hok : okName x = true := by decide) : St prog w hb t n sc ρ (.Return (some (.Name x px)) pos :: rest) (.ret (.lst ds)) := fun A env h₀ hs Y Z s Q E hA he ht a p => by
  obtain ⟨l, items, v, lo, hr⟩ := a.rel.own x pl ds hx
  obtain ⟨b, hY, vb⟩ := a.own x pl ds hx
  have : l = b := Value.ref.inj (v.fn vb)
  subst this
  simp only [okName, Bool.and_eq_true, Bool.not_eq_true'] at hok
  refine wpAny_execs_cons (wpAny_Return_some (wpAny_Name (ld_var a.rel.kind v hok.1 (p (.ref l) s.heap s.toks ?_ a.kept)) hok.2))
  rw [Rep]
  exact ⟨l, items, rfl, a.yz l hY, lo.1, hr.less⟩
/-- a branch, and what stands behind it -/
theorem st_if {test : Expr} {body orelse : List Stmt} {pos : Pos} {c : Bool} (ρ₁ : Vars) (ev : EvB prog w hb n sc ρ test c) (x : c = true → St prog w hb t n sc ρ body (.next ρ₁)) (y : c = false → St prog w hb t n sc ρ orelse (.next ρ₁))
    (k : St prog w hb t n sc ρ₁ rest R) : St prog w hb t n sc ρ (.If test body orelse pos :: rest) R := fun A env h₀ hs Y Z s Q E hA he ht a p => by
  refine wpAny_execs_cons (wpAny_If (ev A env (Y ++ Z) s _ E hA he a.rel fun s₁ k₁ => ?_))
  obtain ⟨h₁, tk₁, rfl, e₁⟩ := k₁
  have a₁ := a.ext e₁
  have go : ∀ ss, St prog w hb t n sc ρ ss (.next ρ₁) → wpAny (model prog w) A (execs ss env) (fun f s' => match f with | .next => wpAny (model prog w) A (execs rest env) Q E s' | f => Q f s') E { s with heap := h₁, toks := tk₁ } := fun ss z =>
    z A env h₀ hs Y Z _ _ E hA he ht a₁ fun Y' h' tk a' m' m2' => k A env h₀ hs Y' Z _ Q E hA he ht a' (p.from m' m2')
  cases c with
  | true => exact go body (x rfl)
  | false => exact go orelse (y rfl)
/-- a branch that returns -/
theorem st_ifR {test : Expr} {body orelse : List Stmt} {pos : Pos} {d : D} (ev : EvB prog w hb n sc ρ test true) (x : St prog w hb t n sc ρ body (.ret d)) :
    St prog w hb t n sc ρ (.If test body orelse pos :: rest) (.ret d) := fun A env h₀ hs Y Z s Q E hA he ht a p => by
  refine wpAny_execs_cons (wpAny_If (ev A env (Y ++ Z) s _ E hA he a.rel fun s₁ k₁ => ?_))
  obtain ⟨h₁, tk₁, rfl, e₁⟩ := k₁
  exact x A env h₀ hs Y Z _ _ E hA he ht (a.ext e₁) fun v h' tk r e => p v h' tk r e
theorem st_ifR' {test : Expr} {body orelse : List Stmt} {pos : Pos} {d : D} (ev : EvB prog w hb n sc ρ test false) (x : St prog w hb t n sc ρ orelse (.ret d)) :
    St prog w hb t n sc ρ (.If test body orelse pos :: rest) (.ret d) := fun A env h₀ hs Y Z s Q E hA he ht a p => by
  refine wpAny_execs_cons (wpAny_If (ev A env (Y ++ Z) s _ E hA he a.rel fun s₁ k₁ => ?_))
  obtain ⟨h₁, tk₁, rfl, e₁⟩ := k₁
  exact x A env h₀ hs Y Z _ _ E hA he ht (a.ext e₁) fun v h' tk r e => p v h' tk r e
theorem st_while {test : Expr} {body : List Stmt} {pos : Pos} (N : Nat) (I : Nat → Vars) (h0 : ∀ p ∈ I 0, p ∈ ρ)
    (tt : ∀ i, i < N → EvB prog w hb n sc (I i) test true) (tb : ∀ i, i < N → St prog w hb false n sc (I i) body (.next (I (i + 1)))) (tf : EvB prog w hb n sc (I N) test false)
    (k : St prog w hb t n sc (I N) rest R) : St prog w hb t n sc ρ (.While test body [] pos :: rest) R := fun A env h₀ hs Y Z s Q E hA he ht a p => by
  refine wpAny_execs_cons (wpAny_While ?_)
  refine codeAny_whileLoop (fun m s' => ∃ h' tk j Y', s' = { s with heap := h', toks := tk } ∧ j ≤ N ∧ m = N - j ∧ Act hb env h₀ hs Y' Z h' (I j) ∧ (∀ b ∈ Y', b ∈ Y ∨ hs.get? b = none) ∧ ∀ b ∈ Y, b ∈ Y') ?_ N
    ⟨s.heap, s.toks, 0, Y, rfl, Nat.zero_le _, rfl, a.sub h0, fun _ m => .inl m, fun _ m => m⟩
  rintro m s' ⟨h', tk, j, Y', rfl, hj, rfl, a', m', ms'⟩
  by_cases hlt : j < N
  · refine tt j hlt A env (Y' ++ Z) _ _ _ hA he a'.rel fun s₁ k₁ => ?_
    obtain ⟨h₁, tk₁, rfl, e₁⟩ := k₁
    simp only [if_true]
    refine tb j hlt A env h₀ hs Y' Z _ _ _ hA he (fun q => nomatch q) (a'.ext e₁) fun Y'' h'' tk'' a'' m'' m2'' => ?_
    exact ⟨N - (j + 1), by omega, h'', tk'', j + 1, Y'', rfl, hlt, rfl, a'', fun b hb' => (m'' b hb').elim (fun q => m' b q) .inr, fun b q => m2'' rfl b (ms' b q)⟩
  · have : j = N := by omega
    subst this
    refine tf A env (Y' ++ Z) _ _ _ hA he a'.rel fun s₁ k₁ => ?_
    obtain ⟨h₁, tk₁, rfl, e₁⟩ := k₁
    simp only [Bool.false_eq_true, if_false]
    exact wpAny_execs_nil (k A env h₀ hs Y' Z _ Q E hA he ht (a'.ext e₁) (p.from m' fun _ => ms'))
/-- a step of an iterator, its places avoided -/
theorem Act.touchF {env : Env} {h₀ h h' : Heap} {Y Z wr : List Addr} (a : Act hb env h₀ h Y (wr ++ Z) h ρ) (k : ∀ b o, b ∉ wr → h.get? b = some o → h'.get? b = some o) (f : ∀ b ∈ wr, IsF h b) (f' : ∀ b ∈ wr, IsF h' b) (h0 : ∀ b ∈ wr, h₀.get? b = none) :
    Act hb env h₀ h' Y (wr ++ Z) h' ρ := by
  have hbn : ∀ b ∈ wr, hb.get? b = none := fun b m => by
    cases e : hb.get? b with
    | none => rfl
    | some o => obtain ⟨o', ho'⟩ := a.g₀.live b o e; rw [h0 b m] at ho'; cases ho'
  have kb : Kb hb wr h h' := Kb.of k (fun b m => (f b m).nice) hbn
  refine ⟨a.rel.touchF k f f' hbn fun b m => List.mem_append_right _ (List.mem_append_left _ m), a.g₀, kb.toExt a.kept h0, Kb.refl _ _ _, a.fresh, fun x hx => ?_, a.apart, a.noL, fun x pl ds m => ?_, a.yz⟩
  · obtain ⟨q, m, s⟩ := a.st x hx
    refine ⟨q, m, s.off fun o t e => kb.keep _ o (fun mw => a.yz q m (List.mem_append_left _ mw)) t e⟩
  · obtain ⟨q, m', v⟩ := a.own x pl ds m
    exact ⟨q, m', v.touchF k f⟩
theorem Act.drop {env : Env} {h₀ hs h : Heap} {Y Z wr : List Addr} (a : Act hb env h₀ hs Y (wr ++ Z) h ρ) : Act hb env h₀ hs Y Z h ρ := by
  have m : ∀ b, b ∈ Y ++ Z → b ∈ Y ++ (wr ++ Z) := fun b m => by
    rcases List.mem_append.mp m with m | m
    · exact List.mem_append_left _ m
    · exact List.mem_append_right _ (List.mem_append_right _ m)
  have less : ∀ d v, Rep h (Y ++ (wr ++ Z)) d v → Rep h (Y ++ Z) d v := fun d v => Rep.mono (fun b o hn t e => ⟨e, fun q => hn (m b q)⟩) d v
  have lesss : ∀ d v, Reps h (Y ++ (wr ++ Z)) d v → Reps h (Y ++ Z) d v := fun d v => Reps.mono (fun b o hn t e => ⟨e, fun q => hn (m b q)⟩) d v
  exact ⟨⟨a.rel.g, a.rel.kind, a.rel.glob, a.rel.blt, fun b q => a.rel.live b (m b q), fun x d q => let ⟨v, u, r⟩ := a.rel.val x d q; ⟨v, u, less _ _ r⟩, fun x pl ds q => let ⟨l, i, v, u, r⟩ := a.rel.own x pl ds q; ⟨l, i, v, u, lesss _ _ r⟩⟩,
    a.g₀, a.kept, a.kb, a.fresh, a.st, a.apart, a.noL, a.own, fun b q mz => a.yz b q (List.mem_append_right _ mz)⟩
theorem Act.doneF {env : Env} {h₀ hs h h' : Heap} {Y Z wr : List Addr} (a : Act hb env h₀ h Y (wr ++ Z) h ρ) (k : ∀ b o, b ∉ wr → h.get? b = some o → h'.get? b = some o) (f : ∀ b ∈ wr, IsF h b) (h0 : ∀ b ∈ wr, h₀.get? b = none) (wz : ∀ b ∈ wr, b ∉ Z)
    (kbn : Kb hb Y hs h') : Act hb env h₀ hs Y Z h' ρ := by
  have hbn : ∀ b ∈ wr, hb.get? b = none := fun b m => by
    cases e : hb.get? b with
    | none => rfl
    | some o => obtain ⟨o', ho'⟩ := a.g₀.live b o e; rw [h0 b m] at ho'; cases ho'
  have kb : Kb hb wr h h' := Kb.of k (fun b m => (f b m).nice) hbn
  have nw : ∀ b, b ∈ Y ++ Z → b ∉ wr := fun b m mw => by
    rcases List.mem_append.mp m with m | m
    · exact a.yz b m (List.mem_append_left _ mw)
    · exact wz b mw m
  have big : ∀ b, b ∈ Y ++ Z → b ∈ Y ++ (wr ++ Z) := fun b m => by
    rcases List.mem_append.mp m with m | m
    · exact List.mem_append_left _ m
    · exact List.mem_append_right _ (List.mem_append_right _ m)
  have kk : ∀ b o, b ∉ Y ++ (wr ++ Z) → tabLike o = false → h.get? b = some o → h'.get? b = some o ∧ b ∉ Y ++ Z := fun b o hn t e =>
    ⟨kb.keep b o (fun m => hn (List.mem_append_right _ (List.mem_append_left _ m))) t e, fun m => hn (big b m)⟩
  refine ⟨⟨kb.g a.rel.g, a.rel.kind, a.rel.glob, a.rel.blt, fun b m => ?_, fun y d m => ?_, fun y pl es m => ?_⟩, a.g₀, kb.toExt a.kept h0, kbn, a.fresh, fun x hx => ?_, a.apart, a.noL, fun x pl ds m => ?_, fun b m mz => a.yz b m (List.mem_append_right _ mz)⟩
  · obtain ⟨o, ho, t⟩ := a.rel.live b (big b m)
    exact ⟨o, kb.keep b o (nw b m) t ho, t⟩
  · obtain ⟨v, u, r⟩ := a.rel.val y d m
    exact ⟨v, u.touchF k f, Rep.mono kk _ _ r⟩
  · obtain ⟨l, i, v, u, r⟩ := a.rel.own y pl es m
    exact ⟨l, i, v.touchF k f, OwnList.off u fun o t e => kb.keep _ o (fun q => (f _ q).ne_list u.1 rfl) t e, Reps.mono kk _ _ r⟩
  · obtain ⟨q, m, s⟩ := a.st x hx
    exact ⟨q, m, s.off fun o t e => kb.keep _ o (nw q (List.mem_append_left _ m)) t e⟩
  · obtain ⟨q, m', v⟩ := a.own x pl ds m
    exact ⟨q, m', v.touchF k f⟩
theorem st_for {x : Str} {px pos : Pos} {iter : Expr} {body : List Stmt} {ds : List D} (I : Nat → Vars) (hit : It prog w hb n sc ρ iter ds) (h0 : ∀ p ∈ I 0, p ∈ ρ)
    (hx : sc.names.lookup x = some .local ∨ sc.names.lookup x = some .cell) (hxI : ∀ i, i < ds.length → ∀ p ∈ I i, p.1 ≠ x)
    (tb : ∀ i d, ds[i]? = some d → St prog w hb false n sc ((x, .val d) :: I i) body (.next (I (i + 1))))
    (k : St prog w hb t n sc (I ds.length) rest R) (hs₁ : ∀ env x, foldedSetIterable iter env x = pure x := by intro _ _; rfl) (ht₁ : ∀ it v, letOwnedTupleGo (.Name x px) it v = pure () := by intro _ _; rfl) :
    St prog w hb t n sc ρ (.For (.Name x px) iter body [] pos :: rest) R := fun A env h₀ hs Y Z s Q E hA he ht a p => by
  refine wpAny_execs_cons (wpAny_For (hit A env (Y ++ Z) s _ E hA he a.rel fun It fp wr P St' s₁ k₁ it => ?_) (hs₁ env))
  obtain ⟨h₁, tk₁, rfl, e₁⟩ := k₁
  dsimp only at it ⊢
  have W := it.W A hA.hd
  have wrfp := W.sub
  have a₁ := a.ext e₁
  have wr0 : ∀ b ∈ wr, h₀.get? b = none := fun b m => a.kept.none (it.new b m)
  have wrY : ∀ b ∈ wr, b ∉ Y := fun b m q => it.off b (wrfp b m) (List.mem_append_left _ q)
  have wrZ : ∀ b ∈ wr, b ∉ Z := fun b m q => it.off b (wrfp b m) (List.mem_append_right _ q)
  have hbwr : ∀ b ∈ wr, hb.get? b = none := fun b m => by
    cases e : hb.get? b with
    | none => rfl
    | some o => obtain ⟨o', ho'⟩ := a.g₀.live b o e; rw [wr0 b m] at ho'; cases ho'
  -- the places of the iterator are avoided
  have into : ∀ b o, b ∉ Y ++ Z → tabLike o = false → s.heap.get? b = some o → h₁.get? b = some o ∧ b ∉ Y ++ (wr ++ Z) := fun b o hn t e => ⟨e₁.keep b o t e, fun m => by
    rcases List.mem_append.mp m with m | m
    · exact hn (List.mem_append_left _ m)
    · rcases List.mem_append.mp m with m | m
      · rw [it.new b m] at e; cases e
      · exact hn (List.mem_append_right _ m)⟩
  have a₂ : Act hb env h₀ h₁ Y (wr ++ Z) h₁ ρ := by
    refine ⟨⟨a₁.rel.g, a.rel.kind, a.rel.glob, a.rel.blt, fun b m => ?_, fun y d q => ?_, fun y pl es q => ?_⟩, a.g₀, a₁.kept, Kb.refl _ _ _, a.fresh, a₁.st, a.apart, a.noL, a₁.own, fun b m q => ?_⟩
    · rcases List.mem_append.mp m with m | m
      · exact a₁.rel.live b (List.mem_append_left _ m)
      · rcases List.mem_append.mp m with m | m
        · exact (it.fld 0 _ it.st b m).nice.ntab
        · exact a₁.rel.live b (List.mem_append_right _ m)
    · obtain ⟨v, u, r⟩ := a.rel.val y d q
      exact ⟨v, u.ext e₁, Rep.mono into _ _ r⟩
    · obtain ⟨l, i, v, u, r⟩ := a.rel.own y pl es q
      exact ⟨l, i, v.ext e₁, OwnList.off u fun o => e₁.keep _ o, Reps.mono into _ _ r⟩
    · rcases List.mem_append.mp q with q | q
      · exact wrY b q m
      · exact a.yz b m q
  have item₂ : ∀ i v, P i v → ∃ d, ds[i]? = some d ∧ Rep h₁ (Y ++ (wr ++ Z)) d v := fun i v hv => by
    obtain ⟨d, e, r⟩ := it.item i v hv
    refine ⟨d, e, Rep.mono (fun b o hn t e => ⟨e, fun m => hn ?_⟩) _ _ r⟩
    rcases List.mem_append.mp m with m | m
    · exact List.mem_append_right _ (List.mem_append_left _ m)
    · rcases List.mem_append.mp m with m | m
      · exact List.mem_append_left _ m
      · exact List.mem_append_right _ (List.mem_append_right _ m)
  have off₂ : ∀ b ∈ fp, b ∉ Y := fun b m q => it.off b m (List.mem_append_left _ q)
  have nice₂ : ∀ b ∈ fp, ∃ o, h₁.get? b = some o ∧ tabLike o = false := fun b m => (it.nice 0 _ it.st b m).ntab
  refine codeAny_forLoop (fun m s' => ∃ h' tk j Y', s' = { s with heap := h', toks := tk } ∧ j ≤ ds.length ∧ m = ds.length + 1 - j ∧ St' j h' ∧ Act hb env h₀ h' Y' (wr ++ Z) h' (I j) ∧ Kb hb (wr ++ Y') h₁ h' ∧ (∀ b ∈ Y', b ∈ Y ∨ h₁.get? b = none) ∧ ∀ b ∈ Y, b ∈ Y') ?_ (ds.length + 1)
    ⟨h₁, tk₁, 0, Y, rfl, Nat.zero_le _, rfl, it.st, a₂.sub h0, Kb.refl _ _ _, fun _ m => .inl m, fun _ m => m⟩ (ht₁ _)
  rintro m s' ⟨h', tk, j, Y', rfl, hj, rfl, st', a', kb', m', ms'⟩
  have offY : ∀ b ∈ fp, b ∉ Y' := fun b mb q => (m' b q).elim (off₂ b mb) fun e => by obtain ⟨o, ho, _⟩ := nice₂ b mb; rw [e] at ho; cases ho
  by_cases hlt : j < ds.length
  · refine W.item j _ _ _ hlt st' fun v h₂ tk₂ hPv st₂ k₂ => ?_
    obtain ⟨d, hd, hrv⟩ := item₂ j v hPv
    have a₃ := a'.touchF k₂ (fun b mb => it.fld j _ st' b mb) (fun b mb => it.fld (j + 1) _ st₂ b mb) wr0
    have kb₂ : Kb hb wr h' h₂ := Kb.of k₂ (fun b mb => (it.fld j _ st' b mb).nice) hbwr
    have kbs₂ : Kb hb (wr ++ Y') h₁ h₂ := kb'.trans (kb₂.more fun b mb => List.mem_append_left _ mb)
    have hrv₂ : Rep h₂ (Y' ++ (wr ++ Z)) d v := by
      refine Rep.mono (fun b o hn t e => ?_) _ _ hrv
      have hn' : b ∉ wr ++ Y' := fun q => by
        rcases List.mem_append.mp q with q | q
        · exact hn (List.mem_append_right _ (List.mem_append_left _ q))
        · exact (m' b q).elim (fun q => hn (List.mem_append_left _ q)) fun e' => by rw [e'] at e; cases e
      refine ⟨kbs₂.keep b o hn' t e, fun q => ?_⟩
      rcases List.mem_append.mp q with q | q
      · exact hn' (List.mem_append_right _ q)
      · exact hn (List.mem_append_right _ q)
    obtain ⟨q, hq, sa⟩ := a₃.st x (by show env.scope.names.lookup x = _ ∨ env.scope.names.lookup x = _; rw [he]; exact hx)
    refine wpAny_assign_Name (store_var a₃.rel.kind sa (a₃.hap sa) fun h₃ tk₃ hs₃ sa₃ va₃ vo₃ => ?_)
    have a₄ := a₃.bind (ρ' := I j) hq sa hs₃ sa₃ va₃ hrv₂ vo₃ fun p hp => ⟨hp, hxI j hlt p hp⟩
    have kb₃ : Kb hb [q] h₂ h₃ := Kb.same hs₃ sa.nice (a₃.hbfr hq)
    have st₃ : St' (j + 1) h₃ := W.frame _ _ _ st₂ fun b mb o e => by
      obtain ⟨o', ho', t'⟩ := (it.nice (j + 1) h₂ st₂ b mb).ntab
      rw [e] at ho'; cases ho'
      exact kb₃.keep b o (by simp; rintro rfl; exact offY _ mb hq) t' e
    refine tb j d hd A env h₀ h₃ Y' (wr ++ Z) { s with heap := h₃, toks := tk₃ } _ _ hA he (fun q => nomatch q) a₄.rebase fun Y'' h'' tk'' a'' m'' m2'' => ?_
    have up : ∀ b ∈ wr ++ Y', b ∈ wr ++ Y'' := fun b q => by
      rcases List.mem_append.mp q with q | q
      · exact List.mem_append_left _ q
      · exact List.mem_append_right _ (m2'' rfl b q)
    have kbs₃ : Kb hb (wr ++ Y') h₁ h₃ := kbs₂.trans (kb₃.more fun b mb => by simp at mb; subst mb; exact List.mem_append_right _ hq)
    refine ⟨ds.length + 1 - (j + 1), by omega, h'', tk'', j + 1, Y'', rfl, hlt, rfl, ?_, a''.rebase, (kbs₃.more up).trans (a''.kb.more fun b q => List.mem_append_right _ q), fun b mb => ?_, fun b q => m2'' rfl b (ms' b q)⟩
    · refine W.frame _ _ _ st₃ fun b mb o e => ?_
      obtain ⟨o', ho', t'⟩ := (it.nice (j + 1) h₃ st₃ b mb).ntab
      rw [e] at ho'; cases ho'
      exact a''.kb.keep b o (fun q => (m'' b q).elim (offY b mb) fun e' => by rw [e'] at e; cases e) t' e
    · rcases m'' b mb with q | e'
      · exact m' b q
      · cases q : h₁.get? b with
        | none => exact .inr rfl
        | some o =>
          by_cases hm : b ∈ wr ++ Y'
          · rcases List.mem_append.mp hm with hm | hm
            · exact absurd (List.mem_append_left _ hm) (a''.yz b mb)
            · rcases m' b hm with r | r
              · exact .inl r
              · rw [q] at r; cases r
          · obtain ⟨o', ho'⟩ := kbs₃.live b o hm q
            rw [e'] at ho'; cases ho'
  · have : j = ds.length := by omega
    subst this
    refine W.done _ _ _ st' fun h₂ tk₂ k₂ => wpAny_execs_nil ?_
    have hbk : ∀ b o, b ∉ Y' → hs.get? b = some o → b ∉ Y ∧ b ∉ wr ++ Y' := fun b o hn e => by
      have nY : b ∉ Y := fun q => hn (ms' b q)
      refine ⟨nY, fun q => ?_⟩
      rcases List.mem_append.mp q with q | q
      · obtain ⟨o', ho'⟩ := a.kb.live b o nY e
        rw [it.new b q] at ho'; cases ho'
      · exact hn q
    have kb₂ : Kb hb wr h' h₂ := Kb.of k₂ (fun b mb => (it.fld _ _ st' b mb).nice) hbwr
    have kbs₂ : Kb hb (wr ++ Y') h₁ h₂ := kb'.trans (kb₂.more fun b mb => List.mem_append_left _ mb)
    have kbn : Kb hb Y' hs h₂ := ⟨fun b o hn t e => kbs₂.keep b o (hbk b o hn e).2 t (e₁.keep b o t (a.kb.keep b o (hbk b o hn e).1 t e)), fun b o hn e => by
      obtain ⟨o', ho'⟩ := a.kb.live b o (hbk b o hn e).1 e
      obtain ⟨o'', ho''⟩ := e₁.live b o' ho'
      exact kbs₂.live b o'' (hbk b o hn e).2 ho'', fun g => kbs₂.g (e₁.g (a.kb.g g))⟩
    refine k A env h₀ hs Y' Z _ Q E hA he ht (a'.doneF k₂ (fun b mb => it.fld _ _ st' b mb) wr0 wrZ kbn) (p.from (fun b mb => (m' b mb).imp id fun e => ?_) fun _ => ms')
    exact a₁.dead e
end
end
section
open PySem PySem.W PyProof.Rows PySem.Calls
set_option linter.unusedVariables false
section
variable {prog : Program} {w : World} {hb : Heap} {t : Bool} {n : Nat} {sc : Scope} {ρ ρ' : Vars} {R : Out} {rest : List Stmt}
theorem ns_list_ne {h : Heap} {a c : Addr} {m : Str → Option Value} {items : Array Value} (x : h.Ns a m) (y : h.IsList c items) : c ≠ a := by
  rintro rfl
  obtain ⟨o, es, ep, ho, hd, _⟩ := x
  obtain ⟨o', ho', _, k, hd'⟩ := y
  rw [ho] at ho'; cases ho'; rw [hd] at hd'; cases hd'
/-- a namespace that is no name's place is let go -/
theorem Act.shed {env : Env} {h₀ hs h h' : Heap} {Y Z : List Addr} {C : Addr} {m : Str → Option Value} (a : Act hb env h₀ hs (C :: Y) Z h ρ) (hn : h.Ns C m) (hs' : Heap.SameBut C h h')
    (hst : ∀ x q, StoreAt env h x q → q ≠ C) (hloc : ∀ y, env.kindOf y = some .local → env.locals ≠ C) (hd : hs.get? C = none) (hY : C ∉ Y) (hZ : C ∉ Z) : Act hb env h₀ hs Y Z h' ρ := by
  have kb : Kb hb [C] h h' := Kb.same hs' (nice_ns hn) (a.hbfr List.mem_cons_self)
  have up : ∀ b, b ∈ Y ++ Z → b ∈ (C :: Y) ++ Z := fun b q => List.mem_cons_of_mem _ q
  have ne : ∀ b, b ∈ Y ++ Z → b ≠ C := fun b q e => by
    subst e
    rcases List.mem_append.mp q with q | q
    · exact hY q
    · exact hZ q
  have va : ∀ y u, VarAt env h y u → VarAt env h' y u := by
    rintro y u (⟨a1, m, a2, a3⟩ | ⟨a1, c, a2, a3⟩)
    · exact .inl ⟨a1, m, a2.sameBut hs' (hloc y a1), a3⟩
    · exact .inr ⟨a1, c, a2, a3.sameBut hs' (Ne.symm (ns_cell_ne hn a3))⟩
  have kk : ∀ b o, b ∉ (C :: Y) ++ Z → tabLike o = false → h.get? b = some o → h'.get? b = some o ∧ b ∉ Y ++ Z := fun b o hb t e =>
    ⟨kb.keep b o (fun q => hb (by simp at q; subst q; exact List.mem_cons_self)) t e, fun q => hb (up b q)⟩
  refine ⟨⟨kb.g a.rel.g, a.rel.kind, a.rel.glob, a.rel.blt, fun b q => ?_, fun y d q => ?_, fun y pl es q => ?_⟩, a.g₀, kb.toExt a.kept fun b q => by simp at q; subst q; exact a.fresh _ List.mem_cons_self, ?_, fun b q => a.fresh b (List.mem_cons_of_mem _ q),
    fun y hy => ?_, a.apart, a.noL, fun y pl es q => ?_, fun b q => a.yz b (List.mem_cons_of_mem _ q)⟩
  · obtain ⟨o, ho, t⟩ := a.rel.live b (up b q)
    exact ⟨o, kb.keep b o (by simpa using ne b q) t ho, t⟩
  · obtain ⟨v, u, r⟩ := a.rel.val y d q
    exact ⟨v, va _ _ u, Rep.mono kk _ _ r⟩
  · obtain ⟨l, i, v, u, r⟩ := a.rel.own y pl es q
    exact ⟨l, i, va _ _ v, OwnList.off u fun o t e => kb.keep _ o (by simpa using ns_list_ne hn u.1) t e, Reps.mono kk _ _ r⟩
  · have nC : ∀ b o, b ∉ Y → hs.get? b = some o → b ∉ C :: Y ∧ b ∉ [C] := fun b o hb e => by
      have : b ≠ C := fun q => by rw [q, hd] at e; cases e
      exact ⟨fun q => (List.mem_cons.mp q).elim this hb, by simpa using this⟩
    exact ⟨fun b o hb t e => kb.keep b o (nC b o hb e).2 t (a.kb.keep b o (nC b o hb e).1 t e), fun b o hb e => let ⟨o', e'⟩ := a.kb.live b o (nC b o hb e).1 e; kb.live b o' (nC b o hb e).2 e', fun g => kb.g (a.kb.g g)⟩
  · obtain ⟨q, m, s⟩ := a.st y hy
    have hne := hst y q s
    exact ⟨q, (List.mem_cons.mp m).resolve_left hne, s.off fun o t e => kb.keep _ o (by simpa using hne) t e⟩
  · obtain ⟨l, m, v⟩ := a.own y pl es q
    obtain ⟨l', i, v', u, r⟩ := a.rel.own y pl es q
    have : l = l' := Value.ref.inj (v.fn v')
    subst this
    exact ⟨l, (List.mem_cons.mp m).resolve_left (ns_list_ne hn u.1), va _ _ v⟩
/-- `y = [elt for x in iter if ..]`, y a plain local on the same line -/
theorem st_compV {x y : Str} {px py : Pos} {elt iter : Expr} {ifs : List Expr} {scope : Scope} {pos spos : Pos} {ds : List D} (p : D → Bool) (f : D → D) (cap ρ' : Vars) (hit : It prog w hb n sc ρ iter ds) (ok : CompOk scope sc x cap ρ)
    (htest : ∀ d ∈ ds, Tst prog w hb n (relab scope sc) ((x, .val d) :: cap) ifs (p d))
    (helt : ∀ d ∈ ds, p d = true → Ev prog w hb n (relab scope sc) ((x, .val d) :: cap) elt (f d))
    (hsz : ds.length ≤ sizeLine) (k : St prog w hb t n sc ((y, .val (.lst ((ds.filter p).map f))) :: ρ') rest R) (hy : sc.names.lookup y = some .local ∨ sc.names.lookup y = some .cell) (hρ : ∀ p ∈ ρ', p ∈ ρ ∧ p.1 ≠ y)
    (hsw : ∀ env, env.scope = sc → swapsWith (.ListComp elt [⟨.Name x px, iter, ifs, 0⟩] scope pos) (some (.Name y py)) spos.line env = pure true := by intro _ _; rfl)
    (hs : ∀ env x, foldedSetIterable iter env x = pure x := by intro _ _; rfl) :
    St prog w hb t n sc ρ (.Assign [.Name y py] (.ListComp elt [⟨.Name x px, iter, ifs, 0⟩] scope pos) spos :: rest) R := fun A env h₀ hs' Y Z s Q E hA he ht a pp => by
  refine wpAny_execs_cons ?_
  rw [exec_Assign_Name_used _ _ _ _ (hsw env he)]
  refine wpAny_bind (wpAny_standAt (wpAny_bind ?_))
  show wpAny _ A (do let _ ← comprehension (.ListComp elt [⟨.Name x px, iter, ifs, 0⟩] scope pos) scope env _ (newList []) false (eval iter env) (some (assign (.Name y py) env))) _ _ s
  refine wpAny_bind (wpAny_mono (comp_core (hb := hb) (Q := fun _ s' => wpAny (model prog w) A (execs rest env) Q E s') (use := some (assign (.Name y py) env)) hA he p f cap a.rel hit ok (hs env) htest helt hsz ?_) (fun _ s' hq => wpAny_pure (wpAny_pure hq)) fun _ _ e => e)
  intro Dl C h' tk ys hD hC hDC hl hr hn ex
  obtain ⟨m, hm⟩ := hn
  show wpAny _ A (assign (.Name y py) env (.ref Dl)) _ _ _
  have a₁ := a.grow ex hC (nice_ns hm)
  obtain ⟨q, hq, sa⟩ := a₁.st y (by show env.scope.names.lookup y = _ ∨ env.scope.names.lookup y = _; rw [he]; exact hy)
  have stC : ∀ {hh : Heap} {z q}, StoreAt env hh z q → q ≠ C := fun {hh z q} s' e => by
    subst e
    have hk : env.kindOf z = some .local ∨ env.kindOf z = some .cell := s'.elim (fun x => .inl x.1) fun x => .inr x.1
    obtain ⟨q', m', s''⟩ := a.st z hk
    have : q' = q := by
      rcases s' with ⟨b1, b2, _⟩ | ⟨b1, b2, _⟩ <;> rcases s'' with ⟨c1, c2, _⟩ | ⟨c1, c2, _⟩
      · rw [b2, c2]
      · rw [b1] at c1; cases c1
      · rw [b1] at c1; cases c1
      · rw [b2] at c2; exact (Option.some.inj c2).symm
    subst this
    obtain ⟨o, ho, _⟩ := s''.nice
    rw [hC] at ho; cases ho
  refine wpAny_assign_Name (store_var a₁.rel.kind (s := { s with heap := h', toks := tk }) sa (a₁.hap sa) fun h₂ tk₂ hs₂ sa₂ va₂ vo₂ => ?_)
  have hqC := stC sa
  have hm₂ : h₂.Ns C m := hm.sameBut hs₂ (Ne.symm hqC)
  refine ⟨m, hm₂, fun h₃ hs₃ => ?_⟩
  have hv : Rep h' ((C :: Y) ++ Z) (.lst ((ds.filter p).map f)) (.ref Dl) := by
    rw [Rep]
    refine ⟨Dl, ys, rfl, fun mm => ?_, hl.isList, Reps.mono (fun b o hn t e => ⟨e, fun mm => hn ?_⟩) _ _ hr⟩
    · rcases List.mem_cons.mp mm with e | mm
      · exact hDC e
      · exact a.rel.fresh hD mm
    · exact List.mem_cons_of_mem _ mm
  have a₂ := a₁.bind (ρ' := ρ') hq sa hs₂ sa₂ va₂ hv vo₂ hρ
  have hloc : ∀ z, env.kindOf z = some .local → env.locals ≠ C := fun z hz e => by
    obtain ⟨q', _, s''⟩ := a.st z (.inl hz)
    rcases s'' with ⟨c1, c2, m, ⟨o, _, _, ho, _⟩⟩ | ⟨c1, _⟩
    · rw [e, hC] at ho; cases ho
    · rw [hz] at c1; cases c1
  have cY : C ∉ Y := fun q => a.rel.fresh hC (List.mem_append_left _ q)
  have cZ : C ∉ Z := fun q => a.rel.fresh hC (List.mem_append_right _ q)
  exact k A env h₀ hs' Y Z _ Q E hA he ht (a₂.shed hm₂ hs₃ (fun z q s' => stC s') hloc (a.dead hC) cY cZ) (pp.from (fun b mm => .inl mm) fun _ _ mm => mm)
end
end
section
open PySem PySem.W PyProof.Rows PySem.Calls
set_option linter.unusedVariables false
/-- what is known of the heap that the call begins with -/
structure Base (hb : Heap) (mg mb : Str → Option Value) : Prop where
  ng : hb.Ns mainGlobals mg
  nb : hb.Ns builtinsNs mb
  lim : hb.NoLimit
/-- a function of the text: its place, its record, its code -/
structure FnAt' (hb : Heap) (fa : Addr) (fd : FuncData) : Prop where
  at_ : ∃ o, hb.get? fa = some o ∧ o.data = .func fd
  code : ∃ c o vs t, fd.code = .ref c ∧ hb.get? c = some o ∧ o.cls = .type "code" ∧ o.data = .fields vs ∧ vs[1]? = some (.str fd.qualname t)
  glob : fd.globals = mainGlobals
  blt : fd.builtins = builtinsNs
  clo : fd.closure = []
theorem ntab_ns {h : Heap} {a : Addr} {m : Str → Option Value} (x : h.Ns a m) {h' : Heap} (k : ∀ b o, tabLike o = false → h.get? b = some o → h'.get? b = some o) : h'.Ns a m := Ns.off x fun o => k a o
section
variable {prog : Program} {w : World} {hb : Heap} {t : Bool} {n : Nat} {sc : Scope} {ρ ρ' : Vars} {R : Out} {rest : List Stmt} {mg mb : Str → Option Value}
variable (prog w hb) in
/-- a name that is no variable -/
noncomputable def Gl (n : Nat) (sc : Scope) (ρ : Vars) (x : Str) (v : Value) : Prop := ∀ (p : Pos) (A : Around) (env : Env) (Z : List Addr) (s : Shared) (Q : Value → Shared → Prop) (E : Value → Shared → Prop), Rm n A → env.scope = sc → Rel hb env Z s.heap ρ → Q v s →
  wpAny (model prog w) A (eval (.Name x p) env) Q E s
theorem gl_glob (B : Base hb mg mb) {x : Str} {v : Value} (hx : sc.names.lookup x = some .globalImplicit) (hv : mg x = some v) (hd : (x == ("__debug__" : Str)) = false := by decide) : Gl prog w hb n sc ρ x v := fun p A env Z s Q E hA he rl q =>
  Name_function_global rl.kind (show env.scope.names.lookup x = _ by rw [he]; exact hx) (loadGlobal_global (by rw [rl.glob]; exact ntab_ns B.ng rl.g.old) hv q) hd
theorem gl_blt (B : Base hb mg mb) {x : Str} {v : Value} (hx : sc.names.lookup x = some .globalImplicit) (hm : mg x = none) (hv : mb x = some v) (hd : (x == ("__debug__" : Str)) = false := by decide) : Gl prog w hb n sc ρ x v := fun p A env Z s Q E hA he rl q =>
  Name_function_global rl.kind (show env.scope.names.lookup x = _ by rw [he]; exact hx) (loadGlobal_builtin (by rw [rl.glob]; exact ntab_ns B.ng rl.g.old) hm (by rw [rl.blt]; exact ntab_ns B.nb rl.g.old) hv q) hd
variable (prog w hb) in
/-- the contract of a function -/
noncomputable def Ct (fa : Addr) (m : Nat) (ds : List D) (d : D) : Prop := ∀ (A : Around) (Z : List Addr) (s : Shared) (vals : List Value) (Q : Value → Shared → Prop) (E : Value → Shared → Prop), Rm m A → G hb s.heap → (∀ a ∈ Z, ∃ o, s.heap.get? a = some o ∧ tabLike o = false) →
  Reps s.heap Z ds vals → (∀ v s', Rep s'.heap Z d v → Kp hb s s' → Q v s') → wpAny (model prog w) A (call (.ref fa) vals) Q E s
theorem ev_call {x : Str} {p pos : Pos} {e : Expr} {es : List Expr} {ds : List D} {d : D} {fa : Addr} {fd : FuncData} {m : Nat} (hg : Gl prog w hb n sc ρ x (.ref fa)) (F : FnAt' hb fa fd) (ha : Evs prog w hb n sc ρ (e :: es) ds) (ct : Ct prog w hb fa m ds d) (hm : m ≤ n)
    (hs : ∀ env, starEach (e :: es) env = (false, eval e env) :: starEach es env := by intro _; rfl) :
    Ev prog w hb n sc ρ (.Call (.Name x p) (e :: es) [] pos) d := fun A env Z s Q E hA he rl k => by
  refine Call_ (hg p A env Z s _ E hA he rl ?_)
  obtain ⟨o, ho, hd⟩ := F.at_
  have nt : tabLike o = false := by unfold tabLike; rw [hd]; split <;> simp_all
  refine callWith_def (o := o) hd (ha A env Z s _ E pos hA he rl fun vs s₁ hr k₁ => ⟨(rl.ext k₁.ext).g.old _ _ nt ho, ?_⟩) (hs env)
  exact ct A Z s₁ vs _ E (hA.le hm) (rl.ext k₁.ext).g (rl.ext k₁.ext).live hr fun v s₂ hv k₂ => k v s₂ hv (k₁.trans k₂)
theorem bindL_get (kindOf : Str → Option NameKind) : ∀ (binds : List (Str × Value)) (m : Str → Option Value) (x : Str) (v : Value), (binds.map (·.1)).Nodup → (x, v) ∈ binds → kindOf x = some .local → bindL kindOf binds m x = some v
  | [], _, _, _, _, hm, _ => nomatch hm
  | (y, u) :: r, m, x, v, hn, hm, hk => by
    rw [List.map_cons, List.nodup_cons] at hn
    unfold bindL
    rcases List.mem_cons.mp hm with e | hm
    · obtain ⟨e1, e2⟩ := Prod.mk.inj e
      subst e1; subst e2
      rw [if_pos hk]
      have : ∀ (r : List (Str × Value)) (m : Str → Option Value), m x = some v → x ∉ r.map (·.1) → bindL kindOf r m x = some v := by
        intro r
        induction r with
        | nil => intro m h _; exact h
        | cons a r ih =>
          obtain ⟨y, u⟩ := a
          intro m h hn
          rw [List.map_cons, List.mem_cons, not_or] at hn
          unfold bindL
          refine ih _ ?_ hn.2
          split
          · show (if x = y then some u else m x) = _; rw [if_neg (show ¬ x = y from hn.1)]; exact h
          · exact h
      exact this r _ (by simp) hn.1
    · exact bindL_get kindOf r _ x v hn.2 hm hk
theorem bindC_get (kindOf : Str → Option NameKind) : ∀ (binds : List (Str × Value)) (m : Str → Option Value) (x : Str) (v : Value), (binds.map (·.1)).Nodup → (x, v) ∈ binds → kindOf x = some .cell → bindC kindOf binds m x = some v
  | [], _, _, _, _, hm, _ => nomatch hm
  | (y, u) :: r, m, x, v, hn, hm, hk => by
    rw [List.map_cons, List.nodup_cons] at hn
    unfold bindC
    rcases List.mem_cons.mp hm with e | hm
    · obtain ⟨e1, e2⟩ := Prod.mk.inj e
      subst e1; subst e2
      rw [if_neg (by rw [hk]; decide)]
      have : ∀ (r : List (Str × Value)) (m : Str → Option Value), m x = some v → x ∉ r.map (·.1) → bindC kindOf r m x = some v := by
        intro r
        induction r with
        | nil => intro m h _; exact h
        | cons a r ih =>
          obtain ⟨y, u⟩ := a
          intro m h hn
          rw [List.map_cons, List.mem_cons, not_or] at hn
          unfold bindC
          refine ih _ ?_ hn.2
          split
          · exact h
          · show (if x = y then some u else m x) = _; rw [if_neg (show ¬ x = y from hn.1)]; exact h
      exact this r _ (by simp) hn.1
    · exact bindC_get kindOf r _ x v hn.2 hm hk
theorem zip_val {names : List Str} {ds : List D} {vals : List Value} (h₁ : vals.length = ds.length) {x : Str} {sl : Slot} (hm : (x, sl) ∈ names.zip (ds.map Slot.val)) : ∃ (i : Nat) (d : D) (v : Value), ds[i]? = some d ∧ vals[i]? = some v ∧ sl = .val d ∧ (x, v) ∈ names.zip vals := by
  obtain ⟨i, hi⟩ := List.mem_iff_getElem?.mp hm
  rw [List.getElem?_zip_eq_some] at hi
  obtain ⟨a, b⟩ := hi
  rw [List.getElem?_map, Option.map_eq_some_iff] at b
  obtain ⟨d, hd, rfl⟩ := b
  have lt : i < vals.length := by rw [h₁]; exact (List.getElem?_eq_some_iff.mp hd).1
  refine ⟨i, d, vals[i], hd, List.getElem?_eq_getElem lt, rfl, List.mem_iff_getElem?.mpr ⟨i, ?_⟩⟩
  rw [List.getElem?_zip_eq_some]
  exact ⟨a, List.getElem?_eq_getElem lt⟩
theorem ct_raw (B : Base hb mg mb) {fa : Addr} {fd : FuncData} (F : FnAt' hb fa fd) {body : List Stmt} (names : List Str) {ds : List D} {d : D} (hbody : fd.body = .stmts body)
    (hbind : ∀ vals : List Value, vals.length = ds.length → bindArgs fd ⟨vals, []⟩ = pure (names.zip vals)) (hlen : names.length = ds.length) (hnd : names.Nodup)
    (hnm : ∀ x ∈ names, fd.scope.names.lookup x = some .local ∨ fd.scope.names.lookup x = some .cell)
    (st : ∀ (A : Around) (env : Env) (h₀ : Heap) (Y Z : List Addr) (s : Shared) (Q : Flow → Shared → Prop) (E : Value → Shared → Prop), Rm n A → env.scope = fd.scope → env.code = fd.code → env.qual = fd.qualname ++ ".<locals>." → Act hb env h₀ h₀ Y Z s.heap (names.zip (ds.map .val)) →
      (∀ v h' tk, Rep h' Z d v → Ext hb h₀ h' → Q (.ret v) { s with heap := h', toks := tk }) → wpAny (model prog w) A (execs body env) Q E s)
    (hco : fd.scope.isCoroutine = false := by rfl) (hgen : fd.scope.isGenerator = false := by rfl) (hk : fd.scope.kind = .function := by rfl) : Ct prog w hb fa (n + 1) ds d := fun A Z s vals Q E hA hg hZ hr k => by
  obtain ⟨o, ho, hd⟩ := F.at_
  have nt : tabLike o = false := by unfold tabLike; rw [hd]; split <;> simp_all
  obtain ⟨c, oc, vs, tk, hc, hoc, hcc, hcd, hq⟩ := F.code
  have vlen := hr.length
  have cellOf : ∀ L x, fd.scope.names.lookup x = some .cell → ∃ c, (cellsFrom L fd.scope.names []).lookup x = some c := fun L x hx => by
    obtain ⟨c, hc, _⟩ := cellsFrom_has fd.scope.names L [] x (mem_of_lookup hx)
    exact lookup_of_has hc
  refine wpAny_call (codeAny_call_cells (o := o) (fd := fd) (by have := hA.dp; unfold recursionLimit; omega) (hg.old _ _ nt ho) hd ?_ ?_ hbody (hbind vals vlen) F.clo (fun x hx => ?_) (fun s₁ X => ?_) hco hgen hk)
  · obtain ⟨mc, a, b⟩ := B.lim
    exact ⟨mc, ntab_ns a hg.old, b⟩
  · exact ⟨c, oc, vs, tk, hc, hg.old _ _ (tabLike_cls hcc) hoc, hcd, hq⟩
  · have : x.1 ∈ names := (List.of_mem_zip hx).1
    rcases hnm _ this with q | q
    · exact .inl q
    · refine .inr ⟨q, ?_⟩
      obtain ⟨c, hc⟩ := cellOf (s.heap.objs.size + 1) x.1 q
      rw [hc]; rfl
  · -- the frame
    have full := X.toInCall.keep
    have ex : Ext hb s.heap s₁.heap := Ext.full full
    obtain ⟨h₁, tk₁, hs₁⟩ := X.toInCall.same
    generalize hE : callEnvC fd s.heap.objs.size fa = env at *
    have eL : env.locals = s.heap.objs.size := by rw [← hE]; rfl
    have eS : env.scope = fd.scope := by rw [← hE]; rfl
    have dead : ∀ b, s.heap.objs.size ≤ b → s.heap.get? b = none := fun b hle => Heap.get?_none_of_le hle
    let Y := env.locals :: env.cells.filterMap fun p => env.cells.lookup p.1
    have inY : ∀ {x q}, env.cells.lookup x = some q → q ∈ Y := fun {x q} e => List.mem_cons_of_mem _ (List.mem_filterMap.mpr ⟨(x, q), mem_of_lookup e, e⟩)
    have ofY : ∀ {b}, b ∈ Y → b = env.locals ∨ ∃ x, env.cells.lookup x = some b := fun {b} m => by
      rcases List.mem_cons.mp m with e | m
      · exact .inl e
      · obtain ⟨p, _, hp⟩ := List.mem_filterMap.mp m
        exact .inr ⟨p.1, hp⟩
    have deadY : ∀ b ∈ Y, s.heap.get? b = none := fun b m => by
      rcases ofY m with rfl | ⟨x, hx⟩
      · exact dead _ (by rw [eL]; exact Nat.le_refl _)
      · have := X.above x b (mem_of_lookup hx)
        exact dead _ (Nat.le_of_lt (eL ▸ this))
    have kindE : ∀ x, env.kindOf x = fd.scope.names.lookup x := fun x => by show env.scope.names.lookup x = _; rw [eS]
    have hr' : ∀ {i : Nat} {d : D} {v : Value}, ds[i]? = some d → vals[i]? = some v → Rep s₁.heap (Y ++ Z) d v := fun {i d v} e1 e2 => by
      obtain ⟨v', e3, r⟩ := hr.get e1
      rw [e2] at e3; cases e3
      exact (r.more deadY).ext ex
    have act : Act hb env s.heap s.heap Y Z s₁.heap (names.zip (ds.map .val)) := by
      refine ⟨⟨hg.mono full, by rw [eS]; exact hk, by rw [← hE]; exact F.glob, by rw [← hE]; exact F.blt, fun b m => ?_, fun x d' m => ?_, fun x pl es m => ?_⟩, hg, ex, Kb.ext ex, deadY, fun x hx => ?_, fun x y q h1 h2 => name_of_addr X.apart (mem_of_lookup h1) (mem_of_lookup h2), fun y q hq' => ?_, fun x pl es m => ?_, fun b m mz => ?_⟩
      · rcases List.mem_append.mp m with m | m
        · rcases ofY m with rfl | ⟨x, hx⟩
          · exact (nice_ns X.toInCall.ns).ntab
          · exact (nice_cell (X.cell x b hx)).ntab
        · obtain ⟨o', ho', t'⟩ := hZ b m
          exact ⟨o', full b o' ho', t'⟩
      · obtain ⟨i, d'', v, e1, e2, e3, e4⟩ := zip_val vlen m
        cases e3
        refine ⟨v, ?_, hr' e1 e2⟩
        have hnd' : ((names.zip vals).map (·.1)).Nodup := by
          rw [List.map_fst_zip (by rw [hlen, vlen]; exact Nat.le_refl _)]; exact hnd
        rcases hnm x (List.of_mem_zip e4).1 with q | q
        · exact .inl ⟨by rw [kindE, q], _, X.toInCall.ns, bindL_get _ _ _ x v hnd' e4 (by rw [kindE, q])⟩
        · have : ∃ c, env.cells.lookup x = some c := by
            obtain ⟨c, hc⟩ := cellOf (s.heap.objs.size + 1) x q
            exact ⟨c, by rw [← hE]; exact hc⟩
          obtain ⟨c, hc⟩ := this
          refine .inr ⟨.inl (by rw [kindE, q]), c, hc, ?_⟩
          have := X.cell x c hc
          rwa [bindC_get _ _ _ x v hnd' e4 (by rw [kindE, q])] at this
      · obtain ⟨i, d'', v, e1, e2, e3, e4⟩ := zip_val vlen m
        cases e3
      · rcases hx with q | q
        · exact ⟨env.locals, List.mem_cons_self, .inl ⟨q, rfl, _, X.toInCall.ns⟩⟩
        · have : ∃ c, env.cells.lookup x = some c := by
            obtain ⟨c, hc⟩ := cellOf (s.heap.objs.size + 1) x (by rw [← kindE, q])
            exact ⟨c, by rw [← hE]; exact hc⟩
          obtain ⟨c, hc⟩ := this
          exact ⟨c, inY hc, .inr ⟨q, hc, _, X.cell x c hc⟩⟩
      · exact Nat.ne_of_gt (X.above y q (mem_of_lookup hq'))
      · obtain ⟨i, d'', v, e1, e2, e3, e4⟩ := zip_val vlen m
        cases e3
      · obtain ⟨o', ho', _⟩ := hZ b mz
        rw [deadY b m] at ho'; cases ho'
    refine st (A.deeper env) env s.heap Y Z s₁ _ _ ⟨hA.hd, by have := hA.dp; simp only [Around.deeper] at *; omega, by have := hA.un; simp only [Around.deeper] at *; omega⟩ eS (by rw [← hE]; rfl) (by rw [← hE]; rfl) act fun v h' tk' hv e => ?_
    refine k v _ hv ?_
    rw [hs₁]
    exact .of' e
theorem ct_intro (B : Base hb mg mb) {fa : Addr} {fd : FuncData} (F : FnAt' hb fa fd) {body : List Stmt} (names : List Str) {ds : List D} {d : D} (hbody : fd.body = .stmts body)
    (hbind : ∀ vals : List Value, vals.length = ds.length → bindArgs fd ⟨vals, []⟩ = pure (names.zip vals)) (hlen : names.length = ds.length) (hnd : names.Nodup)
    (hnm : ∀ x ∈ names, fd.scope.names.lookup x = some .local ∨ fd.scope.names.lookup x = some .cell)
    (st : St prog w hb true n fd.scope (names.zip (ds.map .val)) body (.ret d))
    (hco : fd.scope.isCoroutine = false := by rfl) (hgen : fd.scope.isGenerator = false := by rfl) (hk : fd.scope.kind = .function := by rfl) : Ct prog w hb fa (n + 1) ds d :=
  ct_raw B F names hbody hbind hlen hnd hnm (fun A env h₀ Y Z s Q E hA he _ _ a k => st A env h₀ h₀ Y Z s Q E hA he (fun _ => rfl) a k) hco hgen hk
end
end
section
open PySem PySem.W PyProof.Rows PySem.Calls
set_option linter.unusedVariables false
section
variable {prog : Program} {w : World} {hb : Heap} {t : Bool} {n : Nat} {sc : Scope} {ρ ρ' : Vars} {R : Out} {rest : List Stmt} {mg mb : Str → Option Value}
theorem Reps.drop {h : Heap} {Z : List Addr} : ∀ {ds : List D} {vs : List Value}, Reps h Z ds vs → ∀ k : Nat, Reps h Z (ds.drop k) (vs.drop k)
  | _, _, x, 0 => x
  | [], _, x, k + 1 => by rw [Reps] at x; subst x; simpa using Reps.nil
  | d :: ds, _, x, k + 1 => by
    rw [Reps] at x
    obtain ⟨v, r, rfl, _, h2⟩ := x
    simpa using Reps.drop h2 k
theorem Reps.take {h : Heap} {Z : List Addr} : ∀ {ds : List D} {vs : List Value}, Reps h Z ds vs → ∀ k : Nat, Reps h Z (ds.take k) (vs.take k)
  | _, _, _, 0 => by simpa using Reps.nil
  | [], _, x, k + 1 => by rw [Reps] at x; subst x; simpa using Reps.nil
  | d :: ds, _, x, k + 1 => by
    rw [Reps] at x
    obtain ⟨v, r, rfl, h1, h2⟩ := x
    simpa using Reps.cons h1 (Reps.take h2 k)
/-! slices -/
variable (prog w hb) in
noncomputable def EvP (n : Nat) (sc : Scope) (ρ : Vars) (e : Option Expr) (i : Option Int) : Prop :=
  ∀ (A : Around) (env : Env) (Z : List Addr) (s : Shared) (Q : Value → Shared → Prop) (E : Value → Shared → Prop), Rm n A → env.scope = sc → Rel hb env Z s.heap ρ →
    (∀ v s', IsPart v i → Kp hb s s' → Q v s') → wpAny (model prog w) A (evalPart e env) Q E s
theorem evp_none : EvP prog w hb n sc ρ none none := fun A env Z s Q E hA he rl k => wpAny_evalPart_none (k _ _ .none (.refl _ _))
theorem evp_some {e : Expr} {i : Int} (x : Ev prog w hb n sc ρ e (.int i)) : EvP prog w hb n sc ρ (some e) (some i) := fun A env Z s Q E hA he rl k =>
  wpAny_evalPart_some (x A env Z s _ E hA he rl fun v s₁ hv k₁ => by
    obtain ⟨t, rfl⟩ := rep_int hv
    exact k _ _ (.int i t) k₁)
noncomputable def pickD (ds : List D) (lo hi : Option Int) : List D := (ds.drop (kms_lo lo ds.length)).take (kms_hi hi ds.length - kms_lo lo ds.length)
theorem pickD_to {ds : List D} {j : Nat} : pickD ds none (some (j : Int)) = ds.take j := by
  unfold pickD kms_lo kms_hi
  simp only [List.drop_zero, Nat.sub_zero]
  rw [if_neg (by omega)]
  simp [List.take_eq_take_iff]
theorem pickD_from {ds : List D} {i : Nat} : pickD ds (some (i : Int)) none = ds.drop i := by
  unfold pickD kms_lo kms_hi
  simp only
  rw [if_neg (by omega)]
  rw [List.take_of_length_le (by simp)]
  simp only [Int.toNat_natCast]
  by_cases h : i ≤ ds.length
  · rw [Nat.min_eq_left h]
  · rw [Nat.min_eq_right (by omega), List.drop_of_length_le (by omega), List.drop_of_length_le (by omega)]
theorem evF_slice {value : Expr} {lo hi : Option Expr} {p pos : Pos} {ds : List D} {i j : Option Int} (x : EvL prog w hb n sc ρ value ds) (y : EvP prog w hb n sc ρ lo i) (z : EvP prog w hb n sc ρ hi j) (hz : ds.length ≤ sizeLine)
    (ht : ∀ o r, letTemporaryGo value o r = pure () := by intro _ _; rfl) : EvF prog w hb n sc ρ (.Subscript value (.Slice lo hi none p) pos) (pickD ds i j) := fun A env Z s Q E hA he rl k => by
  refine wpAny_Subscript_Slice (T := "list") list_getitem_lookup ?_ ht
  refine x A env Z s _ E hA he rl fun a items s₁ hl hr k₁ => wpAny_Slice ?_
  refine y A env Z s₁ _ E hA he (rl.ext k₁.ext) fun vl s₂ pl k₂ => ?_
  refine z A env Z s₂ _ E hA he ((rl.ext k₁.ext).ext k₂.ext) fun vu s₃ pu k₃ => wpAny_evalPart_none ?_
  have hl₃ : s₃.heap.IsList a items := IsList.off (IsList.off hl fun o => k₂.ext.keep _ o) fun o => k₃.ext.keep _ o
  have hr₃ := (hr.ext k₂.ext).ext k₃.ext
  have hl₄ := hl₃.push { cls := .type "slice", data := .fields #[vl, vu, .none] }
  have hsz : items.size = ds.length := by have := hr.length; simpa using this
  refine ⟨Heap.IsList.typeIs (s := { s₃ with heap := s₃.heap.push { cls := .type "slice", data := .fields #[vl, vu, .none] } }) hl₄, ?_⟩
  have e₄ : Ext hb s₃.heap (s₃.heap.push { cls := .type "slice", data := .fields #[vl, vu, .none] }) := Ext.push _
  refine wpAny_getItem_list_slice (st := none) hl₄ (Heap.IsSliceOf.new ..) pl pu .none (by simp) ?_ (by rw [hsz]; exact hz)
  dsimp only
  generalize hH : s₃.heap.push { cls := .type "slice", data := .fields #[vl, vu, .none] } = H at *
  have e₅ : Ext hb H (H.push { cls := .type "list", data := .seq (slicePick items i j none) }) := Ext.push _
  have fr : H.get? H.objs.size = none := Heap.get?_none_of_le (Nat.le_refl _)
  have ex := (k₁.trans k₂).trans k₃
  refine k _ _ _ (ex.ext.none (e₄.none fr)) ⟨0, Heap.get?_push_size _ rfl⟩ ?_ (ex.trans (.of (e₄.trans e₅)))
  have hr₄ := hr₃.ext e₄
  rw [kms_pick_eq] at e₅ ⊢
  have : Reps H Z (pickD ds i j) (kms_pick items.toList i j) := by
    unfold pickD kms_pick
    rw [show items.toList.length = ds.length by simpa using hsz]
    exact (hr₄.drop _).take _
  simpa using (this.more (W := [H.objs.size]) fun b m => by simp at m; subst m; exact fr).ext e₅
/-- what was mine to change is a value from now on (in a function's own block) -/
theorem st_thaw {x : Str} {pl : Bool} {ds : List D} {ss : List Stmt} (ρ' : Vars) (hx : (x, Slot.own pl ds) ∈ ρ) (hρ : ∀ p ∈ ρ', p ∈ ρ ∧ ∃ d, p.2 = .val d) (k : St prog w hb true n sc ((x, .val (.lst ds)) :: ρ') ss R) :
    St prog w hb true n sc ρ ss R := fun A env h₀ hs Y Z s Q E hA he ht a p => by
  have hs0 := ht rfl
  subst hs0
  obtain ⟨l, items, v, lo, hr⟩ := a.rel.own x pl ds hx
  obtain ⟨b, hY, vb⟩ := a.own x pl ds hx
  have : l = b := Value.ref.inj (v.fn vb)
  subst this
  let Y' := Y.filter (· != l)
  have inY' : ∀ {b}, b ∈ Y' ↔ b ∈ Y ∧ b ≠ l := fun {b} => by simp [Y']
  have lZ := a.yz l hY
  have sub : ∀ b, b ∈ Y' ++ Z → b ∈ Y ++ Z := fun b m => by
    rcases List.mem_append.mp m with m | m
    · exact List.mem_append_left _ (inY'.mp m).1
    · exact List.mem_append_right _ m
  have less : ∀ d v, Rep s.heap (Y ++ Z) d v → Rep s.heap (Y' ++ Z) d v := fun d v => Rep.mono (fun b o hn t e => ⟨e, fun m => hn (sub b m)⟩) d v
  have lesss : ∀ d v, Reps s.heap (Y ++ Z) d v → Reps s.heap (Y' ++ Z) d v := fun d v => Reps.mono (fun b o hn t e => ⟨e, fun m => hn (sub b m)⟩) d v
  have nY : ∀ {b o}, b ∉ Y' → hs.get? b = some o → b ∉ Y := fun {b o} hn e m => by
    by_cases q : b = l
    · subst q; rw [a.fresh b m] at e; cases e
    · exact hn (inY'.mpr ⟨m, q⟩)
  refine k A env hs hs Y' Z s Q E hA he ht ⟨⟨a.rel.g, a.rel.kind, a.rel.glob, a.rel.blt, fun b m => a.rel.live b (sub b m), fun y d m => ?_, fun y pl' es m => ?_⟩, a.g₀, a.kept, ⟨fun b o hn t e => a.kb.keep b o (nY hn e) t e, fun b o hn e => a.kb.live b o (nY hn e) e, a.kb.g⟩,
    fun b m => a.fresh b (inY'.mp m).1, fun y hy => ?_, a.apart, a.noL, fun y pl' es m => ?_, fun b m => a.yz b (inY'.mp m).1⟩ (p.from (fun b m => .inl (inY'.mp m).1) fun e => nomatch e)
  · rcases List.mem_cons.mp m with e | m
    · cases e
      refine ⟨.ref l, v, ?_⟩
      rw [Rep]
      refine ⟨l, items, rfl, fun m => ?_, lo.1, lesss _ _ hr⟩
      rcases List.mem_append.mp m with m | m
      · exact (inY'.mp m).2 rfl
      · exact lZ m
    · obtain ⟨u, q, r⟩ := a.rel.val y d (hρ _ m).1
      exact ⟨u, q, less _ _ r⟩
  · rcases List.mem_cons.mp m with e | m
    · cases e
    · obtain ⟨d, e⟩ := (hρ _ m).2
      cases e
  · obtain ⟨q, m, s'⟩ := a.st y hy
    exact ⟨q, inY'.mpr ⟨m, fun e => list_ne_store s' _ _ lo.1 e.symm⟩, s'⟩
  · rcases List.mem_cons.mp m with e | m
    · cases e
    · obtain ⟨d, e⟩ := (hρ _ m).2
      cases e
theorem assign_name {A : Around} {env : Env} (he : env.scope = sc) {h₀ hs : Heap} {Y Z : List Addr} {s : Shared} {x : Str} {px : Pos} {d : D} {v : Value} {Q : Unit → Shared → Prop} {E : Value → Shared → Prop} (ρ' : Vars) (a : Act hb env h₀ hs Y Z s.heap ρ) (hv : Rep s.heap (Y ++ Z) d v)
    (hx : sc.names.lookup x = some .local ∨ sc.names.lookup x = some .cell) (hρ : ∀ p ∈ ρ', p ∈ ρ ∧ p.1 ≠ x)
    (k : ∀ q h' tk, Act hb env h₀ hs Y Z h' ((x, .val d) :: ρ') → q ∈ Y → Kb hb [q] s.heap h' → Q () { s with heap := h', toks := tk }) : wpAny (model prog w) A (assign (.Name x px) env v) Q E s := by
  obtain ⟨q, hq, sa⟩ := a.st x (by show env.scope.names.lookup x = _ ∨ env.scope.names.lookup x = _; rw [he]; exact hx)
  exact wpAny_assign_Name (store_var a.rel.kind sa (a.hap sa) fun h' tk hs' sa' va' vo' => k q h' tk (a.bind hq sa hs' sa' va' hv vo' hρ) hq (Kb.same hs' sa.nice (a.hbfr hq)))
/-- `a, b = e`, e a pair -/
theorem st_unpack2 {x y : Str} {px py tpos pos : Pos} {kk : Nat} {e : Expr} {d₁ d₂ : D} (ρ₁ ρ₂ : Vars) (ev : Ev prog w hb n sc ρ e (.tup [d₁, d₂])) (k : St prog w hb t n sc ((y, .val d₂) :: ρ₂) rest R)
    (hx : sc.names.lookup x = some .local ∨ sc.names.lookup x = some .cell) (hy : sc.names.lookup y = some .local ∨ sc.names.lookup y = some .cell) (h₁ : ∀ p ∈ ρ₁, p ∈ ρ ∧ p.1 ≠ x) (h₂ : ∀ p ∈ ρ₂, p ∈ (x, Slot.val d₁) :: ρ₁ ∧ p.1 ≠ y)
    (hs₁ : ∀ env, env.scope = sc → swapsWithSole [.Tuple [.Name x px, .Name y py] kk tpos] e pos.line env = pure false := by intro _ _; rfl)
    (hw : ∀ env, env.scope = sc → swappedStores [.Tuple [.Name x px, .Name y py] kk tpos] e env = pure none := by intro _ _; rfl)
    (ha : ∀ env, (assignEach [.Name x px, .Name y py] env).map (·.2) = [assign (.Name x px) env, assign (.Name y py) env] ∧ (assignEach [.Name x px, .Name y py] env).length = 2 ∧ (assignEach [.Name x px, .Name y py] env).findIdx? (·.1) = none := by intro _; exact ⟨rfl, rfl, rfl⟩) :
    St prog w hb t n sc ρ (.Assign [.Tuple [.Name x px, .Name y py] kk tpos] e pos :: rest) R := fun A env h₀ hs Y Z s Q E hA he ht a p => by
  refine wpAny_execs_cons (Assign_Tuple ?_ (hs₁ env he) (hw env he))
  refine ev A env (Y ++ Z) s _ E hA he a.rel fun v s₁ hv k₁ => ?_
  rw [Rep] at hv
  obtain ⟨u, items, rfl, hu, hl, hr⟩ := hv
  obtain ⟨tk₁, hh, rfl, e₁⟩ := k₁
  dsimp only at hl hr e₁
  have hsz : items.size = 2 := by have := hr.length; simpa using this
  refine wpAny_assign_Tuple hA.hd hl (by rw [(ha env).2.1, hsz]) (ha env).2.2 fun h₂' hx₂ => ?_
  rw [(ha env).1]
  have full : ∀ b o, tk₁.get? b = some o → h₂'.get? b = some o := fun b o e => hx₂ b o (Nat.ne_of_lt (Heap.lt_size e)) e
  have e₂ : Ext hb tk₁ h₂' := Ext.full full
  have a₂ := (a.ext e₁).ext e₂
  rw [Reps] at hr
  obtain ⟨v₁, r₁, e3, hv₁, hr⟩ := hr
  rw [Reps] at hr
  obtain ⟨v₂, r₂, rfl, hv₂, hr⟩ := hr
  rw [Reps] at hr
  subst hr
  rw [e3]
  have mYZ : ∀ {q}, q ∈ Y → ∀ b ∈ [q], b ∈ Y ++ Z := fun {q} m b mb => by simp at mb; subst mb; exact List.mem_append_left _ m
  refine wpAny_bind (wpAny_holding (assign_name he ρ₁ a₂ (hv₁.ext e₂) hx h₁ fun q h₃ tk₃ a₃ hq kb₃ => ?_))
  refine wpAny_bind (wpAny_holding (assign_name he ρ₂ a₃ ((hv₂.ext e₂).kb kb₃ (mYZ hq)) hy h₂ fun q h₄ tk₄ a₄ hq kb₄ => ?_))
  exact wpAny_pure (k A env h₀ hs Y Z _ Q E hA he ht a₄ (p.from (fun _ m => .inl m) fun _ _ m => m))
end
end
section
open PySem PySem.W PyProof.Rows PySem.Calls
set_option linter.unusedVariables false
section
variable {prog : Program} {w : World} {hb : Heap} {t : Bool} {n : Nat} {sc : Scope} {ρ ρ' : Vars} {R : Out} {rest : List Stmt} {mg mb : Str → Option Value}
theorem preSum_ints {is : List Int} {val : Nat → Int} (h : ∀ (i : Nat) (v : Int), is[i]? = some v → val i = v) : ∀ k, k ≤ is.length → preSum val k = (is.take k).sum
  | 0, _ => by simp [preSum]
  | k + 1, hk => by
    rw [preSum, preSum_ints h k (by omega), h k is[k] (by simp), List.take_add_one, List.getElem?_eq_getElem (by omega), List.sum_append]; simp
theorem ev_sum {e : Expr} {p pos : Pos} {is : List Int} (hg : Gl prog w hb n sc ρ "sum" (.builtin "sum")) (x : EvL prog w hb n sc ρ e (is.map D.int)) (hs : ∀ env, starEach [e] env = [(false, eval e env)] := by intro _; rfl) :
    Ev prog w hb n sc ρ (.Call (.Name "sum" p) [e] [] pos) (.int is.sum) := fun A env Z s Q E hA he rl k => by
  refine Call_ (hg p A env Z s _ E hA he rl ?_)
  refine PyProof.Rows.callWith_builtin1 ?_ (by rw [hs]; rfl)
  rw [hs]
  refine spliced_cons (x A env Z s _ E hA he rl fun a items s₁ hl hr k₁ => spliced_nil ?_)
  have hi := hr.length
  simp only [Array.length_toList, List.length_map] at hi
  have hne : a ≠ s₁.heap.objs.size := by obtain ⟨o, ho, _⟩ := id hl; exact Nat.ne_of_lt (Heap.lt_size ho)
  have ex : Ext hb s₁.heap (s₁.heap.push { cls := .type "list_iterator", data := .fields #[.ref a, .int 0 0] }) := Ext.push _
  have fr : s₁.heap.get? s₁.heap.objs.size = none := Heap.get?_none_of_le (Nat.le_refl _)
  refine call_sum_walkG (wpAny_pyIter_list hl ?_)
  refine ⟨s₁.heap.objs.size, [s₁.heap.objs.size, a], [s₁.heap.objs.size], items.size, fun i v => items[i]? = some v, fun i h => h.IsListIter s₁.heap.objs.size a i ∧ h.IsList a items, fun i => (is[i]?).getD 0, rfl, Walks.list (A := A.in1) hA.hd _ a hne items,
    ⟨⟨_, Heap.get?_push_size _ rfl, rfl, rfl⟩, IsList.off hl fun o => ex.keep _ o⟩, ?_, ?_, ?_⟩
  · intro b hb'
    obtain ⟨o, ho, _⟩ := id hl
    have lt := Heap.lt_size ho
    simp only [Heap.size_push]
    rcases List.mem_cons.mp hb' with rfl | hb'
    · exact Nat.lt_succ_self _
    · simp at hb'; subst hb'; exact Nat.lt_succ_of_lt lt
  · intro i v hv
    obtain ⟨d, e1, e2⟩ := hr.get' (i := i) (v := v) (by simpa using hv)
    rw [List.getElem?_map, Option.map_eq_some_iff] at e1
    obtain ⟨j, e3, rfl⟩ := e1
    obtain ⟨u, rfl⟩ := rep_int e2
    exact ⟨u, by simp [e3]⟩
  · intro h' tk t' hk
    have hpre : preSum (fun i => (is[i]?).getD 0) items.size = is.sum := by
      rw [preSum_ints (is := is) (fun i v e => by simp [e]) _ (by rw [hi]; exact Nat.le_refl _), hi, List.take_length]
    rw [hpre]
    refine k _ _ (rep_of_int _ _ _ _) (k₁.trans ⟨h', tk, rfl, Ext.full fun b o e => hk b o ?_ (Heap.get?_push_of_some _ e)⟩)
    simp; exact Nat.ne_of_lt (Heap.lt_size e)
/-- `a, b, c = e`, e a list of three -/
theorem st_unpack3 {x y z : Str} {px py pz tpos pos : Pos} {kk : Nat} {e : Expr} {d₁ d₂ d₃ : D} (ρ₁ ρ₂ ρ₃ : Vars) (ev : EvL prog w hb n sc ρ e [d₁, d₂, d₃]) (k : St prog w hb t n sc ((z, .val d₃) :: ρ₃) rest R)
    (hx : sc.names.lookup x = some .local ∨ sc.names.lookup x = some .cell) (hy : sc.names.lookup y = some .local ∨ sc.names.lookup y = some .cell) (hz : sc.names.lookup z = some .local ∨ sc.names.lookup z = some .cell)
    (h₁ : ∀ p ∈ ρ₁, p ∈ ρ ∧ p.1 ≠ x) (h₂ : ∀ p ∈ ρ₂, p ∈ (x, Slot.val d₁) :: ρ₁ ∧ p.1 ≠ y) (h₃ : ∀ p ∈ ρ₃, p ∈ (y, Slot.val d₂) :: ρ₂ ∧ p.1 ≠ z)
    (hs₁ : ∀ env, env.scope = sc → swapsWithSole [.Tuple [.Name x px, .Name y py, .Name z pz] kk tpos] e pos.line env = pure false := by intro _ _; rfl)
    (hw : ∀ env, env.scope = sc → swappedStores [.Tuple [.Name x px, .Name y py, .Name z pz] kk tpos] e env = pure none := by intro _ _; rfl)
    (ha : ∀ env, (assignEach [.Name x px, .Name y py, .Name z pz] env).map (·.2) = [assign (.Name x px) env, assign (.Name y py) env, assign (.Name z pz) env] ∧ (assignEach [.Name x px, .Name y py, .Name z pz] env).length = 3 ∧ (assignEach [.Name x px, .Name y py, .Name z pz] env).findIdx? (·.1) = none := by intro _; exact ⟨rfl, rfl, rfl⟩) :
    St prog w hb t n sc ρ (.Assign [.Tuple [.Name x px, .Name y py, .Name z pz] kk tpos] e pos :: rest) R := fun A env h₀ hs Y Z s Q E hA he ht a p => by
  refine wpAny_execs_cons (Assign_Tuple ?_ (hs₁ env he) (hw env he))
  refine ev A env (Y ++ Z) s _ E hA he a.rel fun u items s₁ hl hr k₁ => ?_
  obtain ⟨hh, tk₁, rfl, e₁⟩ := k₁
  dsimp only at hl hr e₁
  have hsz : items.size = 3 := by have := hr.length; simpa using this
  rw [assign_Tuple]
  refine wpAny_bind (wpAny_standAt ?_)
  unfold unpack
  rw [show (assignEach [.Name x px, .Name y py, .Name z pz] env).length = items.size by rw [(ha env).2.1, hsz], (ha env).2.2, (ha env).1]
  refine wpAny_bind (wpAny_holding (kun_itemsOf hA.hd hl fun h₂' hx₂ => ?_))
  have full : ∀ b o, hh.get? b = some o → h₂'.get? b = some o := fun b o e => hx₂ b o (Nat.ne_of_lt (Heap.lt_size e)) e
  have e₂ : Ext hb hh h₂' := Ext.full full
  have a₂ := (a.ext e₁).ext e₂
  rw [Reps] at hr
  obtain ⟨v₁, r₁, e3, hv₁, hr⟩ := hr
  rw [Reps] at hr
  obtain ⟨v₂, r₂, rfl, hv₂, hr⟩ := hr
  rw [Reps] at hr
  obtain ⟨v₃, r₃, rfl, hv₃, hr⟩ := hr
  rw [Reps] at hr
  subst hr
  rw [e3]
  have mYZ : ∀ {q}, q ∈ Y → ∀ b ∈ [q], b ∈ Y ++ Z := fun {q} m b mb => by simp at mb; subst mb; exact List.mem_append_left _ m
  refine wpAny_bind (wpAny_holding (assign_name he ρ₁ a₂ (hv₁.ext e₂) hx h₁ fun q H₃ tk₃ a₃ hq kb₃ => ?_))
  refine wpAny_bind (wpAny_holding (assign_name he ρ₂ a₃ ((hv₂.ext e₂).kb kb₃ (mYZ hq)) hy h₂ fun q' h₄ tk₄ a₄ hq' kb₄ => ?_))
  refine wpAny_bind (wpAny_holding (assign_name he ρ₃ a₄ (((hv₃.ext e₂).kb kb₃ (mYZ hq)).kb kb₄ (mYZ hq')) hz h₃ fun q'' h₅ tk₅ a₅ hq'' kb₅ => ?_))
  exact wpAny_pure (k A env h₀ hs Y Z _ Q E hA he ht a₅ (p.from (fun _ m => .inl m) fun _ _ m => m))
end
end
section
open PySem PySem.W PyProof.Rows PySem.Calls
set_option linter.unusedVariables false
theorem sub_nil {α : Type} {ρ : List α} : ∀ p ∈ ([] : List α), p ∈ ρ := fun _ h => nomatch h
theorem sub_cons {α : Type} {ρ r : List α} {a : α} (h : a ∈ ρ) (k : ∀ p ∈ r, p ∈ ρ) : ∀ p ∈ a :: r, p ∈ ρ := List.forall_mem_cons.mpr ⟨h, k⟩
section
variable {prog : Program} {w : World} {hb : Heap} {t : Bool} {n : Nat} {sc : Scope} {ρ ρ' : Vars} {R : Out} {rest : List Stmt} {mg mb : Str → Option Value}
noncomputable def compChk (scope sc : Scope) (x : Str) (caps : List Str) : Bool :=
  (scope.kind == .function) && (scope.names.all fun y => !(y.2 == .local) || scope.names.lookup y.1 == some .local) && (scope.names.lookup x == some .local || scope.names.lookup x == some .cell) &&
  (scope.names.all fun y => !(y.2 == .cell) || y.1 == x) && (scope.names.all fun y => !(y.2 == .free) || (!(y.1 == x) && (sc.names.lookup y.1 == some .cell || sc.names.lookup y.1 == some .free) && caps.contains y.1)) &&
  (caps.all fun y => !(y == x) && scope.names.lookup y == some .free)
theorem CompOk.of {scope : Scope} {x : Str} {cap : Vars} (h : compChk scope sc x (cap.map (·.1)) = true) (hm : ∀ p ∈ cap, p ∈ ρ) : CompOk scope sc x cap ρ := by
  unfold compChk at h
  simp only [Bool.and_eq_true, Bool.or_eq_true, List.all_eq_true, Bool.not_eq_true', beq_iff_eq, List.contains_iff_mem, List.mem_map, Bool.not_eq_eq_eq_not, Bool.not_true, beq_eq_false_iff_ne] at h
  obtain ⟨⟨⟨⟨⟨h1, h2⟩, h3⟩, h4⟩, h5⟩, h6⟩ := h
  refine ⟨h1, fun y hy e => (h2 y hy).resolve_left (fun q => q e), h3, fun y hy e => (h4 y hy).resolve_left (fun q => q e), fun y hy e => ((h5 y hy).resolve_left (fun q => q e)).1.1, fun y hy => ?_, fun p hp => ?_⟩
  · obtain ⟨⟨_, a⟩, q, hq, e⟩ := (h5 _ hy).resolve_left (fun q => q rfl)
    exact ⟨a, q.2, by have := hm q hq; have e : q.1 = y := e; rw [← e]; exact this⟩
  · have := h6 p.1 ⟨p, hp, rfl⟩
    exact ⟨hm p hp, this.1, this.2⟩
open Classical in
noncomputable def liftP {α : Type} (g : α → D) (p : α → Bool) (d : D) : Bool := decide (∃ a, g a = d ∧ p a = true)
open Classical in
noncomputable def liftF {α : Type} (g : α → D) (f : α → D) (d : D) : D := if h : ∃ a, g a = d then f h.choose else d
open Classical in
theorem liftP_eq {α : Type} {g : α → D} (hg : ∀ a b, g a = g b → a = b) (p : α → Bool) (a : α) : liftP g p (g a) = p a := by
  unfold liftP
  cases h : p a with
  | true => exact decide_eq_true ⟨a, rfl, h⟩
  | false =>
    refine decide_eq_false ?_
    rintro ⟨b, e, hb⟩
    rw [hg b a e, h] at hb; cases hb
theorem liftF_eq {α : Type} {g : α → D} (hg : ∀ a b, g a = g b → a = b) (f : α → D) (a : α) : liftF g f (g a) = f a := by
  unfold liftF
  have h : ∃ b, g b = g a := ⟨a, rfl⟩
  rw [dif_pos h]
  rw [hg _ _ h.choose_spec]
theorem lift_all {α : Type} {g : α → D} (hg : ∀ a b, g a = g b → a = b) (p : α → Bool) (f : α → D) (xs : List α) : ((xs.map g).filter (liftP g p)).map (liftF g f) = (xs.filter p).map f := by
  rw [List.filter_map, List.map_map]
  have e1 : liftP g p ∘ g = p := funext fun a => liftP_eq hg p a
  have e2 : liftF g f ∘ g = f := funext fun a => liftF_eq hg f a
  rw [e1, e2]
theorem evF_compM {α : Type} (xs : List α) (g : α → D) (hg : ∀ a b, g a = g b → a = b) (p : α → Bool) (f : α → D) (cap : Vars) {x : Str} {px : Pos} {elt iter : Expr} {ifs : List Expr} {scope : Scope} {pos : Pos} (hit : It prog w hb n sc ρ iter (xs.map g))
    (htest : ∀ a ∈ xs, Tst prog w hb n (relab scope sc) ((x, .val (g a)) :: cap) ifs (p a))
    (helt : ∀ a ∈ xs, p a = true → Ev prog w hb n (relab scope sc) ((x, .val (g a)) :: cap) elt (f a))
    (hsz : xs.length ≤ sizeLine := by decide) (ok : compChk scope sc x (cap.map (·.1)) = true := by kernel_rfl) (hm : ∀ p ∈ cap, p ∈ ρ := by trivial) (hs : ∀ env x, foldedSetIterable iter env x = pure x := by intro _ _; rfl) :
    EvF prog w hb n sc ρ (.ListComp elt [⟨.Name x px, iter, ifs, 0⟩] scope pos) ((xs.filter p).map f) := by
  rw [← lift_all hg p f xs]
  refine evF_comp (liftP g p) (liftF g f) cap hit (.of ok hm) (fun d hd => ?_) (fun d hd hp => ?_) (by simpa using hsz) hs
  · obtain ⟨a, ha, rfl⟩ := List.mem_map.mp hd
    rw [liftP_eq hg]; exact htest a ha
  · obtain ⟨a, ha, rfl⟩ := List.mem_map.mp hd
    rw [liftP_eq hg] at hp
    rw [liftF_eq hg]; exact helt a ha hp
theorem s_compV {α : Type} (xs : List α) (g : α → D) (hg : ∀ a b, g a = g b → a = b) (p : α → Bool) (f : α → D) (cap ρ' : Vars) {x y : Str} {px py : Pos} {elt iter : Expr} {ifs : List Expr} {scope : Scope} {pos spos : Pos} (hit : It prog w hb n sc ρ iter (xs.map g))
    (htest : ∀ a ∈ xs, Tst prog w hb n (relab scope sc) ((x, .val (g a)) :: cap) ifs (p a))
    (helt : ∀ a ∈ xs, p a = true → Ev prog w hb n (relab scope sc) ((x, .val (g a)) :: cap) elt (f a))
    (k : St prog w hb t n sc ((y, .val (.lst ((xs.filter p).map f))) :: ρ') rest R)
    (hsz : xs.length ≤ sizeLine := by decide) (ok : compChk scope sc x (cap.map (·.1)) = true := by kernel_rfl) (hm : ∀ p ∈ cap, p ∈ ρ := by trivial)
    (hy : sc.names.lookup y = some .local ∨ sc.names.lookup y = some .cell := by first | exact Or.inl rfl | exact Or.inr rfl) (hm' : ∀ p ∈ ρ', p ∈ ρ := by trivial) (hne : (ρ'.all fun p => !(p.1 == y)) = true := by kernel_rfl)
    (hsw : ∀ env, env.scope = sc → env.scope.kind = .function → swapsWith (.ListComp elt [⟨.Name x px, iter, ifs, 0⟩] scope pos) (some (.Name y py)) spos.line env = pure true := by intro _ h _; unfold swapsWith; simp only [Env.blockKind, Env.kindOf, h]; rfl)
    (hs : ∀ env x, foldedSetIterable iter env x = pure x := by intro _ _; rfl) :
    St prog w hb t n sc ρ (.Assign [.Name y py] (.ListComp elt [⟨.Name x px, iter, ifs, 0⟩] scope pos) spos :: rest) R := fun A env h₀ hs' Y Z s Q E hA he ht a pp => by
  have e := lift_all hg p f xs
  refine st_compV (liftP g p) (liftF g f) cap ρ' hit (.of ok hm) (fun d hd => ?_) (fun d hd hp => ?_) (by simpa using hsz) (by rw [e]; exact k) hy (fun q hq => ⟨hm' q hq, by have := List.all_eq_true.mp hne q hq; simpa using this⟩) (fun env' he' => ?_) hs A env h₀ hs' Y Z s Q E hA he ht a pp
  · obtain ⟨a, ha, rfl⟩ := List.mem_map.mp hd
    rw [liftP_eq hg]; exact htest a ha
  · obtain ⟨a, ha, rfl⟩ := List.mem_map.mp hd
    rw [liftP_eq hg] at hp
    rw [liftF_eq hg]; exact helt a ha hp
  · exact hsw env' he' (by rw [he', ← he]; exact a.rel.kind)
theorem int_inj (a b : Nat) (h : D.int (a : Int) = D.int (b : Int)) : a = b := by
  injection h with h; exact Int.ofNat.inj h
theorem rangeD_nat (k : Nat) : rangeD (k : Int) = (List.range k).map fun (i : Nat) => D.int (i : Int) := by unfold rangeD; rw [Int.toNat_natCast]
theorem it_rangeN {e : Expr} {pos p : Pos} {k : Nat} (hg : Gl prog w hb n sc ρ "range" (.type "range")) (x : Ev prog w hb n sc ρ e (.int (k : Int))) (hk : k ≤ 1000000000 := by decide)
    (hs : ∀ env, starEach [e] env = [(false, eval e env)] := by intro _; rfl)
    (hcl : ∀ env, eval (.Call (.Name "range" p) [e] [] pos) env = (do callWith pos (← eval (.Name "range" p) env) [] (backTo pos (starEach [e] env)) (backToKw pos [])) := by intro _; rfl) : It prog w hb n sc ρ (.Call (.Name "range" p) [e] [] pos) ((List.range k).map fun (i : Nat) => D.int (i : Int)) := by
  rw [← rangeD_nat]
  exact it_range (hg p) x (by omega) (by omega) hs hcl
end
end
local macro_rules | `(tactic| trivial) => `(tactic| first | ((repeat' (first | (with_reducible exact List.mem_cons_self) | (with_reducible refine List.mem_cons_of_mem _ ?_) | (with_reducible refine sub_cons ?_ ?_) | (with_reducible exact sub_nil))); done) | simp)
section
open PySem PySem.W PyProof.Rows PySem.Calls
set_option linter.unusedVariables false
theorem or_xor_and (a : Nat) : ∀ b : Nat, a ||| b = (a ^^^ b) + (a &&& b) := by
  induction a using Nat.strongRecOn with
  | _ a ih =>
    intro b
    by_cases h : a = 0
    · subst h; simp
    · have i := ih (a / 2) (by omega) (b / 2)
      rw [← Nat.or_div_two, ← Nat.xor_div_two, ← Nat.and_div_two] at i
      have m1 : (a ||| b) % 2 = (a % 2) ||| (b % 2) := Nat.or_mod_two_pow (n := 1)
      have m2 : (a ^^^ b) % 2 = (a % 2) ^^^ (b % 2) := Nat.xor_mod_two_pow (n := 1)
      have m3 : (a &&& b) % 2 = (a % 2) &&& (b % 2) := Nat.and_mod_two_pow (n := 1)
      have e : (a % 2) ||| (b % 2) = ((a % 2) ^^^ (b % 2)) + ((a % 2) &&& (b % 2)) := by
        rcases Nat.mod_two_eq_zero_or_one a with p | p <;> rcases Nat.mod_two_eq_zero_or_one b with q | q <;> rw [p, q] <;> rfl
      omega
theorem bitAnd_nat (a b : Nat) : Builtin.bitAnd (a : Int) b = ((a &&& b : Nat) : Int) := rfl
theorem bitOr_nat (a b : Nat) : Builtin.bitOr (a : Int) b = ((a ||| b : Nat) : Int) := by
  unfold Builtin.bitOr Builtin.bitAnd Builtin.bitNot
  have h : ∀ x : Nat, decide (0 ≤ -(x : Int) - 1) = false := fun x => decide_eq_false (by omega)
  rw [h, h]
  have h2 : ∀ x : Nat, (-(-(x : Int) - 1) - 1).toNat = x := fun x => by omega
  dsimp only
  rw [h2, h2]
  omega
theorem bitXor_nat (a b : Nat) : Builtin.bitXor (a : Int) b = ((a ^^^ b : Nat) : Int) := by
  unfold Builtin.bitXor
  rw [bitOr_nat, bitAnd_nat, or_xor_and]
  omega
section
variable {prog : Program} {w : World} {hb : Heap} {t : Bool} {n : Nat} {sc : Scope} {ρ ρ' : Vars} {R : Out} {rest : List Stmt} {mg mb : Str → Option Value}
theorem ev_eq {e : Expr} {d d' : D} (h : d = d') (x : Ev prog w hb n sc ρ e d) : Ev prog w hb n sc ρ e d' := h ▸ x
theorem evF_eq {e : Expr} {d d' : List D} (h : d = d') (x : EvF prog w hb n sc ρ e d) : EvF prog w hb n sc ρ e d' := h ▸ x
theorem evL_eq {e : Expr} {d d' : List D} (h : d = d') (x : EvL prog w hb n sc ρ e d) : EvL prog w hb n sc ρ e d' := h ▸ x
theorem evB_eq {e : Expr} {d d' : Bool} (h : d = d') (x : EvB prog w hb n sc ρ e d) : EvB prog w hb n sc ρ e d' := h ▸ x
/-! on naturals -/
theorem n_add {l r : Expr} {pos : Pos} {a b : Nat} (x : Ev prog w hb n sc ρ l (.int a)) (y : Ev prog w hb n sc ρ r (.int b)) : Ev prog w hb n sc ρ (.BinOp l .Add r pos) (.int ((a + b : Nat) : Int)) := ev_eq (congrArg D.int (by omega)) (ev_add x y)
theorem n_mod {l r : Expr} {pos : Pos} {a b : Nat} (x : Ev prog w hb n sc ρ l (.int a)) (y : Ev prog w hb n sc ρ r (.int b)) (hb0 : b ≠ 0 := by decide) : Ev prog w hb n sc ρ (.BinOp l .Mod r pos) (.int ((a % b : Nat) : Int)) :=
  ev_eq (congrArg D.int (by rw [Int.fmod_eq_emod_of_nonneg _ (by omega)]; omega)) (ev_mod x y (by omega))
theorem n_div {l r : Expr} {pos : Pos} {a b : Nat} (x : Ev prog w hb n sc ρ l (.int a)) (y : Ev prog w hb n sc ρ r (.int b)) (hb0 : b ≠ 0 := by decide) (hs : b < 1073741824 := by decide) : Ev prog w hb n sc ρ (.BinOp l .FloorDiv r pos) (.int ((a / b : Nat) : Int)) :=
  ev_eq (congrArg D.int (by rw [Int.fdiv_eq_ediv_of_nonneg _ (by omega)]; omega)) (ev_floordiv x y (by omega) (by omega))
theorem n_shl {l r : Expr} {pos : Pos} {a b : Nat} (x : Ev prog w hb n sc ρ l (.int a)) (y : Ev prog w hb n sc ρ r (.int b)) (hs : (Builtin.Int.intBits a : Int) + b ≤ 2 ^ 27) : Ev prog w hb n sc ρ (.BinOp l .LShift r pos) (.int ((a * 2 ^ b : Nat) : Int)) :=
  ev_eq (congrArg D.int (by rw [Int.toNat_natCast]; push_cast; rfl)) (ev_shl x y (by omega) hs)
theorem n_shr {l r : Expr} {pos : Pos} {a b : Nat} (x : Ev prog w hb n sc ρ l (.int a)) (y : Ev prog w hb n sc ρ r (.int b)) : Ev prog w hb n sc ρ (.BinOp l .RShift r pos) (.int ((a / 2 ^ b : Nat) : Int)) :=
  ev_eq (congrArg D.int (by rw [Int.toNat_natCast, Int.fdiv_eq_ediv_of_nonneg _ (by exact_mod_cast Nat.zero_le _)]; push_cast; rfl)) (ev_shr x y (by omega))
theorem n_and {l r : Expr} {pos : Pos} {a b : Nat} (x : Ev prog w hb n sc ρ l (.int a)) (y : Ev prog w hb n sc ρ r (.int b)) : Ev prog w hb n sc ρ (.BinOp l .BitAnd r pos) (.int ((a &&& b : Nat) : Int)) := ev_and x y
theorem n_or {l r : Expr} {pos : Pos} {a b : Nat} (x : Ev prog w hb n sc ρ l (.int a)) (y : Ev prog w hb n sc ρ r (.int b)) : Ev prog w hb n sc ρ (.BinOp l .BitOr r pos) (.int ((a ||| b : Nat) : Int)) := ev_eq (congrArg D.int (bitOr_nat a b)) (ev_or x y)
theorem n_xor {l r : Expr} {pos : Pos} {a b : Nat} (x : Ev prog w hb n sc ρ l (.int a)) (y : Ev prog w hb n sc ρ r (.int b)) : Ev prog w hb n sc ρ (.BinOp l .BitXor r pos) (.int ((a ^^^ b : Nat) : Int)) := ev_eq (congrArg D.int (bitXor_nat a b)) (ev_xor x y)
theorem n_int {i : Nat} {k : Nat} {pos : Pos} : Ev prog w hb n sc ρ (.Constant (.int (i : Int)) k pos) (.int (i : Int)) := ev_int
theorem n_sub {l r : Expr} {pos : Pos} {a b : Nat} (x : Ev prog w hb n sc ρ l (.int a)) (y : Ev prog w hb n sc ρ r (.int b)) (h : b ≤ a) : Ev prog w hb n sc ρ (.BinOp l .Sub r pos) (.int ((a - b : Nat) : Int)) := ev_eq (congrArg D.int (by omega)) (ev_sub x y)
theorem n_len {e : Expr} {p pos : Pos} {ds : List D} {k : Nat} (hg : Gl prog w hb n sc ρ "len" (.builtin "len")) (x : EvL prog w hb n sc ρ e ds) (hk : ds.length = k) (hz : ds.length ≤ 1000000) (hs : ∀ env, starEach [e] env = [(false, eval e env)] := by intro _; rfl)
    (hcl : ∀ env, eval (.Call (.Name "len" p) [e] [] pos) env = (do callWith pos (← eval (.Name "len" p) env) [] (backTo pos (starEach [e] env)) (backToKw pos [])) := by intro _; rfl) : Ev prog w hb n sc ρ (.Call (.Name "len" p) [e] [] pos) (.int (k : Nat)) :=
  ev_eq (by rw [hk]) (evL_len (hg p) x (by unfold sizeLine; omega) hs hcl)
/-- a comparison of naturals -/
theorem nB_lt {l r : Expr} {pos : Pos} {a b : Nat} (x : Ev prog w hb n sc ρ l (.int a)) (y : Ev prog w hb n sc ρ r (.int b)) (hm : behindInMarks .Lt r = false := by rfl) : EvB prog w hb n sc ρ (.Compare l [.Lt] [r] pos) (decide (a < b)) :=
  evB_int x y (by show some (decide _) = _; congr 1; exact decide_eq_decide.mpr (by omega)) hm
theorem nB_gt {l r : Expr} {pos : Pos} {a b : Nat} (x : Ev prog w hb n sc ρ l (.int a)) (y : Ev prog w hb n sc ρ r (.int b)) (hm : behindInMarks .Gt r = false := by rfl) : EvB prog w hb n sc ρ (.Compare l [.Gt] [r] pos) (decide (b < a)) :=
  evB_int x y (by show some (decide _) = _; congr 1; exact decide_eq_decide.mpr (by omega)) hm
theorem nB_ge {l r : Expr} {pos : Pos} {a b : Nat} (x : Ev prog w hb n sc ρ l (.int a)) (y : Ev prog w hb n sc ρ r (.int b)) (hm : behindInMarks .GtE r = false := by rfl) : EvB prog w hb n sc ρ (.Compare l [.GtE] [r] pos) (decide (b ≤ a)) :=
  evB_int x y (by show some (decide _) = _; congr 1; exact decide_eq_decide.mpr (by omega)) hm
theorem nB_le {l r : Expr} {pos : Pos} {a b : Nat} (x : Ev prog w hb n sc ρ l (.int a)) (y : Ev prog w hb n sc ρ r (.int b)) (hm : behindInMarks .LtE r = false := by rfl) : EvB prog w hb n sc ρ (.Compare l [.LtE] [r] pos) (decide (a ≤ b)) :=
  evB_int x y (by show some (decide _) = _; congr 1; exact decide_eq_decide.mpr (by omega)) hm
theorem nB_eq {l r : Expr} {pos : Pos} {a b : Nat} (x : Ev prog w hb n sc ρ l (.int a)) (y : Ev prog w hb n sc ρ r (.int b)) (hm : behindInMarks .Eq r = false := by rfl) : EvB prog w hb n sc ρ (.Compare l [.Eq] [r] pos) (decide (a = b)) :=
  evB_int x y (by show some _ = _; congr 1; rw [Bool.eq_iff_iff]; simp; try omega) hm
theorem nB_ne {l r : Expr} {pos : Pos} {a b : Nat} (x : Ev prog w hb n sc ρ l (.int a)) (y : Ev prog w hb n sc ρ r (.int b)) (hm : behindInMarks .NotEq r = false := by rfl) : EvB prog w hb n sc ρ (.Compare l [.NotEq] [r] pos) (decide (a ≠ b)) :=
  evB_int x y (by show some _ = _; congr 1; rw [Bool.eq_iff_iff]; simp; try omega) hm
end
end
section
open PySem PySem.W PyProof.Rows PySem.Calls
set_option linter.unusedVariables false
set_option maxRecDepth 100000
noncomputable def stN (i : Nat) : Stmt := (Challenge.pw_tp0059_01.main.body[i]?).getD (.Pass default)
noncomputable def fdSt (st : Stmt) (q nm : Str) (doc pm : Value) (ann : Option Addr) (cd ct : Value) : FuncData := match st with
  | .FunctionDef _ params body _ _ _ scope _ _ _ => ⟨nm, q, params, .stmts body, scope, mainGlobals, [], .none, .none, doc, pm, ann, cd, ct, builtinsNs⟩
  | _ => default
noncomputable abbrev V (x : String) (d : D) : Str × Slot := (Str.ofString x, .val d)
noncomputable abbrev O (x : String) (pl : Bool) (ds : List D) : Str × Slot := (Str.ofString x, .own pl ds)
section
variable {prog : Program} {w : World} {hb : Heap} {t : Bool} {n : Nat} {sc : Scope} {ρ ρ' : Vars} {R : Out} {rest : List Stmt} {mg mb : Str → Option Value}
theorem ne_of_all {x : Str} {ρ' : Vars} (h : (ρ'.all fun p => !(p.1 == x)) = true) (hm : ∀ p ∈ ρ', p ∈ ρ) : ∀ p ∈ ρ', p ∈ ρ ∧ p.1 ≠ x := fun p hp => ⟨hm p hp, by
  have := List.all_eq_true.mp h p hp
  simpa using this⟩
theorem val_of_all {ρ' : Vars} (h : (ρ'.all fun p => match p.2 with | .val _ => true | _ => false) = true) (hm : ∀ p ∈ ρ', p ∈ ρ) : ∀ p ∈ ρ', p ∈ ρ ∧ ∃ d, p.2 = .val d := fun p hp => ⟨hm p hp, by
  have := List.all_eq_true.mp h p hp
  split at this
  · rename_i d e; exact ⟨d, e⟩
  · cases this⟩
theorem s_assign {x : Str} {px pos : Pos} {e : Expr} {d : D} (ρ' : Vars) (ev : Ev prog w hb n sc ρ e d) (k : St prog w hb t n sc ((x, .val d) :: ρ') rest R)
    (hx : sc.names.lookup x = some .local ∨ sc.names.lookup x = some .cell := by first | exact Or.inl rfl | exact Or.inr rfl) (hm : ∀ p ∈ ρ', p ∈ ρ := by trivial) (hne : (ρ'.all fun p => !(p.1 == x)) = true := by kernel_rfl)
    (hsw : ∀ env, env.scope = sc → swapsWith e (some (.Name x px)) pos.line env = pure false := by first | (intro _ _; rfl) | (intro _ h; unfold swapsWith; simp only [Env.blockKind, Env.kindOf, h]; rfl)) :
    St prog w hb t n sc ρ (.Assign [.Name x px] e pos :: rest) R := st_assign ρ' ev k hx (ne_of_all hne hm) hsw
theorem s_own {x : Str} {px pos : Pos} {e : Expr} {ds : List D} (ρ' : Vars) (ev : EvF prog w hb n sc ρ e ds) (k : St prog w hb t n sc ((x, .own true ds) :: ρ') rest R)
    (hx : sc.names.lookup x = some .local ∨ sc.names.lookup x = some .cell := by first | exact Or.inl rfl | exact Or.inr rfl) (hm : ∀ p ∈ ρ', p ∈ ρ := by trivial) (hne : (ρ'.all fun p => !(p.1 == x)) = true := by kernel_rfl)
    (hsw : ∀ env, env.scope = sc → swapsWith e (some (.Name x px)) pos.line env = pure false := by first | (intro _ _; rfl) | (intro _ h; unfold swapsWith; simp only [Env.blockKind, Env.kindOf, h]; rfl)) :
    St prog w hb t n sc ρ (.Assign [.Name x px] e pos :: rest) R := st_own ρ' ev k hx (ne_of_all hne hm) hsw
end
section
variable {prog : Program} {w : World} {hb : Heap} {n : Nat} {mg mb : Str → Option Value}
noncomputable def onesTo (k i : Nat) : Nat := ((List.range i).map fun j => k / 2 ^ j % 2).sum
noncomputable def turns (k : Nat) : Nat := if k = 0 then 0 else k.log2 + 1
noncomputable def ones (k : Nat) : Nat := onesTo k (turns k)
theorem onesTo_succ (k i : Nat) : onesTo k (i + 1) = onesTo k i + k / 2 ^ i % 2 := by
  unfold onesTo; rw [List.range_succ, List.map_append, List.sum_append]; simp
theorem turns_lt {k i : Nat} (h : i < turns k) : 0 < k / 2 ^ i := by
  unfold turns at h
  split at h
  · omega
  · rename_i hk
    have : 2 ^ i ≤ k := (Nat.le_log2 hk).mp (by omega)
    exact Nat.div_pos this (Nat.two_pow_pos i)
theorem turns_end (k : Nat) : k / 2 ^ turns k = 0 := by
  unfold turns
  split
  · rename_i h; subst h; rfl
  · rename_i hk
    exact Nat.div_eq_of_lt Nat.lt_log2_self
theorem ct_ones (B : Base hb mg mb) {nm : Str} {doc pm : Value} {ann : Option Addr} {cd ct : Value} (F : FnAt' hb 345 (fdSt (stN 28) (Str.ofString "_law_ones") nm doc pm ann cd ct)) (k : Nat) : Ct prog w hb 345 (n + 1) [.int k] (.int (ones k)) := by
  refine ct_intro B F [Str.ofString "number"] rfl (fun vals hv => ?_) rfl (by decide) (fun x hx => ?_) ?_
  · obtain ⟨v, rfl⟩ : ∃ v, vals = [v] := List.length_eq_one_iff.mp hv
    rfl
  · simp at hx; subst hx; left; rfl
  · show St _ _ _ _ _ _ [V "number" (.int k)] _ _
    refine s_assign [V "number" (.int k)] ev_int ?_
    refine st_while (turns k) (fun i => [V "ones" (.int (onesTo k i : Nat)), V "number" (.int (k / 2 ^ i : Nat))]) (by simp [onesTo]) (fun i hi => ?_) (fun i hi => ?_) ?_ ?_
    · refine evB_int (b := 0) (ev_name (d := .int (k / 2 ^ i : Nat)) (.tail _ (.head _))) ev_int ?_
      have := turns_lt hi
      show some (decide _) = _
      rw [decide_eq_true (by omega)]
    · refine s_assign (d := .int (onesTo k (i + 1) : Nat)) [V "number" (.int (k / 2 ^ i : Nat))] (ev_eq (congrArg D.int ?_) (ev_add (ev_name (d := .int (onesTo k i : Nat)) (.head _)) (ev_mod (ev_name (d := .int (k / 2 ^ i : Nat)) (.tail _ (.head _))) ev_int (by decide)))) ?_
      · rw [onesTo_succ, Int.fmod_eq_emod_of_nonneg _ (by decide)]; omega
      · refine s_assign (d := .int (k / 2 ^ (i + 1) : Nat)) [V "ones" (.int (onesTo k (i + 1) : Nat))] (ev_eq (congrArg D.int ?_) (ev_floordiv (ev_name (d := .int (k / 2 ^ i : Nat)) (.tail _ (.head _))) ev_int (by decide) (by decide))) ?_
        · rw [Int.fdiv_eq_ediv_of_nonneg _ (by decide), Nat.pow_succ, ← Nat.div_div_eq_div_mul]; omega
        · exact st_sub (by simp) st_nil
    · refine evB_int (b := 0) (ev_name (d := .int (k / 2 ^ turns k : Nat)) (.tail _ (.head _))) ev_int ?_
      rw [turns_end]; rfl
    · exact st_ret (ev_name (.head _))
end
end
section
open PySem PySem.W PyProof.Rows PySem.Calls
set_option linter.unusedVariables false
set_option maxRecDepth 100000
section
variable {prog : Program} {w : World} {hb : Heap} {n : Nat} {mg mb : Str → Option Value}
noncomputable def dTie (t : Nat × Nat) : D := .tup ([t.1, t.2].map fun (i : Nat) => D.int (i : Int))
noncomputable def dInts (is : List Nat) : D := .lst (is.map fun (i : Nat) => D.int (i : Int))
noncomputable def meets (ts : List (Nat × Nat)) (pl k : Nat) : Bool := match ts[k]? with | some t => pl == t.1 || pl == t.2 | none => false
noncomputable def cutOf (ts : List (Nat × Nat)) (pl : Nat) : Nat := (((List.range ts.length).filter (meets ts pl)).map fun k => 1 * 2 ^ k).sum
noncomputable def cuts (ts : List (Nat × Nat)) : List Nat :=
  let b := cutOf ts 1; let c := cutOf ts 2; let d := cutOf ts 3
  [b, c, d, b ^^^ c, b ^^^ d, c ^^^ d, b ^^^ c ^^^ d]
theorem sum_cast : ∀ l : List Nat, (l.map fun (k : Nat) => (k : Int)).sum = ((l.sum : Nat) : Int)
  | [] => rfl
  | a :: l => by rw [List.map_cons, List.sum_cons, List.sum_cons, sum_cast l]; omega
theorem ct_cuts (B : Base hb mg mb) (hlen : mg "len" = none) (hlen' : mb "len" = some (.builtin "len")) (hran : mg "range" = none) (hran' : mb "range" = some (.type "range")) (hsum : mg "sum" = none) (hsum' : mb "sum" = some (.builtin "sum"))
    {nm : Str} {doc pm : Value} {ann : Option Addr} {cd ct : Value} (F : FnAt' hb 333 (fdSt (stN 26) (Str.ofString "_law_cuts") nm doc pm ann cd ct)) (ts : List (Nat × Nat)) (hts : ts.length ≤ 100) : Ct prog w hb 333 (n + 1) [.lst (ts.map dTie)] (dInts (cuts ts)) := by
  refine ct_intro B F [Str.ofString "ties"] rfl (fun vals hv => ?_) rfl (by decide) (fun x hx => ?_) ?_
  · obtain ⟨v, rfl⟩ : ∃ v, vals = [v] := List.length_eq_one_iff.mp hv
    rfl
  · simp at hx; subst hx; right; rfl
  · show St _ _ _ _ _ _ [V "ties" (.lst (ts.map dTie))] _ _
    refine st_unpack3 (d₁ := .int (cutOf ts 1 : Nat)) (d₂ := .int (cutOf ts 2 : Nat)) (d₃ := .int (cutOf ts 3 : Nat)) [] [V "b" (.int (cutOf ts 1 : Nat))] [V "c" (.int (cutOf ts 2 : Nat)), V "b" (.int (cutOf ts 1 : Nat))] (evL_eq ?e (EvF.evL (evF_compM [1, 2, 3] (fun (i : Nat) => D.int (i : Int)) int_inj (fun _ => true) (fun pl => .int (cutOf ts pl : Nat)) [V "ties" (.lst (ts.map dTie))] ?it ?tst ?elt))) ?rest (.inl rfl) (.inl rfl) (.inl rfl) (by simp) (ne_of_all (by kernel_rfl) (by simp)) (ne_of_all (by kernel_rfl) (by simp))
    case e => rfl
    case it => exact it_tup (ev_tuple (evs_cons n_int (evs_cons n_int (evs_cons n_int evs_nil))) (by decide))
    case tst => exact fun _ _ => tst_nil
    case elt =>
      intro pl hpl _
      refine ev_eq (congrArg D.int ?_) (ev_sum (is := (((List.range ts.length).filter (meets ts pl)).map fun k => ((1 * 2 ^ k : Nat) : Int))) (gl_blt B rfl hsum hsum') (EvF.evL (evF_eq ?_ (evF_compM (List.range ts.length) (fun (i : Nat) => D.int (i : Int)) int_inj (meets ts pl) (fun k => .int (1 * 2 ^ k : Nat)) [V "place" (.int (pl : Nat)), V "ties" (.lst (ts.map dTie))] ?_ ?_ ?_ (by simp; unfold sizeLine; omega)))))
      · unfold cutOf
        rw [← sum_cast, List.map_map]; rfl
      · rw [List.map_map]; rfl
      · refine it_rangeN (gl_blt B rfl hran hran') (n_len (gl_blt B rfl hlen hlen') (Ev.evL (ev_name (.tail _ (.head _)))) (by simp) (by simp; omega)) (by omega)
      · intro k hk
        have hk' : k < ts.length := List.mem_range.mp hk
        refine tst_one (evB_eq ?_ (evB_inTup (a := (pl : Nat)) (bs := [(ts[k].1 : Int), (ts[k].2 : Int)]) (ev_name (.tail _ (.head _))) (ev_item (i := (k : Nat)) (Ev.evL (ev_name (.tail _ (.tail _ (.head _))))) (ev_name (.head _)) (by omega) ?_ (by simp; unfold sizeLine; omega))))
        · unfold meets
          rw [List.getElem?_eq_getElem hk', Bool.eq_iff_iff]
          simp only [List.any_cons, List.any_nil, Bool.or_false, Bool.or_eq_true, beq_iff_eq]
          omega
        · simp [hk', dTie]
      · intro k hk _
        have hk' : k < ts.length := List.mem_range.mp hk
        exact n_shl n_int (ev_name (.head _)) (by rw [show Builtin.Int.intBits ((1 : Nat) : Int) = 1 from rfl]; omega)
    case rest =>
      have b : ∀ {m p}, Ev prog w hb m (fdSt (stN 26) (Str.ofString "_law_cuts") nm doc pm ann cd ct).scope [V "d" (.int (cutOf ts 3 : Nat)), V "c" (.int (cutOf ts 2 : Nat)), V "b" (.int (cutOf ts 1 : Nat))] (.Name (Str.ofString "b") p) (.int (cutOf ts 1 : Nat)) := ev_name (.tail _ (.tail _ (.head _)))
      have c : ∀ {m p}, Ev prog w hb m (fdSt (stN 26) (Str.ofString "_law_cuts") nm doc pm ann cd ct).scope [V "d" (.int (cutOf ts 3 : Nat)), V "c" (.int (cutOf ts 2 : Nat)), V "b" (.int (cutOf ts 1 : Nat))] (.Name (Str.ofString "c") p) (.int (cutOf ts 2 : Nat)) := ev_name (.tail _ (.head _))
      have d : ∀ {m p}, Ev prog w hb m (fdSt (stN 26) (Str.ofString "_law_cuts") nm doc pm ann cd ct).scope [V "d" (.int (cutOf ts 3 : Nat)), V "c" (.int (cutOf ts 2 : Nat)), V "b" (.int (cutOf ts 1 : Nat))] (.Name (Str.ofString "d") p) (.int (cutOf ts 3 : Nat)) := ev_name (.head _)
      exact st_ret (EvF.ev (evF_list (evs_cons b (evs_cons c (evs_cons d (evs_cons (n_xor b c) (evs_cons (n_xor b d) (evs_cons (n_xor c d) (evs_cons (n_xor (n_xor b c) d) evs_nil))))))) (by simp [cuts]; unfold sizeLine; omega)))
end
end
section
open PySem PySem.W PyProof.Rows PySem.Calls
set_option linter.unusedVariables false
set_option maxRecDepth 100000
section
variable {prog : Program} {w : World} {hb : Heap} {n : Nat} {mg mb : Str → Option Value}
noncomputable def bit (k i : Nat) : Bool := ((k / 2 ^ i &&& 1 : Nat) : Int) != 0
noncomputable def ringOf (tree : Nat) (trees : List Nat) (e : Nat) : List Nat := (List.range e).filter fun f => bit tree f && (trees.contains (tree ^^^ (1 * 2 ^ f) ^^^ (1 * 2 ^ e)) && true)
noncomputable def outTo (tree : Nat) (trees : List Nat) : Nat → Nat
  | 0 => 0
  | e + 1 => if (!bit tree e) = true then (if (ringOf tree trees e).isEmpty = true then outTo tree trees e + 1 else outTo tree trees e) else outTo tree trees e
theorem any_cast (l : List Nat) (a : Nat) : ((l.map fun (i : Nat) => (i : Int)).any (· == (a : Int))) = l.contains a := by
  induction l with
  | nil => rfl
  | cons b l ih =>
    rw [List.map_cons, List.any_cons, ih, List.contains_cons]
    congr 1
    rw [Bool.eq_iff_iff, beq_iff_eq, beq_iff_eq]
    omega
structure Blt (mg mb : Str → Option Value) : Prop where
  len : mg "len" = none ∧ mb "len" = some (.builtin "len")
  ran : mg "range" = none ∧ mb "range" = some (.type "range")
  sum : mg "sum" = none ∧ mb "sum" = some (.builtin "sum")
theorem ct_outer (B : Base hb mg mb) (T : Blt mg mb) {nm : Str} {doc pm : Value} {ann : Option Addr} {cd ct : Value} (F : FnAt' hb 338 (fdSt (stN 27) (Str.ofString "_law_outer") nm doc pm ann cd ct))
    (tree : Nat) (trees : List Nat) (many : Nat) (hm : many ≤ 100) : Ct prog w hb 338 (n + 1) [.int tree, dInts trees, .int many] (.int (outTo tree trees many : Nat)) := by
  refine ct_intro B F [Str.ofString "tree", Str.ofString "trees", Str.ofString "many"] rfl (fun vals hv => ?_) rfl (by decide +kernel) (fun x hx => ?_) ?_
  · match vals, hv with | [a, b, c], _ => rfl
  · simp only [List.mem_cons, List.not_mem_nil, or_false] at hx
    rcases hx with rfl | rfl | rfl
    · right; rfl
    · right; rfl
    · left; rfl
  · show St _ _ _ _ _ _ [V "tree" (.int tree), V "trees" (dInts trees), V "many" (.int many)] _ _
    refine s_assign [V "tree" (.int tree), V "trees" (dInts trees), V "many" (.int many)] ev_int ?_
    refine st_for (ds := (List.range many).map fun (i : Nat) => D.int (i : Int)) (fun i => [V "firsts" (.int (outTo tree trees i : Nat)), V "tree" (.int tree), V "trees" (dInts trees)]) (it_rangeN (gl_blt B rfl T.ran.1 T.ran.2) (ev_name (.tail _ (.tail _ (.tail _ (.head _))))) (by omega)) (by simp [outTo]) (.inr rfl)
      (fun i _ p hp => (ne_of_all (ρ := [V "firsts" (.int (outTo tree trees i : Nat)), V "tree" (.int tree), V "trees" (dInts trees)]) (by kernel_rfl) (fun _ h => h) p hp).2) (fun i d hd => ?_) ?_
    · obtain ⟨j, hj, rfl⟩ : ∃ j : Nat, (List.range many)[i]? = some j ∧ D.int (j : Int) = d := by simpa using hd
      have : j = i := by rw [List.getElem?_range (by rw [List.getElem?_eq_some_iff] at hj; simpa using hj.1)] at hj; exact (Option.some.inj hj).symm
      subst this
      have trs : ∀ {m} {sc : Scope} {ρ : Vars} {p : Pos}, (Str.ofString "trees", Slot.val (dInts trees)) ∈ ρ → EvL prog w hb m sc ρ (.Name (Str.ofString "trees") p) ((trees.map fun (i : Nat) => (i : Int)).map D.int) := fun h => by
        rw [List.map_map]; exact Ev.evL (ev_name h)
      refine st_if [V "firsts" (.int (outTo tree trees (j + 1) : Nat)), V "tree" (.int tree), V "trees" (dInts trees)] (c := !bit tree j) (evB_not (evB_truthInt (n_and (n_shr (ev_name (.tail _ (.tail _ (.head _)))) (ev_name (.head _))) n_int))) (fun hc => ?_) (fun hc => ?_) st_nil
      · refine s_compV (List.range j) (fun (i : Nat) => D.int (i : Int)) int_inj (fun f => bit tree f && (trees.contains (tree ^^^ (1 * 2 ^ f) ^^^ (1 * 2 ^ j)) && true)) (fun f => .int (f : Nat)) [V "e" (.int (j : Nat)), V "tree" (.int tree), V "trees" (dInts trees)]
          [V "firsts" (.int (outTo tree trees j : Nat)), V "tree" (.int tree), V "trees" (dInts trees)] ?_ ?_ ?_ ?_ ?_
        · exact it_rangeN (gl_blt B rfl T.ran.1 T.ran.2) (ev_name (.head _)) (by have := List.mem_range.mp (List.mem_of_getElem? hd |> fun _ => (List.mem_range.mpr (show j < many from by have := (List.getElem?_eq_some_iff.mp hj).1; simpa using this))); omega)
        · intro f hf
          refine tst_one (evB_and (evB_truthInt (n_and (n_shr (ev_name (.tail _ (.tail _ (.head _)))) (ev_name (.head _))) n_int)) fun _ => evB_and (evB_eq ?_ (evB_inLst (n_xor (n_xor (ev_name (.tail _ (.tail _ (.head _)))) (n_shl n_int (ev_name (.head _)) ?_)) (n_shl n_int (ev_name (.tail _ (.head _))) ?_)) (trs (.tail _ (.tail _ (.tail _ (.head _))))))) fun _ => evB_and0)
          · exact any_cast trees _
          · rw [show Builtin.Int.intBits ((1 : Nat) : Int) = 1 from rfl]; have := List.mem_range.mp hf; have := (List.getElem?_eq_some_iff.mp hj).1; simp at this; omega
          · rw [show Builtin.Int.intBits ((1 : Nat) : Int) = 1 from rfl]; have := (List.getElem?_eq_some_iff.mp hj).1; simp at this; omega
        · intro f hf _
          exact ev_name (.head _)
        · refine st_if [V "firsts" (.int (outTo tree trees (j + 1) : Nat)), V "tree" (.int tree), V "trees" (dInts trees)] (c := (ringOf tree trees j).isEmpty) (evB_eq ?_ (evB_eqLst (as := (ringOf tree trees j).map fun (i : Nat) => (i : Int)) (bs := []) (evL_eq ?_ (Ev.evL (ev_name (.head _)))) (EvF.evL (evF_list evs_nil (by decide))) (.inl ⟨rfl, rfl⟩))) (fun he => ?_) (fun he => ?_) st_nil
          · cases ringOf tree trees j <;> simp
          · rw [List.map_map]; rfl
          · refine s_assign [V "tree" (.int tree), V "trees" (dInts trees)] (ev_eq ?_ (n_add (a := outTo tree trees j) (ev_name (.tail _ (.head _))) n_int)) st_nil
            rw [outTo, if_pos hc, if_pos he]
          · refine st_sub (fun p hp => ?_) st_nil
            rw [outTo, if_pos hc, if_neg (by rw [he]; decide)] at hp
            exact .tail _ hp
        · have := (List.getElem?_eq_some_iff.mp hj).1
          simp at this
          simp; unfold sizeLine; omega
      · refine st_sub (fun p hp => ?_) st_nil
        rw [outTo, if_neg (by rw [hc]; decide)] at hp
        exact .tail _ hp
    · exact st_ret (ev_eq (by simp) (ev_name (.head _)))
end
end
section
open PySem PySem.W PyProof.Rows PySem.Calls
set_option linter.unusedVariables false
section
variable {prog : Program} {w : World} {hb : Heap} {t : Bool} {n : Nat} {sc : Scope} {ρ ρ' : Vars} {R : Out} {rest : List Stmt} {mg mb : Str → Option Value}
theorem ne_of_all' {x : Str} {ρ' : Vars} (h : (ρ'.all fun p => !(p.1 == x)) = true) (hm : ∀ p ∈ ρ', p ∈ ρ) : ∀ p ∈ ρ', p ∈ ρ ∧ p.1 ≠ x := fun p hp => ⟨hm p hp, by
  have := List.all_eq_true.mp h p hp
  simpa using this⟩
theorem val_of_all' {ρ' : Vars} (h : (ρ'.all fun p => match p.2 with | .val _ => true | _ => false) = true) (hm : ∀ p ∈ ρ', p ∈ ρ) : ∀ p ∈ ρ', p ∈ ρ ∧ ∃ d, p.2 = .val d := fun p hp => ⟨hm p hp, by
  have := List.all_eq_true.mp h p hp
  split at this
  · rename_i d e; exact ⟨d, e⟩
  · cases this⟩
theorem s_for {α : Type} (xs : List α) (g : α → D) (I : Nat → Vars) {x : Str} {px pos : Pos} {iter : Expr} {body : List Stmt} (hit : It prog w hb n sc ρ iter (xs.map g)) (h0 : ∀ p ∈ I 0, p ∈ ρ)
    (tb : ∀ i a, xs[i]? = some a → St prog w hb false n sc ((x, .val (g a)) :: I i) body (.next (I (i + 1))))
    (k : St prog w hb t n sc (I xs.length) rest R) (hx : sc.names.lookup x = some .local ∨ sc.names.lookup x = some .cell := by first | exact Or.inl rfl | exact Or.inr rfl) (hxI : ∀ i, ((I i).all fun p => !(p.1 == x)) = true := by intro _; kernel_rfl)
    (hs₁ : ∀ env x, foldedSetIterable iter env x = pure x := by intro _ _; rfl) (ht₁ : ∀ it v, letOwnedTupleGo (.Name x px) it v = pure () := by intro _ _; rfl) :
    St prog w hb t n sc ρ (.For (.Name x px) iter body [] pos :: rest) R :=
  st_for I hit h0 hx (fun i _ p hp => by have := List.all_eq_true.mp (hxI i) p hp; simpa using this) (fun i d hd => by
    rw [List.getElem?_map, Option.map_eq_some_iff] at hd
    obtain ⟨a, ha, rfl⟩ := hd
    exact tb i a ha) (by rw [List.length_map]; exact k) hs₁ ht₁
theorem s_setitem {x : Str} {px ps pos : Pos} {e i : Expr} {pl : Bool} {ds : List D} {d : D} {j : Nat} (ρ' : Vars) (hx : (x, Slot.own pl ds) ∈ ρ) (ev : Ev prog w hb n sc ρ e d) (evi : Ev prog w hb n sc ρ i (.int (j : Nat))) (hj : j < ds.length)
    (k : St prog w hb t n sc ((x, .own false (ds.set j d)) :: ρ') rest R) (hz : ds.length ≤ 1000000)
    (hm : ∀ p ∈ ρ', p ∈ ρ := by trivial) (hv : (ρ'.all fun p => match p.2 with | .val _ => true | _ => false) = true := by rfl)
    (hok : okName x = true := by decide) (hsw : ∀ env, env.scope = sc → swapsWith e (some ((Expr.Name x px).Subscript i ps)) pos.line env = pure false := by intro _ _; rfl) :
    St prog w hb t n sc ρ (.Assign [.Subscript (.Name x px) i ps] e pos :: rest) R :=
  st_setitem ρ' hx ev evi (by omega) (by omega) (by unfold sizeLine; omega) (val_of_all' hv hm) (by rw [Int.toNat_natCast]; exact k) hok hsw
theorem s_append {x : Str} {px apos pos spos : Pos} {e : Expr} {ds : List D} {d : D} (ρ' : Vars) (hx : (x, Slot.own true ds) ∈ ρ) (ev : Ev prog w hb n sc ρ e d)
    (k : St prog w hb t n sc ((x, .own true (ds ++ [d])) :: ρ') rest R) (hz : ds.length ≤ 100000) (hm : ∀ p ∈ ρ', p ∈ ρ := by trivial) (hv : (ρ'.all fun p => match p.2 with | .val _ => true | _ => false) = true := by rfl) (hok : okName x = true := by decide)
    (h1 : ∀ env, attributeBase (.Name x px) (Str.ofString "append") env (eval (.Name x px) env) = eval (.Name x px) env := by intro _; rfl)
    (h2 : ∀ env, ((((backTo pos (starEach [e] env)).all fun x => !x.fst) && (backToKw pos (keywordEach [] env)).all fun x => x.fst.isSome) && decide (([e].length + ([] : List Keyword).length + if ([] : List Keyword).isEmpty = true then 0 else 1) < 30)) = true := by intro _; rfl)
    (h3 : (apos.endLine == pos.line) = true := by rfl) (h4 : ∀ env, backTo pos (starEach [e] env) = [(false, eval e env)] := by intro _; rfl)
    (hi : ∀ env, env.scope = sc → interactive env = false := by intro _ h; simp only [interactive, h]; rfl) (hsw : ∀ env, env.scope = sc → swapsWith (.Call (.Attribute (.Name x px) (Str.ofString "append") apos) [e] [] pos) none spos.line env = pure false := by intro _ _; rfl) :
    St prog w hb t n sc ρ (.Expr (.Call (.Attribute (.Name x px) (Str.ofString "append") apos) [e] [] pos) spos :: rest) R :=
  st_append ρ' hx ev (val_of_all' hv hm) hz k hok h1 h2 h3 h4 hi hsw
/-- plainness forgotten -/
theorem st_unpl {x : Str} {ds : List D} {ss : List Stmt} (ρ' : Vars) (hx : (x, Slot.own true ds) ∈ ρ) (hm : ∀ p ∈ ρ', p ∈ ρ) (k : St prog w hb t n sc ((x, .own false ds) :: ρ') ss R) : St prog w hb t n sc ρ ss R := fun A env h₀ hs Y Z s Q E hA he ht a p =>
  k A env h₀ hs Y Z s Q E hA he ht ⟨⟨a.rel.g, a.rel.kind, a.rel.glob, a.rel.blt, a.rel.live, fun y d m => by
    rcases List.mem_cons.mp m with e | m
    · cases e
    · exact a.rel.val y d (hm _ m), fun y pl es m => by
    rcases List.mem_cons.mp m with e | m
    · cases e
      obtain ⟨l, items, v, lo, r⟩ := a.rel.own x true ds hx
      exact ⟨l, items, v, ⟨lo.1, fun e => nomatch e⟩, r⟩
    · exact a.rel.own y pl es (hm _ m)⟩, a.g₀, a.kept, a.kb, a.fresh, a.st, a.apart, a.noL, fun y pl es m => by
    rcases List.mem_cons.mp m with e | m
    · cases e; exact a.own x true ds hx
    · exact a.own y pl es (hm _ m), a.yz⟩ p
end
end
section
open PySem PySem.W PyProof.Rows PySem.Calls
set_option linter.unusedVariables false
set_option maxRecDepth 100000
section
variable {prog : Program} {w : World} {hb : Heap} {n : Nat} {mg mb : Str → Option Value}
noncomputable def bump (c : List Int) (j : Nat) : List Int := c.set j (c.getD j 0 + 1)
noncomputable def fire1 (near : List (List Nat)) (c : List Int) (k : Nat) : List Int := (near.getD k []).foldl bump (c.set k (c.getD k 0 - ((near.getD k []).length : Int)))
noncomputable def firesOf (near : List (List Nat)) (c : List Int) : List Nat := [1, 2, 3].filter fun k => decide (((near.getD k []).length : Int) ≤ c.getD k 0)
noncomputable def turn (near : List (List Nat)) (x : List Int × List Nat) : List Int × List Nat := let c := x.2.foldl (fire1 near) x.1; (c, firesOf near c)
noncomputable def turnsN (near : List (List Nat)) (row : List Nat) : Nat → List Int × List Nat
  | 0 => (0 :: row.map fun (i : Nat) => (i : Int), [0])
  | i + 1 => turn near (turnsN near row i)
theorem bump_length (c : List Int) (j : Nat) : (bump c j).length = c.length := by simp [bump]
theorem foldl_bump_length : ∀ (l : List Nat) (c : List Int), (l.foldl bump c).length = c.length
  | [], _ => rfl
  | a :: l, c => by rw [List.foldl_cons, foldl_bump_length l, bump_length]
theorem fire1_length (near : List (List Nat)) (c : List Int) (k : Nat) : (fire1 near c k).length = c.length := by unfold fire1; rw [foldl_bump_length]; simp
theorem fires_length (near : List (List Nat)) : ∀ (l : List Nat) (c : List Int), (l.foldl (fire1 near) c).length = c.length
  | [], _ => rfl
  | a :: l, c => by rw [List.foldl_cons, fires_length near l, fire1_length]
noncomputable def dInt (i : Int) : D := .int i
noncomputable def dNear (near : List (List Nat)) : D := .lst (near.map dInts)
structure NearOk (near : List (List Nat)) : Prop where
  four : near.length = 4
  small : ∀ l ∈ near, l.length ≤ 1000 ∧ ∀ j ∈ l, j < 4
theorem turns_small (near : List (List Nat)) (row : List Nat) (i : Nat) : ∀ k ∈ (turnsN near row i).2, k < 4 := by
  cases i with
  | zero => intro k hk; simp [turnsN] at hk; omega
  | succ i =>
    intro k hk
    simp only [turnsN, turn, firesOf] at hk
    have := (List.mem_filter.mp hk).1
    simp at this; omega
theorem turns_length (near : List (List Nat)) (row : List Nat) (i : Nat) : (turnsN near row i).1.length = row.length + 1 := by
  induction i with
  | zero => simp [turnsN]
  | succ i ih => simp only [turnsN, turn]; rw [fires_length, ih]
theorem getD_map {α β : Type} (f : α → β) (l : List α) (k : Nat) (a : α) (hk : k < l.length) : (l.map f)[k]? = some (f (l.getD k a)) := by
  simp [hk]
theorem near_small {near : List (List Nat)} (ok : NearOk near) (k : Nat) : (near.getD k []).length ≤ 1000 ∧ ∀ j ∈ near.getD k [], j < 4 := by
  by_cases h : k < near.length
  · have : near.getD k [] ∈ near := by rw [List.getD_eq_getElem?_getD, List.getElem?_eq_getElem h]; simp
    exact ok.small _ this
  · rw [List.getD_eq_getElem?_getD, List.getElem?_eq_none (by omega)]; simp
theorem take_fold {α β : Type} (f : β → α → β) (l : List α) (m : Nat) (a : α) (b : β) (h : l[m]? = some a) : (l.take (m + 1)).foldl f b = f ((l.take m).foldl f b) a := by
  rw [List.take_add_one, h, List.foldl_append]; rfl
theorem ct_again (B : Base hb mg mb) (T : Blt mg mb) {nm : Str} {doc pm : Value} {ann : Option Addr} {cd ct : Value} (F : FnAt' hb 318 (fdSt (stN 23) (Str.ofString "_law_again") nm doc pm ann cd ct))
    (near : List (List Nat)) (row : List Nat) (ok : NearOk near) (hrow : row.length = 3) (N : Nat) (hN : ∀ i, i < N → (turnsN near row i).2 ≠ []) (hE : (turnsN near row N).2 = []) :
    Ct prog w hb 318 (n + 1) [dNear near, dInts row] (.lst (((turnsN near row N).1.drop 1).map dInt)) := by
  have len : ∀ {m} {sc : Scope} {ρ : Vars} {p pos : Pos} {e : Expr} {k : Nat}, sc.names.lookup (Str.ofString "len") = some .globalImplicit → Ev prog w hb m sc ρ e (dInts (near.getD k [])) → (∀ env, starEach [e] env = [(false, eval e env)]) → Ev prog w hb m sc ρ (.Call (.Name (Str.ofString "len") p) [e] [] pos) (.int (((near.getD k []).length : Nat) : Int)) := fun h x hs =>
    n_len (gl_blt B h T.len.1 T.len.2) (Ev.evL x) (by simp) (by rw [List.length_map]; exact Nat.le_trans (near_small ok _).1 (by decide)) hs (by intro _; rfl)
  refine ct_intro B F [Str.ofString "near", Str.ofString "row"] rfl (fun vals hv => ?_) rfl (by decide +kernel) (fun x hx => ?_) ?_
  · match vals, hv with | [a, b], _ => rfl
  · simp only [List.mem_cons, List.not_mem_nil, or_false] at hx
    rcases hx with rfl | rfl
    · right; rfl
    · left; rfl
  · show St _ _ _ _ _ _ [V "near" (dNear near), V "row" (dInts row)] _ _
    refine s_own (ds := (turnsN near row 0).1.map dInt) [V "near" (dNear near)] (evF_eq ?_ (evF_add (EvF.evL (evF_list (evs_cons ev_int evs_nil) (by decide))) (Ev.evL (ev_name (.tail _ (.head _)))) (by simp; unfold sizeLine; omega))) ?_
    · simp [turnsN, dInt]
    · refine s_assign (d := dInts (turnsN near row 0).2) [O "chips" true ((turnsN near row 0).1.map dInt), V "near" (dNear near)] (EvF.ev (evF_list (evs_cons n_int evs_nil) (show 1 ≤ sizeLine by decide))) ?_
      refine st_unpl [V "fires" (dInts (turnsN near row 0).2), V "near" (dNear near)] (.tail _ (.head _)) (by simp) ?_
      refine st_while N (fun i => [O "chips" false ((turnsN near row i).1.map dInt), V "fires" (dInts (turnsN near row i).2), V "near" (dNear near)]) (fun _ h => h) (fun i hi => ?_) (fun i hi => ?_) ?_ ?_
      · refine evB_eq ?_ (evB_eqLst (as := (turnsN near row i).2.map fun (i : Nat) => (i : Int)) (bs := []) (evL_eq ?_ (Ev.evL (ev_name (.tail _ (.head _))))) (EvF.evL (evF_list evs_nil (by decide))) (.inr ⟨rfl, rfl⟩))
        · have := hN i hi
          cases h : (turnsN near row i).2 with
          | nil => exact absurd h this
          | cons a l => rfl
        · rw [List.map_map]; rfl
      · generalize hc : (turnsN near row i).1 = c
        generalize hf : (turnsN near row i).2 = fs
        have hc4 : c.length = 4 := by rw [← hc, turns_length, hrow]
        have hfs : ∀ k ∈ fs, k < 4 := hf ▸ turns_small near row i
        have hnext : turnsN near row (i + 1) = (fs.foldl (fire1 near) c, firesOf near (fs.foldl (fire1 near) c)) := by rw [turnsN, turn, hc, hf]
        rw [hnext]
        refine s_for fs (fun (i : Nat) => D.int (i : Int)) (fun m => [O "chips" false (((fs.take m).foldl (fire1 near) c).map dInt), V "fires" (dInts fs), V "near" (dNear near)]) (it_list (ev_name (.tail _ (.head _)))) (fun _ h => h) (fun m k hk => ?_) ?_
        · generalize hd : (fs.take m).foldl (fire1 near) c = d
          have hd4 : d.length = 4 := by rw [← hd, fires_length, hc4]
          have hk4 : k < 4 := hfs k (List.mem_of_getElem? hk)
          rw [show (fs.take (m + 1)).foldl (fire1 near) c = fire1 near d k by rw [take_fold _ _ _ _ _ hk, hd]]
          have nk : ∀ {m} {sc : Scope} {ρ : Vars} {p p' pos : Pos}, (Str.ofString "near", Slot.val (dNear near)) ∈ ρ → (Str.ofString "k", Slot.val (.int (k : Nat))) ∈ ρ → Ev prog w hb m sc ρ (.Subscript (.Name (Str.ofString "near") p) (.Name (Str.ofString "k") p') pos) (dInts (near.getD k [])) := fun h1 h2 =>
            ev_item (i := (k : Nat)) (Ev.evL (ev_name h1)) (ev_name h2) (by omega) (by rw [Int.toNat_natCast]; exact getD_map dInts near k [] (by rw [ok.four]; exact hk4)) (by rw [List.length_map, ok.four]; decide)
          refine s_setitem (j := k) [V "k" (.int (k : Nat)), V "fires" (dInts fs), V "near" (dNear near)] (.tail _ (.head _)) (ev_sub (ev_item (i := (k : Nat)) (ev_own (.tail _ (.head _))) (ev_name (.head _)) (by omega) (by rw [Int.toNat_natCast]; exact getD_map dInt d k 0 (by omega)) (by rw [List.length_map, hd4]; decide)) (len rfl (nk (.tail _ (.tail _ (.tail _ (.head _)))) (.head _)) (by intro _; rfl))) (ev_name (.head _)) (by rw [List.length_map]; omega) ?_ (by rw [List.length_map]; omega)
          refine s_for (near.getD k []) (fun (i : Nat) => D.int (i : Int)) (fun m' => [O "chips" false ((((near.getD k []).take m').foldl bump (d.set k (d.getD k 0 - ((near.getD k []).length : Int)))).map dInt), V "k" (.int (k : Nat)), V "fires" (dInts fs), V "near" (dNear near)]) (it_list (nk (.tail _ (.tail _ (.tail _ (.head _)))) (.tail _ (.head _)))) (by rw [List.take_zero, List.foldl_nil, List.map_set]; exact fun _ h => h) (fun m' j hj => ?_) ?_
          · generalize he : ((near.getD k []).take m').foldl bump (d.set k (d.getD k 0 - ((near.getD k []).length : Int))) = e
            have he4 : e.length = 4 := by rw [← he, foldl_bump_length, List.length_set, hd4]
            have hj4 : j < 4 := (near_small ok k).2 j (List.mem_of_getElem? hj)
            rw [take_fold _ _ _ _ _ hj, he]
            refine s_setitem (j := j) [V "k" (.int (k : Nat)), V "fires" (dInts fs), V "near" (dNear near)] (.tail _ (.head _)) (ev_add (ev_item (i := (j : Nat)) (ev_own (.tail _ (.head _))) (ev_name (.head _)) (by omega) (by rw [Int.toNat_natCast]; exact getD_map dInt e j 0 (by omega)) (by rw [List.length_map, he4]; decide)) ev_int) (ev_name (.head _)) (by rw [List.length_map]; omega) ?_ (by rw [List.length_map]; omega)
            rw [show (e.map dInt).set j (.int (e.getD j 0 + 1)) = (bump e j).map dInt by unfold bump; rw [List.map_set]; rfl]
            exact st_nil
          · rw [List.take_length]
            exact st_sub (by simp [fire1]) st_nil
        · rw [List.take_length]
          generalize hd : fs.foldl (fire1 near) c = d
          have hd4 : d.length = 4 := by rw [← hd, fires_length, hc4]
          refine s_compV [1, 2, 3] (fun (i : Nat) => D.int (i : Int)) int_inj (fun k => decide (((near.getD k []).length : Int) ≤ d.getD k 0)) (fun k => .int (k : Nat)) [O "chips" false (d.map dInt), V "near" (dNear near)] [O "chips" false (d.map dInt), V "near" (dNear near)]
            (it_tup (ev_tuple (evs_cons n_int (evs_cons n_int (evs_cons n_int evs_nil))) (by decide))) (fun k hk => ?_) (fun k hk _ => ev_name (.head _)) (st_sub (by simp [firesOf, dInts]) st_nil)
          have hk4 : k < 4 := by simp at hk; omega
          refine tst_one (evB_int (a := d.getD k 0) (b := ((near.getD k []).length : Nat)) (ev_item (i := (k : Nat)) (ev_own (.tail _ (.head _))) (ev_name (.head _)) (by omega) (by rw [Int.toNat_natCast]; exact getD_map dInt d k 0 (by omega)) (by rw [List.length_map, hd4]; decide)) (len rfl ?_ (by intro _; rfl)) rfl)
          exact ev_item (i := (k : Nat)) (Ev.evL (ev_name (.tail _ (.tail _ (.head _))))) (ev_name (.head _)) (by omega) (by rw [Int.toNat_natCast]; exact getD_map dInts near k [] (by rw [ok.four]; exact hk4)) (by rw [List.length_map, ok.four]; decide)
      · refine evB_eq ?_ (evB_eqLst (as := (turnsN near row N).2.map fun (i : Nat) => (i : Int)) (bs := []) (evL_eq ?_ (Ev.evL (ev_name (.tail _ (.head _))))) (EvF.evL (evF_list evs_nil (by decide))) (.inr ⟨rfl, rfl⟩))
        · rw [hE]; rfl
        · rw [List.map_map]; rfl
      · refine st_ret (ev_eq ?_ (EvF.ev (evF_slice (ev_own (.head _)) (evp_some (n_int (i := 1))) evp_none (by rw [List.length_map, turns_length, hrow]; decide))))
        rw [pickD_from, List.map_drop]
end
end
section
open PySem PySem.W PyProof.Rows PySem.Calls
set_option linter.unusedVariables false
set_option maxRecDepth 100000
section
variable {prog : Program} {w : World} {hb : Heap} {n : Nat} {mg mb : Str → Option Value}
noncomputable def endsOf (d : List Nat) (more : Bool) : List (Nat × Nat) :=
  let one := d.getD 4 0 % 4
  let e := [(1, 0), (2, d.getD 1 0 % 2), (3, d.getD 2 0 % 3), (0, 1 + d.getD 3 0 % 3)] ++ [(one, (one + 1 + d.getD 4 0 / 4 % 3) % 4)]
  if more then e ++ [(0, 1 + d.getD 5 0 % 3)] else e
noncomputable def tiesTo (d : List Nat) (ends : List (Nat × Nat)) : Nat → List (Nat × Nat)
  | 0 => []
  | k + 1 => (tiesTo d ends k).take (d.getD k 0 / 12 % (k + 1)) ++ [ends.getD k (0, 0)] ++ (tiesTo d ends k).drop (d.getD k 0 / 12 % (k + 1))
noncomputable def tiesOf (d : List Nat) (more : Bool) : List (Nat × Nat) := tiesTo d (endsOf d more) (endsOf d more).length
theorem tiesTo_length (d : List Nat) (ends : List (Nat × Nat)) (k : Nat) : (tiesTo d ends k).length = k := by
  induction k with
  | zero => rfl
  | succ k ih => simp only [tiesTo, List.length_append, List.length_take, List.length_drop, List.length_cons, List.length_nil, ih]; have := Nat.mod_lt (d.getD k 0 / 12) (show 0 < k + 1 by omega); omega
theorem endsOf_length (d : List Nat) (more : Bool) : (endsOf d more).length = if more then 6 else 5 := by unfold endsOf; cases more <;> rfl
theorem ct_ties (B : Base hb mg mb) (T : Blt mg mb) {nm : Str} {doc pm : Value} {ann : Option Addr} {cd ct : Value} (F : FnAt' hb 308 (fdSt (stN 21) (Str.ofString "_law_ties") nm doc pm ann cd ct))
    (d : List Nat) (more : Bool) (hd : d.length = 6) : Ct prog w hb 308 (n + 1) [dInts d, .bool more] (.lst ((tiesOf d more).map dTie)) := by
  have dr : ∀ {m} {sc : Scope} {ρ : Vars} {p pos : Pos} {e : Expr} {k : Nat}, (Str.ofString "drawn", Slot.val (dInts d)) ∈ ρ → Ev prog w hb m sc ρ e (.int (k : Nat)) → k < 6 → (∀ a t, subscripted e false (.ref a) (.int (k : Nat) t) = operate [.ref a, .int (k : Nat) t] (getItem (.ref a) (.int (k : Nat) t))) → Ev prog w hb m sc ρ (.Subscript (.Name (Str.ofString "drawn") p) e pos) (.int (d.getD k 0 : Nat)) := fun h x hk hs =>
    ev_item (Ev.evL (ev_name h)) x (by omega) (by rw [Int.toNat_natCast]; exact getD_map (fun (i : Nat) => D.int (i : Int)) d _ 0 (by omega)) (by rw [List.length_map, hd]; decide) hs
  refine ct_intro B F [Str.ofString "drawn", Str.ofString "more"] rfl (fun vals hv => ?_) rfl (by decide +kernel) (fun x hx => ?_) ?_
  · match vals, hv with | [a, b], _ => rfl
  · simp only [List.mem_cons, List.not_mem_nil, or_false] at hx
    rcases hx with rfl | rfl <;> (left; rfl)
  · show St _ _ _ _ _ _ [V "drawn" (dInts d), V "more" (.bool more)] _ _
    refine s_assign (d := .int (d.getD 4 0 % 4 : Nat)) [V "drawn" (dInts d), V "more" (.bool more)] (n_mod (dr (k := 4) (.head _) n_int (by decide) (by intro _ _; rfl)) n_int) ?_
    refine s_own (ds := ([(1, 0), (2, d.getD 1 0 % 2), (3, d.getD 2 0 % 3), (0, 1 + d.getD 3 0 % 3)] : List (Nat × Nat)).map dTie) [V "one" (.int (d.getD 4 0 % 4 : Nat)), V "drawn" (dInts d), V "more" (.bool more)]
      (evF_list (evs_cons (ev_tuple (evs_cons n_int (evs_cons n_int evs_nil)) (show 2 ≤ sizeLine by decide)) (evs_cons (ev_tuple (evs_cons n_int (evs_cons (n_mod (dr (k := 1) (.tail _ (.head _)) n_int (by decide) (by intro _ _; rfl)) n_int) evs_nil)) (show 2 ≤ sizeLine by decide))
        (evs_cons (ev_tuple (evs_cons n_int (evs_cons (n_mod (dr (k := 2) (.tail _ (.head _)) n_int (by decide) (by intro _ _; rfl)) n_int) evs_nil)) (show 2 ≤ sizeLine by decide))
        (evs_cons (ev_tuple (evs_cons n_int (evs_cons (n_add n_int (n_mod (dr (k := 3) (.tail _ (.head _)) n_int (by decide) (by intro _ _; rfl)) n_int)) evs_nil)) (show 2 ≤ sizeLine by decide)) evs_nil)))) (show 4 ≤ sizeLine by decide)) ?_
    have e5 : (endsOf d false) = [(1, 0), (2, d.getD 1 0 % 2), (3, d.getD 2 0 % 3), (0, 1 + d.getD 3 0 % 3)] ++ [(d.getD 4 0 % 4, (d.getD 4 0 % 4 + 1 + d.getD 4 0 / 4 % 3) % 4)] := rfl
    refine s_append (d := dTie (d.getD 4 0 % 4, (d.getD 4 0 % 4 + 1 + d.getD 4 0 / 4 % 3) % 4)) [V "one" (.int (d.getD 4 0 % 4 : Nat)), V "drawn" (dInts d), V "more" (.bool more)] (.head _)
      (ev_tuple (evs_cons (ev_name (.tail _ (.head _))) (evs_cons (n_mod (n_add (n_add (ev_name (.tail _ (.head _))) n_int) (n_mod (n_div (dr (k := 4) (.tail _ (.tail _ (.head _))) n_int (by decide) (by intro _ _; rfl)) n_int) n_int)) n_int) evs_nil)) (show 2 ≤ sizeLine by decide)) ?_ (by simp)
    refine st_if [O "ends" true ((endsOf d more).map dTie), V "drawn" (dInts d)] (c := more) (evB_truthBool (ev_name (.tail _ (.tail _ (.tail _ (.head _)))))) (fun hc => ?_) (fun hc => ?_) ?_
    · subst hc
      refine s_append (d := dTie (0, 1 + d.getD 5 0 % 3)) [V "drawn" (dInts d)] (.head _) (ev_tuple (evs_cons n_int (evs_cons (n_add n_int (n_mod (dr (k := 5) (.tail _ (.tail _ (.head _))) n_int (by decide) (by intro _ _; rfl)) n_int)) evs_nil)) (show 2 ≤ sizeLine by decide)) st_nil (by simp)
    · subst hc
      exact st_sub (by simp [endsOf]) st_nil
    · have el : (endsOf d more).length ≤ 6 := by rw [endsOf_length]; split <;> omega
      refine s_assign (d := .lst ((tiesTo d (endsOf d more) 0).map dTie)) [O "ends" true ((endsOf d more).map dTie), V "drawn" (dInts d)] (EvF.ev (evF_list evs_nil (show 0 ≤ sizeLine by decide))) ?_
      refine s_for (List.range (endsOf d more).length) (fun (i : Nat) => D.int (i : Int)) (fun k => [V "ties" (.lst ((tiesTo d (endsOf d more) k).map dTie)), O "ends" true ((endsOf d more).map dTie), V "drawn" (dInts d)])
        (it_rangeN (gl_blt B rfl T.ran.1 T.ran.2) (n_len (gl_blt B rfl T.len.1 T.len.2) (ev_own (.tail _ (.head _))) (by simp) (by simp; omega)) (by omega)) (fun _ h => h) (fun i k hk => ?_) ?_
      · have hk' : k = i ∧ i < (endsOf d more).length := by
          have := List.getElem?_eq_some_iff.mp hk
          obtain ⟨h1, h2⟩ := this
          simp at h1 h2
          exact ⟨h2.symm, h1⟩
        obtain ⟨rfl, hk⟩ := hk'
        have tl := tiesTo_length d (endsOf d more) k
        refine s_assign (d := .int (d.getD k 0 / 12 % (k + 1) : Nat)) [V "k" (.int (k : Nat)), V "ties" (.lst ((tiesTo d (endsOf d more) k).map dTie)), O "ends" true ((endsOf d more).map dTie), V "drawn" (dInts d)]
          (n_mod (n_div (dr (k := k) (.tail _ (.tail _ (.tail _ (.head _)))) (ev_name (.head _)) (by omega) (by intro _ _; rfl)) n_int) (n_add (ev_name (.head _)) n_int) (by omega)) ?_
        refine s_assign (d := .lst ((tiesTo d (endsOf d more) (k + 1)).map dTie)) [O "ends" true ((endsOf d more).map dTie), V "drawn" (dInts d)] (EvF.ev (evF_eq ?_ (evF_add (EvF.evL (evF_add (EvF.evL (evF_slice (Ev.evL (ev_name (.tail _ (.tail _ (.head _))))) evp_none (evp_some (ev_name (.head _))) ?_))
          (EvF.evL (evF_list (evs_cons (ev_item (ev_own (.tail _ (.tail _ (.tail _ (.head _))))) (ev_name (.tail _ (.head _))) (by omega) (by rw [Int.toNat_natCast]; exact getD_map dTie (endsOf d more) k (0, 0) hk) ?_) evs_nil) (show 1 ≤ sizeLine by decide))) ?_)) (EvF.evL (evF_slice (Ev.evL (ev_name (.tail _ (.tail _ (.head _))))) (evp_some (ev_name (.head _))) evp_none ?_)) ?_))) (st_nil)
        · rw [pickD_to, pickD_from, tiesTo]
          simp
        all_goals (simp only [List.length_map, tl, List.length_append, List.length_cons, List.length_nil, pickD_to, pickD_from, List.length_take, List.length_drop]; unfold sizeLine; omega)
      · rw [List.length_range]
        exact st_ret (ev_name (.head _))
end
end
section
open PySem PySem.W PyProof.Rows PySem.Calls
set_option linter.unusedVariables false
set_option maxRecDepth 100000
section
variable {prog : Program} {w : World} {hb : Heap} {n : Nat} {mg mb : Str → Option Value}
noncomputable def rep (c n : Nat) : Str := ⟨(List.replicate n c).toArray⟩
theorem mul_rep (c : Nat) (n : Int) : Txt.mul ⟨#[c]⟩ n = rep c n.toNat := by
  unfold Txt.mul rep
  by_cases h : n < 1
  · rw [if_pos h, show n.toNat = 0 by omega]; rfl
  · rw [if_neg h]
    by_cases h1 : n = 1
    · subst h1; rfl
    · rw [if_neg (by simp [h1, Str.length])]
      have : ∀ (k : Nat) (a : Array Nat), List.foldl (fun x1 x2 => x1 ++ x2) a (List.replicate k #[c]) = a ++ (List.replicate k c).toArray := by
        intro k
        induction k with
        | zero => intro a; simp
        | succ k ih => intro a; rw [List.replicate_succ, List.foldl_cons, ih, List.replicate_succ]; apply Array.ext'; simp
      rw [this]; simp
noncomputable def dPair (p : Str × Str) : D := .tup [.str p.1, .str p.2]
noncomputable def fixPair (p : Str × Str) : Str × Str := if Txt.contains p.2 (Str.ofString "[") = true then (Str.ofString "", Str.ofString "") else p
theorem dPair_inj (a b : Str × Str) (h : dPair a = dPair b) : a = b := by
  unfold dPair at h
  injection h with h
  injection h with h1 h2
  injection h1 with h1
  injection h2 with h2 _
  injection h2 with h2
  exact Prod.ext h1 h2
theorem ct_post (B : Base hb mg mb) {nm : Str} {doc pm : Value} {ann : Option Addr} {cd ct : Value} (F : FnAt' hb 87 (fdSt (stN 11) (Str.ofString "_post_parse_validation") nm doc pm ann cd ct))
    (ps : List (Str × Str)) (hps : ps.length ≤ 10000) : Ct prog w hb 87 (n + 1) [.lst (ps.map dPair)] (.lst ((ps.map fixPair).map dPair)) := by
  refine ct_intro B F [Str.ofString "parsed_email_header_tuples"] rfl (fun vals hv => ?_) rfl (by decide +kernel) (fun x hx => ?_) ?_
  · match vals, hv with | [a], _ => rfl
  · simp only [List.mem_cons, List.not_mem_nil, or_false] at hx
    subst hx; left; rfl
  · show St _ _ _ _ _ _ [V "parsed_email_header_tuples" (.lst (ps.map dPair))] _ _
    refine s_own (ds := (((ps.take 0).map fixPair).map dPair)) [V "parsed_email_header_tuples" (.lst (ps.map dPair))] (evF_list evs_nil (show 0 ≤ sizeLine by decide)) ?_
    refine s_for ps dPair (fun i => [O "accepted_values" true (((ps.take i).map fixPair).map dPair)]) (it_list (ev_name (.tail _ (.head _)))) (by simp) (fun i p hp => ?_) ?_
    · have hi : i < ps.length := (List.getElem?_eq_some_iff.mp hp).1
      refine st_if [V "v" (dPair (fixPair p)), O "accepted_values" true (((ps.take i).map fixPair).map dPair)] (c := Txt.contains p.2 (Str.ofString "[")) (evB_inStr ev_str (ev_itemT (i := 1) (ev_name (.head _)) ev_int (by decide) rfl (show 2 ≤ sizeLine by decide))) (fun hc => ?_) (fun hc => ?_) ?_
      · refine s_assign (d := dPair (fixPair p)) [O "accepted_values" true (((ps.take i).map fixPair).map dPair)] (ev_eq ?_ (ev_tuple (evs_cons ev_str (evs_cons ev_str evs_nil)) (show 2 ≤ sizeLine by decide))) st_nil
        unfold fixPair; rw [if_pos hc]; rfl
      · refine st_sub ?_ st_nil
        unfold fixPair; rw [if_neg (by rw [hc]; decide)]
        exact fun _ h => h
      · refine s_append (d := dPair (fixPair p)) [] (.tail _ (.head _)) (ev_name (.head _)) ?_ (by simp; omega)
        rw [List.take_add_one, hp]
        exact st_sub (by simp) st_nil
    · rw [List.take_length]
      exact st_retOwn (.head _)
end
end
section
open PySem PySem.W PyProof.Rows PySem.Calls
set_option linter.unusedVariables false
set_option maxRecDepth 100000
section
variable {prog : Program} {w : World} {hb : Heap} {n : Nat} {mg mb : Str → Option Value}
noncomputable def restsTo (number base : Nat) (k : Nat) : List Nat := (List.range k).map fun j => number / base ^ j % base
theorem restsTo_succ (number base k : Nat) : restsTo number base (k + 1) = restsTo number base k ++ [number / base ^ k % base] := by
  unfold restsTo; rw [List.range_succ, List.map_append]; rfl
theorem ct_rests (B : Base hb mg mb) (T : Blt mg mb) {nm : Str} {doc pm : Value} {ann : Option Addr} {cd ct : Value} (F : FnAt' hb 352 (fdSt (stN 29) (Str.ofString "_law_rests") nm doc pm ann cd ct)) {fd : FuncData} (Fd : FnAt' hb 80 fd) (gd : mg (Str.ofString "int_divmod") = some (.ref 80)) {m : Nat}
    (number base many : Nat) (hm : 2 ≤ many) (hm' : many ≤ 1000) (dm : ∀ a, a ≤ number → Ct prog w hb 80 m [.int (a : Nat), .int (base : Nat)] (.tup [.int (a / base : Nat), .int (a % base : Nat)])) :
    Ct prog w hb 352 (m + 1) [.int (number : Nat), .int (base : Nat), .int (many : Nat)] (dInts (restsTo number base (many - 2) ++ [number / base ^ (many - 2)])) := by
  refine ct_intro B F [Str.ofString "number", Str.ofString "base", Str.ofString "many"] rfl (fun vals hv => ?_) rfl (by decide +kernel) (fun x hx => ?_) ?_
  · match vals, hv with | [a, b, c], _ => rfl
  · simp only [List.mem_cons, List.not_mem_nil, or_false] at hx
    rcases hx with rfl | rfl | rfl <;> (left; rfl)
  · show St _ _ _ _ _ _ [V "number" (.int (number : Nat)), V "base" (.int (base : Nat)), V "many" (.int (many : Nat))] _ _
    refine s_own (ds := []) [V "number" (.int (number : Nat)), V "base" (.int (base : Nat)), V "many" (.int (many : Nat))] (evF_list evs_nil (by decide)) ?_
    refine s_for (List.range (many - 2)) (fun (i : Nat) => D.int (i : Int)) (fun i => [O "rests" true ((restsTo number base i).map fun (i : Nat) => D.int (i : Int)), V "number" (.int (number / base ^ i : Nat)), V "base" (.int (base : Nat))])
      (it_rangeN (gl_blt B rfl T.ran.1 T.ran.2) (n_sub (ev_name (.tail _ (.tail _ (.tail _ (.head _))))) n_int hm) (by omega)) (by simp [restsTo]) (fun i k hk => ?_) ?_
    · have hi : i < many - 2 := by have := (List.getElem?_eq_some_iff.mp hk).1; simpa using this
      refine st_unpack2 [O "rests" true ((restsTo number base i).map fun (i : Nat) => D.int (i : Int)), V "base" (.int (base : Nat))] [O "rests" true ((restsTo number base i).map fun (i : Nat) => D.int (i : Int)), V "number" (.int (number / base ^ i / base : Nat)), V "base" (.int (base : Nat))]
        (ev_call (gl_glob B rfl gd) Fd (evs_cons (ev_name (.tail _ (.tail _ (.head _)))) (evs_cons (ev_name (.tail _ (.tail _ (.tail _ (.head _))))) evs_nil)) (dm _ (Nat.div_le_self _ _)) (Nat.le_refl _)) ?_ (.inl rfl) (.inl rfl) (ne_of_all (by kernel_rfl) (by simp)) (ne_of_all (by kernel_rfl) (by simp))
      refine s_append (d := .int (number / base ^ i % base : Nat)) [V "number" (.int (number / base ^ i / base : Nat)), V "base" (.int (base : Nat))] (.tail _ (.head _)) (ev_name (.head _)) (st_sub ?_ st_nil) (by simp [restsTo]; omega)
      rw [restsTo_succ, Nat.pow_succ, ← Nat.div_div_eq_div_mul]
      simp
    · rw [List.length_range]
      refine st_ret (EvF.ev (evF_eq ?_ (evF_add (ev_own (.head _)) (EvF.evL (evF_list (evs_cons (ev_name (.tail _ (.head _))) evs_nil) (show 1 ≤ sizeLine by decide))) (by simp [restsTo]; unfold sizeLine; omega))))
      simp
end
end
section
open PySem PySem.W PyProof.Rows PySem.Calls
set_option linter.unusedVariables false
set_option maxRecDepth 100000
section
variable {prog : Program} {w : World} {hb : Heap} {n : Nat} {mg mb : Str → Option Value}
noncomputable def stopFrom (near : List (List Nat)) (row : List Nat) : Nat → Nat → Nat
  | 0, i => i
  | f + 1, i => if (turnsN near row i).2 = [] then i else stopFrom near row f (i + 1)
theorem stopFrom_ne (near : List (List Nat)) (row : List Nat) : ∀ (f i j : Nat), i ≤ j → j < stopFrom near row f i → (turnsN near row j).2 ≠ []
  | 0, i, j, h1, h2 => by unfold stopFrom at h2; omega
  | f + 1, i, j, h1, h2 => by
    unfold stopFrom at h2
    split at h2
    · omega
    · rename_i h
      by_cases e : j = i
      · subst e; exact h
      · exact stopFrom_ne near row f (i + 1) j (by omega) h2
noncomputable def stopN (near : List (List Nat)) (row : List Nat) : Nat := stopFrom near row 60 0
noncomputable def againOf (near : List (List Nat)) (row : List Nat) : List Int := (turnsN near row (stopN near row)).1.drop 1
noncomputable def astrayOf (near : List (List Nat)) (row : List Nat) : Nat := ((List.range 3).filter fun p => decide ((againOf near row).getD p 0 ≠ ((row.getD p 0 : Nat) : Int))).length
noncomputable def deg (near : List (List Nat)) (k : Nat) : Nat := (near.getD k []).length
noncomputable def mkPair (lev : Int) (m : Nat) : Str × Str := (rep 32 lev.toNat ++ Str.ofString "\t", rep 91 m)
noncomputable def sandPair (near : List (List Nat)) (many : Nat) (row : List Nat) : Str × Str := mkPair (((row.getD 0 0 + row.getD 1 0 + row.getD 2 0 + deg near 0 : Nat) : Int) - many) (astrayOf near row)
noncomputable def sandK (near : List (List Nat)) (many i j c : Nat) : List (Str × Str) := (List.range c).map fun k => sandPair near many [i, j, k]
noncomputable def sandJ (near : List (List Nat)) (many i c : Nat) : List (Str × Str) := (List.range c).flatMap fun j => sandK near many i j (deg near 3)
noncomputable def sandI (near : List (List Nat)) (many c : Nat) : List (Str × Str) := (List.range c).flatMap fun i => sandJ near many i (deg near 2)
noncomputable def sandOf (near : List (List Nat)) (many : Nat) : List (Str × Str) := sandI near many (deg near 1)
theorem sandI_succ (near : List (List Nat)) (many c : Nat) : sandI near many (c + 1) = sandI near many c ++ sandJ near many c (deg near 2) := by unfold sandI; rw [List.range_succ, List.flatMap_append]; simp
theorem sandJ_succ (near : List (List Nat)) (many i c : Nat) : sandJ near many i (c + 1) = sandJ near many i c ++ sandK near many i c (deg near 3) := by unfold sandJ; rw [List.range_succ, List.flatMap_append]; simp
theorem sandK_succ (near : List (List Nat)) (many i j c : Nat) : sandK near many i j (c + 1) = sandK near many i j c ++ [sandPair near many [i, j, c]] := by unfold sandK; rw [List.range_succ, List.map_append]; rfl
theorem mulOk_small (c : Nat) (n : Int) (h : n ≤ 100000) (h' : -100000 ≤ n) : MulOk ⟨#[c]⟩ n := by
  refine ⟨by rw [Bool.or_eq_false_iff]; exact ⟨decide_eq_false (by omega), decide_eq_false (by omega)⟩, fun h1 h2 => ?_, fun h1 h2 => ?_⟩
  · have : (1 : Int) ≤ (2 ^ 63 - 1) / n := by
      rw [Int.le_ediv_iff_mul_le (by omega)]; omega
    exact Int.not_lt.mpr this
  · show decide (1 * n.toNat > sizeLine) = false
    refine decide_eq_false ?_
    unfold sizeLine; omega
theorem range_get {c i k : Nat} (h : (List.range c)[i]? = some k) : k = i ∧ i < c := by
  obtain ⟨h1, h2⟩ := List.getElem?_eq_some_iff.mp h
  simp at h1 h2
  exact ⟨h2.symm, h1⟩
theorem rep_length (c n : Nat) : (rep c n).length = n := by simp [rep, Str.length]
theorem sandK_length (near : List (List Nat)) (many i j c : Nat) : (sandK near many i j c).length = c := by simp [sandK]
theorem sandJ_length (near : List (List Nat)) (many i c : Nat) : (sandJ near many i c).length = c * deg near 3 := by
  induction c with
  | zero => simp [sandJ]
  | succ c ih => rw [sandJ_succ, List.length_append, ih, sandK_length, Nat.succ_mul]
theorem sandI_length (near : List (List Nat)) (many c : Nat) : (sandI near many c).length = c * (deg near 2 * deg near 3) := by
  induction c with
  | zero => simp [sandI]
  | succ c ih => rw [sandI_succ, List.length_append, ih, sandJ_length, Nat.succ_mul]
theorem ct_sand (B : Base hb mg mb) (T : Blt mg mb) {nm : Str} {doc pm : Value} {ann : Option Addr} {cd ct : Value} (F : FnAt' hb 328 (fdSt (stN 25) (Str.ofString "_law_sand") nm doc pm ann cd ct)) {fa fl : FuncData} (Fa : FnAt' hb 318 fa) (ga : mg (Str.ofString "_law_again") = some (.ref 318))
    (Fl : FnAt' hb 323 fl) (gl : mg (Str.ofString "_law_lead") = some (.ref 323)) {m : Nat} (near : List (List Nat)) (many : Nat) (ok : NearOk near) (hdeg : ∀ k, deg near k ≤ 10) (hmany : many ≤ 1000) (d : D)
    (again : ∀ i j k, i < deg near 1 → j < deg near 2 → k < deg near 3 → Ct prog w hb 318 m [dNear near, dInts [i, j, k]] (.lst ((againOf near [i, j, k]).map dInt)) ∧ (againOf near [i, j, k]).length = 3)
    (lead : Ct prog w hb 323 m [.lst ((sandOf near many).map dPair)] d) :
    Ct prog w hb 328 (m + 1) [dNear near, .int (many : Nat)] d := by
  have nlen : ∀ {m} {sc : Scope} {ρ : Vars} {q q' p pos pos' : Pos} {k kk : Nat}, k < 4 → sc.names.lookup (Str.ofString "len") = some .globalImplicit → (Str.ofString "near", Slot.val (dNear near)) ∈ ρ → (∀ a t, subscripted (.Constant (.int (k : Nat)) kk q') false (.ref a) (.int (k : Nat) t) = operate [.ref a, .int (k : Nat) t] (getItem (.ref a) (.int (k : Nat) t))) →
      (∀ env, starEach [.Subscript (.Name (Str.ofString "near") q) (.Constant (.int (k : Nat)) kk q') pos'] env = [(false, eval (.Subscript (.Name (Str.ofString "near") q) (.Constant (.int (k : Nat)) kk q') pos') env)]) →
      Ev prog w hb m sc ρ (.Call (.Name (Str.ofString "len") p) [.Subscript (.Name (Str.ofString "near") q) (.Constant (.int (k : Nat)) kk q') pos'] [] pos) (.int (deg near k : Nat)) := fun {m sc ρ q q' p pos pos' k kk} hk h x hs hs' =>
    n_len (gl_blt B h T.len.1 T.len.2) (Ev.evL (ev_item (i := (k : Nat)) (Ev.evL (ev_name x)) n_int (by omega) (by rw [Int.toNat_natCast]; exact getD_map dInts near k [] (by rw [ok.four]; exact hk)) (by rw [List.length_map, ok.four]; decide) hs)) (by rw [List.length_map]; rfl) (by rw [List.length_map]; exact Nat.le_trans (hdeg k) (by decide)) hs' (by intro _; rfl)
  refine ct_intro B F [Str.ofString "near", Str.ofString "many"] rfl (fun vals hv => ?_) rfl (by decide +kernel) (fun x hx => ?_) ?_
  · match vals, hv with | [a, b], _ => rfl
  · simp only [List.mem_cons, List.not_mem_nil, or_false] at hx
    rcases hx with rfl | rfl <;> (left; rfl)
  · show St _ _ _ _ _ _ [V "near" (dNear near), V "many" (.int (many : Nat))] _ _
    refine s_own (ds := (sandI near many 0).map dPair) [V "near" (dNear near), V "many" (.int (many : Nat))] (evF_list evs_nil (show 0 ≤ sizeLine by decide)) ?_
    refine s_for (List.range (deg near 1)) (fun (i : Nat) => D.int (i : Int)) (fun i => [O "pairs" true ((sandI near many i).map dPair), V "near" (dNear near), V "many" (.int (many : Nat))])
      (it_rangeN (gl_blt B rfl T.ran.1 T.ran.2) (nlen (by decide) rfl (.tail _ (.head _)) (by intro _ _; rfl) (by intro _; rfl)) (Nat.le_trans (hdeg 1) (by decide))) (fun _ h => h) (fun i0 i hi => ?_) ?_
    · obtain ⟨rfl, hi⟩ := range_get hi
      refine s_for (List.range (deg near 2)) (fun (i : Nat) => D.int (i : Int)) (fun j => [O "pairs" true ((sandI near many i ++ sandJ near many i j).map dPair), V "near" (dNear near), V "many" (.int (many : Nat)), V "i" (.int (i : Nat))])
        (it_rangeN (gl_blt B rfl T.ran.1 T.ran.2) (nlen (by decide) rfl (.tail _ (.tail _ (.head _))) (by intro _ _; rfl) (by intro _; rfl)) (Nat.le_trans (hdeg 2) (by decide))) (by simp [sandJ]) (fun j0 j hj => ?_) ?_
      · obtain ⟨rfl, hj⟩ := range_get hj
        refine s_for (List.range (deg near 3)) (fun (i : Nat) => D.int (i : Int)) (fun k => [O "pairs" true ((sandI near many i ++ sandJ near many i j ++ sandK near many i j k).map dPair), V "near" (dNear near), V "many" (.int (many : Nat)), V "i" (.int (i : Nat)), V "j" (.int (j : Nat))])
          (it_rangeN (gl_blt B rfl T.ran.1 T.ran.2) (nlen (by decide) rfl (.tail _ (.tail _ (.head _))) (by intro _ _; rfl) (by intro _; rfl)) (Nat.le_trans (hdeg 3) (by decide))) (by simp [sandK]) (fun k0 k hk => ?_) ?_
        · obtain ⟨rfl, hk⟩ := range_get hk
          generalize hP : sandI near many i ++ sandJ near many i j ++ sandK near many i j k = P
          have hag := again i j k hi hj hk
          refine s_assign (d := dInts [i, j, k]) [O "pairs" true (P.map dPair), V "near" (dNear near), V "many" (.int (many : Nat)), V "i" (.int (i : Nat)), V "j" (.int (j : Nat)), V "k" (.int (k : Nat))]
            (EvF.ev (evF_list (evs_cons (ev_name (.tail _ (.tail _ (.tail _ (.tail _ (.head _)))))) (evs_cons (ev_name (.tail _ (.tail _ (.tail _ (.tail _ (.tail _ (.head _))))))) (evs_cons (ev_name (.head _)) evs_nil))) (show 3 ≤ sizeLine by decide))) ?_
          refine s_assign (d := .lst ((againOf near [i, j, k]).map dInt)) [V "row" (dInts [i, j, k]), O "pairs" true (P.map dPair), V "near" (dNear near), V "many" (.int (many : Nat)), V "i" (.int (i : Nat)), V "j" (.int (j : Nat)), V "k" (.int (k : Nat))]
            (ev_call (gl_glob B rfl ga) Fa (evs_cons (ev_name (.tail _ (.tail _ (.head _)))) (evs_cons (ev_name (.head _)) evs_nil)) hag.1 (Nat.le_refl _)) ?_
          refine s_compV (List.range 3) (fun (i : Nat) => D.int (i : Int)) int_inj (fun p => decide ((againOf near [i, j, k]).getD p 0 ≠ (([i, j, k].getD p 0 : Nat) : Int))) (fun p => .int (p : Nat)) [V "back" (.lst ((againOf near [i, j, k]).map dInt)), V "row" (dInts [i, j, k])]
            [O "pairs" true (P.map dPair), V "near" (dNear near), V "many" (.int (many : Nat)), V "i" (.int (i : Nat)), V "j" (.int (j : Nat)), V "k" (.int (k : Nat))] (it_rangeN (gl_blt B rfl T.ran.1 T.ran.2) n_int (by decide)) (fun p hp => ?_) (fun p hp _ => ev_name (.head _)) ?_
          · have hp3 : p < 3 := List.mem_range.mp hp
            refine tst_one (evB_int (ev_item (i := (p : Nat)) (d := .int ((againOf near [i, j, k]).getD p 0)) (Ev.evL (ev_name (.tail _ (.head _)))) (ev_name (.head _)) (by omega) (by rw [Int.toNat_natCast]; exact getD_map dInt _ p 0 (by rw [hag.2]; exact hp3)) (by rw [List.length_map, hag.2]; decide))
              (ev_item (i := (p : Nat)) (d := .int (([i, j, k].getD p 0 : Nat) : Int)) (Ev.evL (ev_name (.tail _ (.tail _ (.head _))))) (ev_name (.head _)) (by omega) (by rw [Int.toNat_natCast]; exact getD_map (fun (i : Nat) => D.int (i : Int)) [i, j, k] p 0 hp3) (show 3 ≤ sizeLine by decide)) ?_)
            show some _ = some _
            congr 1
            rw [Bool.eq_iff_iff]; simp
          · have ha : astrayOf near [i, j, k] ≤ 3 := Nat.le_trans (List.length_filter_le _ _) (by simp)
            refine s_append (d := dPair (sandPair near many [i, j, k])) [V "near" (dNear near), V "many" (.int (many : Nat)), V "i" (.int (i : Nat)), V "j" (.int (j : Nat))] (.tail _ (.head _))
              (ev_tuple (evs_cons (ev_cat (ev_eq (congrArg D.str (mul_rep 32 _)) (ev_reps (a := ⟨#[32]⟩) (ev_eq (congrArg D.str (by decide +kernel)) ev_str) (ev_sub (n_add (n_add (n_add (ev_name (.tail _ (.tail _ (.tail _ (.tail _ (.head _)))))) (ev_name (.tail _ (.tail _ (.tail _ (.tail _ (.tail _ (.head _)))))))) (ev_name (.tail _ (.tail _ (.tail _ (.tail _ (.tail _ (.tail _ (.head _)))))))))
                (nlen (by decide) rfl (.tail _ (.tail _ (.head _))) (by intro _ _; rfl) (by intro _; rfl))) (ev_name (.tail _ (.tail _ (.tail _ (.head _)))))) (mulOk_small 32 _ ?_ ?_))) ev_str ?_)
              (evs_cons (ev_eq (congrArg D.str (mul_rep 91 _)) (ev_reps (a := ⟨#[91]⟩) (ev_eq (congrArg D.str (by decide +kernel)) ev_str) (n_len (k := astrayOf near [i, j, k]) (gl_blt B rfl T.len.1 T.len.2) (Ev.evL (ev_name (.head _))) (by rw [List.length_map]; rfl) (by rw [List.length_map]; exact Nat.le_trans ha (by decide))) (mulOk_small 91 _ (by omega) (by omega)))) evs_nil)) (show 2 ≤ sizeLine by decide)) ?_ ?_
            · have g0 : [i, j, k].getD 0 0 = i := rfl; have g1 : [i, j, k].getD 1 0 = j := rfl; have g2 : [i, j, k].getD 2 0 = k := rfl; have := hdeg 0; have := hdeg 1; have := hdeg 2; have := hdeg 3; omega
            · have g0 : [i, j, k].getD 0 0 = i := rfl; have g1 : [i, j, k].getD 1 0 = j := rfl; have g2 : [i, j, k].getD 2 0 = k := rfl; have := hdeg 0; have := hdeg 1; have := hdeg 2; have := hdeg 3; omega
            · rw [rep_length, show (Str.ofString "\t").length = 1 by decide +kernel]
              have g0 : [i, j, k].getD 0 0 = i := rfl; have g1 : [i, j, k].getD 1 0 = j := rfl; have g2 : [i, j, k].getD 2 0 = k := rfl
              have := hdeg 0; have := hdeg 1; have := hdeg 2; have := hdeg 3; unfold sizeLine; omega
            · refine st_sub ?_ st_nil
              rw [sandK_succ, ← hP]
              simp
            · rw [List.length_map, ← hP, List.length_append, List.length_append, sandI_length, sandJ_length, sandK_length]
              have h3 := hdeg 3
              have e1 : i * (deg near 2 * deg near 3) ≤ 10 * (10 * 10) := Nat.mul_le_mul (by have := hdeg 1; omega) (Nat.mul_le_mul (hdeg 2) h3)
              have e2 : j * deg near 3 ≤ 10 * 10 := Nat.mul_le_mul (by have := hdeg 2; omega) h3
              omega
        · rw [List.length_range]
          refine st_sub ?_ st_nil
          rw [sandJ_succ]
          simp
      · rw [List.length_range]
        refine st_sub ?_ st_nil
        rw [sandI_succ]
        simp
    · rw [List.length_range]
      refine st_thaw [] (.head _) (by simp) ?_
      exact st_ret (ev_call (gl_glob B rfl gl) Fl (evs_cons (ev_name (.head _)) evs_nil) lead (Nat.le_refl _))
end
end
section
open PySem PySem.W PyProof.Rows PySem.Calls
set_option linter.unusedVariables false
section
variable {M : Model} {A : Around} {E : Value → Shared → Prop} {s : Shared} {env : Env} {prog : Program} {w : World}
theorem Subscript_SliceT {value : Expr} {lower upper : Option Expr} {p pos : Pos} {T id : String} {Q : Value → Shared → Prop}
    (hl : typeLookup (.type T) "__getitem__" = pure (some (.builtin id)))
    (h : wpAny (model prog w) A (eval value env) (fun o s₁ => wpAny (model prog w) A (eval (.Slice lower upper none p) env) (fun i s₂ => s₂.TypeIs o T ∧ wpAny (model prog w) A (getItem o i) Q E s₂) E s₁) E s) :
    wpAny (model prog w) A (eval (.Subscript value (.Slice lower upper none p) pos) env) Q E s := by
  rw [eval_Subscript]
  refine wpAny_bind (wpAny_mono h (fun o s₁ h₁ => wpAny_bind (wpAny_holding (wpAny_mono h₁ (fun i s₂ h₂ => wpAny_bind (wpAny_standAt ?_)) fun _ _ x => x)))
    fun _ _ x => x)
  have fin : wpAny (model prog w) A (operate [i, o] (getItem o i)) (fun r s₃ => wpAny (model prog w) A (letTemporaryGo value o r >>= fun _ => pure r) Q E s₃) E s₂ :=
    wpAny_operating (wpAny_mono h₂.2 (fun r s₃ h₃ => wpAny_bind (wpAny_letTemporaryGo (wpAny_pure h₃))) fun _ _ x => x)
  refine wpAny_bind ?_
  rw [getitemInPython_of_ne h₂.1.not_modules]
  refine wpAny_bind (wpAny_specialOf h₂.1 hl ?_)
  first
    | exact wpAny_pure (wpAny_bind fin)
    | exact wpAny_bind (wpAny_pure (wpAny_bind fin))
    | exact wpAny_bind fin
end
section
variable {prog : Program} {w : World} {hb : Heap} {t : Bool} {n : Nat} {sc : Scope} {ρ ρ' : Vars} {R : Out} {rest : List Stmt} {mg mb : Str → Option Value}
theorem evF_sliceT {value : Expr} {lo hi : Option Expr} {p pos : Pos} {ds : List D} {i j : Option Int} (x : EvL prog w hb n sc ρ value ds) (y : EvP prog w hb n sc ρ lo i) (z : EvP prog w hb n sc ρ hi j) (hz : ds.length ≤ sizeLine) :
    EvF prog w hb n sc ρ (.Subscript value (.Slice lo hi none p) pos) (pickD ds i j) := fun A env Z s Q E hA he rl k => by
  refine Subscript_SliceT (T := "list") list_getitem_lookup ?_
  refine x A env Z s _ E hA he rl fun a items s₁ hl hr k₁ => wpAny_Slice ?_
  refine y A env Z s₁ _ E hA he (rl.ext k₁.ext) fun vl s₂ pl k₂ => ?_
  refine z A env Z s₂ _ E hA he ((rl.ext k₁.ext).ext k₂.ext) fun vu s₃ pu k₃ => wpAny_evalPart_none ?_
  have hl₃ : s₃.heap.IsList a items := IsList.off (IsList.off hl fun o => k₂.ext.keep _ o) fun o => k₃.ext.keep _ o
  have hr₃ := (hr.ext k₂.ext).ext k₃.ext
  have hl₄ := hl₃.push { cls := .type "slice", data := .fields #[vl, vu, .none] }
  have hsz : items.size = ds.length := by have := hr.length; simpa using this
  refine ⟨Heap.IsList.typeIs (s := { s₃ with heap := s₃.heap.push { cls := .type "slice", data := .fields #[vl, vu, .none] } }) hl₄, ?_⟩
  have e₄ : Ext hb s₃.heap (s₃.heap.push { cls := .type "slice", data := .fields #[vl, vu, .none] }) := Ext.push _
  refine wpAny_getItem_list_slice (st := none) hl₄ (Heap.IsSliceOf.new ..) pl pu .none (by simp) ?_ (by rw [hsz]; exact hz)
  dsimp only
  generalize hH : s₃.heap.push { cls := .type "slice", data := .fields #[vl, vu, .none] } = H at *
  have e₅ : Ext hb H (H.push { cls := .type "list", data := .seq (slicePick items i j none) }) := Ext.push _
  have fr : H.get? H.objs.size = none := Heap.get?_none_of_le (Nat.le_refl _)
  have ex := (k₁.trans k₂).trans k₃
  refine k _ _ _ (ex.ext.none (e₄.none fr)) ⟨0, Heap.get?_push_size _ rfl⟩ ?_ (ex.trans (.of (e₄.trans e₅)))
  have hr₄ := hr₃.ext e₄
  rw [kms_pick_eq] at e₅ ⊢
  have : Reps H Z (pickD ds i j) (kms_pick items.toList i j) := by
    unfold pickD kms_pick
    rw [show items.toList.length = ds.length by simpa using hsz]
    exact (hr₄.drop _).take _
  simpa using (this.more (W := [H.objs.size]) fun b m => by simp at m; subst m; exact fr).ext e₅
/-- `x.count(e)`, x a list of ints of mine -/
theorem ev_count {x : Str} {px apos pos : Pos} {e : Expr} {ns : List Int} {k : Int} (hx : (x, Slot.own true (ns.map D.int)) ∈ ρ) (ev : Ev prog w hb n sc ρ e (.int k)) (hok : okName x = true := by decide)
    (hs : ∀ env, starEach [e] env = [(false, eval e env)] := by intro _; rfl)
    (hE : ∀ env, ∃ pl, eval (.Call (.Attribute (.Name x px) (Str.ofString "count") apos) [e] [] pos) env = (do
      let ov ← eval (.Name x px) env
      standAt apos.atName
      let (f, first) ← holding [ov] (getMethod ov (Str.ofString "count") pl)
      callWith pos f first (backTo pos (starEach [e] env)) []) := by intro _; exact ⟨_, rfl⟩) :
    Ev prog w hb n sc ρ (.Call (.Attribute (.Name x px) (Str.ofString "count") apos) [e] [] pos) (.int (ns.count k : Nat)) := fun A env Z s Q E hA he rl kk => by
  obtain ⟨pl, hE⟩ := hE env
  refine MethodCall_ (pl := pl) ?_ hE
  obtain ⟨a, items, v, l, r⟩ := rl.own x true _ hx
  simp only [okName, Bool.and_eq_true, Bool.not_eq_true'] at hok
  refine wpAny_Name (ld_var rl.kind v hok.1 ?_) hok.2
  obtain ⟨m, hm⟩ := l.2 rfl
  refine getMethod_list_of PySem.F.slot_list_count PySem.F.type_list_count l.1 ?_ ?_
  · exact ⟨_, hm, rfl⟩
  · refine callWith_method1 ?_ (by rw [hs]; rfl)
    rw [hs]
    refine spliced_cons (ev A env Z s _ E hA he rl fun u s₁ hu k₁ => spliced_nil ?_)
    obtain ⟨t, rfl⟩ := rep_int hu
    have hl : s₁.heap.IsList a items.toList.toArray := by simpa using IsList.off l.1 fun o => k₁.ext.keep _ o
    exact count_list_ints hl (ints_of (r.ext k₁.ext)) (kk _ _ (rep_of_int _ _ _ _) (k₁.trans (.tok _ _ _)))
/-- `list(e)`, e a tuple -/
theorem evF_listT {e : Expr} {p pos : Pos} {ds : List D} (hg : Gl prog w hb n sc ρ "list" (.type "list")) (x : Ev prog w hb n sc ρ e (.tup ds)) (hz : ds.length ≤ sizeLine) (hs : ∀ env, starEach [e] env = [(false, eval e env)] := by intro _; rfl) :
    EvF prog w hb n sc ρ (.Call (.Name "list" p) [e] [] pos) ds := fun A env Z s Q E hA he rl k => by
  refine Call_ (hg p A env Z s _ E hA he rl ?_)
  refine PyProof.Rows.callWith_type1 ?_ (by rw [hs]; rfl)
  rw [hs]
  refine spliced_cons (x A env Z s _ E hA he rl fun u s₁ hu k₁ => spliced_nil ?_)
  rw [Rep] at hu
  obtain ⟨a, items, rfl, _, hl, hr⟩ := hu
  obtain ⟨o, ho, hc, m, hd⟩ := hl
  have hsz : items.size = ds.length := by have := hr.length; simpa using this
  refine call_list_seq a (.inr rfl) ho hc hd (fun h' c' hk hq => ?_) (by rw [hsz]; exact hz)
  have ex : Ext hb s₁.heap h' := Ext.full hk
  have fr : s₁.heap.get? s₁.heap.objs.size = none := Heap.get?_none_of_le (Nat.le_refl _)
  exact k _ items _ (k₁.ext.none fr) ⟨c', hq⟩ ((hr.more (W := [s₁.heap.objs.size]) fun b m => by simp at m; subst m; exact fr).ext ex) (k₁.trans (.of ex))
end
end
section
open PySem PySem.W PyProof.Rows PySem.Calls
set_option linter.unusedVariables false
set_option maxRecDepth 100000
section
variable {prog : Program} {w : World} {hb : Heap} {n : Nat} {mg mb : Str → Option Value}
noncomputable def drawsOf (sc : List Int) : List Nat := (sc.take 6).map fun x => (x.fmod 5040).toNat
noncomputable def drawnOf (sc : List Int) : List Nat := drawsOf sc ++ [0, 0, 0, 2, 1, 2].drop (drawsOf sc).length
noncomputable def setsOf (ts : List (Nat × Nat)) : List Nat := (List.range (1 * 2 ^ ts.length)).filter fun one => decide (2 < ones one)
noncomputable def lackOf (ts : List (Nat × Nat)) (one : Nat) : Nat := ((cuts ts).filter fun c => decide (one &&& c = 0)).length
noncomputable def lacksOf (ts : List (Nat × Nat)) : List Nat := (setsOf ts).map (lackOf ts)
noncomputable def atN (l : List Nat) (k : Nat) : Nat := l.getD k 0
noncomputable def joinsOf (ts : List (Nat × Nat)) : List Nat := ((List.range (setsOf ts).length).filter fun k => decide (atN (lacksOf ts) k = 0)).map fun k => ones (atN (setsOf ts) k)
noncomputable def threesOf (ts : List (Nat × Nat)) : List Nat := (List.range (setsOf ts).length).filter fun k => decide (ones (atN (setsOf ts) k) = 3)
noncomputable def treesOf (ts : List (Nat × Nat)) : List Nat := ((threesOf ts).filter fun k => decide (atN (lacksOf ts) k = 0)).map (atN (setsOf ts))
noncomputable def firstsOf (ts : List (Nat × Nat)) : List Nat := (threesOf ts).map fun k => if decide (atN (lacksOf ts) k = 0) = true then outTo (atN (setsOf ts) k) (treesOf ts) ts.length else 0
noncomputable def pairsOf (ts : List (Nat × Nat)) : List (Str × Str) := (List.range (threesOf ts).length).map fun j => mkPair ((atN (firstsOf ts) j : Nat) : Int) (atN (lacksOf ts) (atN (threesOf ts) j))
theorem drawnOf_length (sc : List Int) : (drawnOf sc).length = 6 := by
  have : (drawsOf sc).length ≤ 6 := by simp [drawsOf]; omega
  simp [drawnOf]; omega
theorem ev_atN {prog : Program} {w : World} {hb : Heap} {m : Nat} {sc : Scope} {ρ : Vars} {p pos : Pos} {x : Str} {e : Expr} {L : List Nat} {k : Nat} (h : (x, Slot.val (dInts L)) ∈ ρ) (y : Ev prog w hb m sc ρ e (.int (k : Nat))) (hk : k < L.length) (hL : L.length ≤ 1000) (hok : okName x = true := by decide)
    (hs : ∀ a t, subscripted e false (.ref a) (.int (k : Nat) t) = operate [.ref a, .int (k : Nat) t] (getItem (.ref a) (.int (k : Nat) t)) := by intro _ _; rfl) : Ev prog w hb m sc ρ (.Subscript (.Name x p) e pos) (.int (atN L k : Nat)) :=
  ev_item (i := (k : Nat)) (Ev.evL (ev_name h hok)) y (by omega) (by rw [Int.toNat_natCast]; exact getD_map (fun (i : Nat) => D.int (i : Int)) L k 0 hk) (by rw [List.length_map]; unfold sizeLine; omega) hs
theorem count_cast (l : List Nat) (a : Nat) : (l.map fun (i : Nat) => (i : Int)).count (a : Int) = l.count a := by
  induction l with
  | nil => rfl
  | cons b l ih =>
    rw [List.map_cons, List.count_cons, List.count_cons, ih]
    congr 1
    have : ((b : Int) == (a : Int)) = (b == a) := by rw [Bool.eq_iff_iff, beq_iff_eq, beq_iff_eq]; omega
    rw [this]
theorem filter_true {α : Type} (l : List α) : l.filter (fun _ => true) = l := List.filter_eq_self.mpr fun _ _ => rfl
theorem int_injI (a b : Int) (h : D.int a = D.int b) : a = b := by injection h
/-- what the walk of the law leans on -/
structure Deps (prog : Program) (w : World) (hb : Heap) (mg mb : Str → Option Value) (m : Nat) (ts : List (Nat × Nat)) (near : List (List Nat)) (dS dN : D) (cs : List Nat) (drawn : List Nat) (more : Bool) (width number : Nat) (rests : List Nat) : Prop where
  c_ties : mg (Str.ofString "_law_ties") = some (.ref 308) ∧ (∃ fd, FnAt' hb 308 fd) ∧ Ct prog w hb 308 m [dInts drawn, .bool more] (.lst (ts.map dTie))
  c_cuts : mg (Str.ofString "_law_cuts") = some (.ref 333) ∧ (∃ fd, FnAt' hb 333 fd) ∧ Ct prog w hb 333 m [.lst (ts.map dTie)] (dInts (cuts ts))
  c_ones : mg (Str.ofString "_law_ones") = some (.ref 345) ∧ (∃ fd, FnAt' hb 345 fd) ∧ ∀ k : Nat, Ct prog w hb 345 m [.int k] (.int (ones k))
  c_outer : mg (Str.ofString "_law_outer") = some (.ref 338) ∧ (∃ fd, FnAt' hb 338 fd) ∧ ∀ tree trees many : _, many ≤ 100 → Ct prog w hb 338 m [.int (tree : Nat), dInts trees, .int (many : Nat)] (.int (outTo tree trees many : Nat))
  c_near : mg (Str.ofString "_law_near") = some (.ref 313) ∧ (∃ fd, FnAt' hb 313 fd) ∧ Ct prog w hb 313 m [.lst (ts.map dTie)] (dNear near)
  c_sand : mg (Str.ofString "_law_sand") = some (.ref 328) ∧ (∃ fd, FnAt' hb 328 fd) ∧ Ct prog w hb 328 m [dNear near, .int (ts.length : Nat)] (.ws dN)
  c_lead : mg (Str.ofString "_law_lead") = some (.ref 323) ∧ (∃ fd, FnAt' hb 323 fd) ∧ Ct prog w hb 323 m [.lst ((pairsOf ts).map dPair)] (.ws dN)
  c_digits : mg (Str.ofString "_digits2int") = some (.ref 66) ∧ (∃ fd, FnAt' hb 66 fd) ∧ Ct prog w hb 66 m [dInts cs, .int (width : Nat)] (.int (number : Nat))
  c_rests : mg (Str.ofString "_law_rests") = some (.ref 352) ∧ (∃ fd, FnAt' hb 352 fd) ∧ Ct prog w hb 352 m [.int (number : Nat), .int (2 ^ width - 1 : Nat), .int (ts.length : Nat)] (dInts rests)
  c_norm : dN = .tup [.tup (cs.map fun (i : Nat) => D.int (i : Int)), dS]
  c_list : mg "list" = none ∧ mb "list" = some (.type "list")
  c_attr : ∀ (sc : Scope) (ρ : Vars) (x : Str) (px p : Pos), (x, Slot.val (.ws dN)) ∈ ρ → okName x = true → Ev prog w hb m sc ρ (.Attribute (.Name x px) (Str.ofString "norm") p) dN
  c_equal : ∀ (sc : Scope) (ρ : Vars) (x : Str) (px ap pos cp kp : Pos) (e : Expr) (kk : Nat), (x, Slot.val (.ws dN)) ∈ ρ → okName x = true → Ev prog w hb m sc ρ e (.ws dN) → (∀ env, starEach [e] env = [(false, eval e env)]) → (∀ env, ∃ pl, eval (.Call (.Attribute (.Name x px) (Str.ofString "equal") ap) [e] [] pos) env = (do
      let ov ← eval (.Name x px) env
      standAt ap.atName
      let (f, first) ← holding [ov] (getMethod ov (Str.ofString "equal") pl)
      callWith pos f first (backTo pos (starEach [e] env)) [])) →
    EvB prog w hb m sc ρ (.Compare (.Call (.Attribute (.Name x px) (Str.ofString "equal") ap) [e] [] pos) [.IsNot] [.Constant (.bool true) kk kp] cp) false
theorem ct_law (B : Base hb mg mb) (T : Blt mg mb) {nm : Str} {doc pm : Value} {ann : Option Addr} {cd ct : Value} (F : FnAt' hb 357 (fdSt (stN 30) (Str.ofString "law") nm doc pm ann cd ct)) {m : Nat} (sc : List Int) (hsc : sc.length ≤ 63)
    (ts : List (Nat × Nat)) (hts : ts.length = 5 ∨ ts.length = 6) (near : List (List Nat)) (dS dN : D) (cs : List Nat) (width number : Nat) (rests : List Nat) (hw : width = 6 + (drawnOf sc).sum % 40)
    (P : Deps prog w hb mg mb m ts near dS dN cs (drawnOf sc) (decide (5 < sc.length)) width number rests)
    (hcs : cs.length ≤ 1000) (hdue : rests = ((List.range (ts.length - 2)).map fun k => (joinsOf ts).count (3 + k)) ++ [0]) :
    Ct prog w hb 357 (m + 1) [.lst (sc.map D.int)] (.bool true) := by
  refine ct_intro B F [Str.ofString "script"] rfl (fun vals hv => ?_) rfl (by decide +kernel) (fun x hx => ?_) ?_
  · match vals, hv with | [a], _ => rfl
  · simp only [List.mem_cons, List.not_mem_nil, or_false] at hx
    subst hx; left; rfl
  · show St _ _ _ _ _ _ [V "script" (.lst (sc.map D.int))] _ _
    refine s_compV (sc.take 6) D.int int_injI (fun _ => true) (fun x => .int ((x.fmod 5040).toNat : Nat)) [] [V "script" (.lst (sc.map D.int))] (it_list (ev_eq ?_ (EvF.ev (evF_slice (Ev.evL (ev_name (.head _))) evp_none (evp_some (n_int (i := 6))) (by rw [List.length_map]; unfold sizeLine; omega))))) (fun _ _ => tst_nil) (fun x hx _ => ?_) ?_ (by simp; unfold sizeLine; omega)
    · rw [pickD_to, List.map_take]
    · refine ev_eq (congrArg D.int ?_) (ev_mod (ev_name (.head _)) ev_int (by decide))
      have := Int.fmod_nonneg_of_pos x (show (0 : Int) < 5040 by decide)
      omega
    · have edr : (List.map (fun x => D.int ((x.fmod 5040).toNat : Nat)) (List.filter (fun _ => true) (sc.take 6))) = (drawsOf sc).map fun (i : Nat) => D.int (i : Int) := by
        rw [List.filter_eq_self.mpr (fun _ _ => rfl), drawsOf, List.map_map]; rfl
      rw [edr]
      refine s_assign (d := dInts (drawnOf sc)) [V "script" (.lst (sc.map D.int))] (EvF.ev (evF_eq ?_ (evF_add (Ev.evL (ev_name (.head _))) (EvF.evL (evF_sliceT (EvF.evL (evF_list (evs_cons n_int (evs_cons n_int (evs_cons n_int (evs_cons n_int (evs_cons n_int (evs_cons n_int evs_nil)))))) (show 6 ≤ sizeLine by decide))) (evp_some (n_len (k := (drawsOf sc).length) (gl_blt B rfl T.len.1 T.len.2) (Ev.evL (ev_name (.head _))) (by simp) (by simp [drawsOf]; omega))) evp_none (show 6 ≤ sizeLine by decide))) ?_))) ?_
      · rw [pickD_from]
        unfold drawnOf
        rw [List.map_append, List.map_drop]; rfl
      · rw [pickD_from]; simp [drawsOf]; unfold sizeLine; omega
      have hl6 : ts.length ≤ 6 := by omega
      have lt2 : 2 ^ ts.length ≤ 64 := Nat.le_trans (Nat.pow_le_pow_right (by decide) hl6) (by decide)
      obtain ⟨g1, ⟨f1, F1⟩, c1⟩ := P.c_ties
      refine s_assign (d := .lst (ts.map dTie)) [V "drawn" (dInts (drawnOf sc))] (ev_call (gl_glob B rfl g1) F1 (evs_cons (ev_name (.head _)) (evs_cons (ev_eq ?_ (ev_cmpInt (op := .Gt) (a := (sc.length : Nat)) (b := (5 : Nat)) (n_len (gl_blt B rfl T.len.1 T.len.2) (Ev.evL (ev_name (.tail _ (.head _)))) (by simp) (by simp; omega)) n_int rfl)) evs_nil)) c1 (Nat.le_refl _)) ?_
      · congr 1; rw [Bool.eq_iff_iff]; simp; omega
      refine s_assign (d := .int (ts.length : Nat)) [V "ties" (.lst (ts.map dTie)), V "drawn" (dInts (drawnOf sc))] (n_len (gl_blt B rfl T.len.1 T.len.2) (Ev.evL (ev_name (.head _))) (by simp) (by simp; omega)) ?_
      obtain ⟨g2, ⟨f2, F2⟩, c2⟩ := P.c_cuts
      refine s_assign (d := dInts (cuts ts)) [V "many" (.int (ts.length : Nat)), V "ties" (.lst (ts.map dTie)), V "drawn" (dInts (drawnOf sc))] (ev_call (gl_glob B rfl g2) F2 (evs_cons (ev_name (.tail _ (.head _))) evs_nil) c2 (Nat.le_refl _)) ?_
      obtain ⟨g3, ⟨f3, F3⟩, c3⟩ := P.c_ones
      have sl : (setsOf ts).length ≤ 64 := by
        unfold setsOf
        exact Nat.le_trans (List.length_filter_le _ _) (by simp; exact lt2)
      refine s_assign (d := dInts (setsOf ts)) [V "cuts" (dInts (cuts ts)), V "many" (.int (ts.length : Nat)), V "ties" (.lst (ts.map dTie)), V "drawn" (dInts (drawnOf sc))]
        (EvF.ev (evF_compM (List.range (1 * 2 ^ ts.length)) (fun (i : Nat) => D.int (i : Int)) int_inj (fun one => decide (2 < ones one)) (fun i => .int (i : Nat)) [] (it_rangeN (gl_blt B rfl T.ran.1 T.ran.2) (n_shl n_int (ev_name (.tail _ (.head _))) (by rw [show Builtin.Int.intBits ((1 : Nat) : Int) = 1 from rfl]; omega)) (by omega))
          (fun k hk => tst_one (nB_gt (ev_call (gl_glob B rfl g3) F3 (evs_cons (ev_name (.head _)) evs_nil) (c3 k) (Nat.le_refl _)) n_int)) (fun k hk _ => ev_name (.head _)) (by simp; unfold sizeLine; omega))) ?_
      have lcut : (cuts ts).length = 7 := rfl
      refine s_assign (d := dInts (lacksOf ts)) [V "sets" (dInts (setsOf ts)), V "many" (.int (ts.length : Nat)), V "ties" (.lst (ts.map dTie)), V "drawn" (dInts (drawnOf sc))]
        (EvF.ev (evF_eq ?_ (evF_compM (setsOf ts) (fun (i : Nat) => D.int (i : Int)) int_inj (fun _ => true) (fun one => .int (lackOf ts one : Nat)) [V "cuts" (dInts (cuts ts))] (it_list (ev_name (.head _))) (fun _ _ => tst_nil) (fun one hone _ =>
          n_len (gl_blt B rfl T.len.1 T.len.2) (EvF.evL (evF_compM (cuts ts) (fun (i : Nat) => D.int (i : Int)) int_inj (fun c => decide (one &&& c = 0)) (fun c => .int (c : Nat)) [V "one" (.int (one : Nat))] (it_list (ev_name (.tail _ (.head _)))) (fun c hc => tst_one (nB_eq (n_and (ev_name (.tail _ (.head _))) (ev_name (.head _))) n_int)) (fun c hc _ => ev_name (.head _)) (by rw [lcut]; decide)))
            (by rw [List.length_map]; rfl) (by rw [List.length_map]; exact Nat.le_trans (List.length_filter_le _ _) (by rw [lcut]; decide))) (by unfold sizeLine; omega)))) ?_
      · rw [filter_true, lacksOf, List.map_map]; rfl
      have ll : (lacksOf ts).length = (setsOf ts).length := by simp [lacksOf]
      have lens : ∀ {m'} {sc' : Scope} {ρ' : Vars} {p p' pos : Pos}, sc'.names.lookup (Str.ofString "len") = some .globalImplicit → (Str.ofString "sets", Slot.val (dInts (setsOf ts))) ∈ ρ' → Ev prog w hb m' sc' ρ' (.Call (.Name (Str.ofString "len") p) [.Name (Str.ofString "sets") p'] [] pos) (.int ((setsOf ts).length : Nat)) := fun h1 h2 =>
        n_len (gl_blt B h1 T.len.1 T.len.2) (Ev.evL (ev_name h2)) (by simp) (by simp; omega)
      refine s_own (ds := ((joinsOf ts).map fun (i : Nat) => (i : Int)).map D.int) [V "lacks" (dInts (lacksOf ts)), V "sets" (dInts (setsOf ts)), V "many" (.int (ts.length : Nat)), V "ties" (.lst (ts.map dTie)), V "drawn" (dInts (drawnOf sc))]
        (evF_eq ?_ (evF_compM (List.range (setsOf ts).length) (fun (i : Nat) => D.int (i : Int)) int_inj (fun k => decide (atN (lacksOf ts) k = 0)) (fun k => .int (ones (atN (setsOf ts) k) : Nat)) [V "lacks" (dInts (lacksOf ts)), V "sets" (dInts (setsOf ts))] (it_rangeN (gl_blt B rfl T.ran.1 T.ran.2) (lens rfl (.tail _ (.head _))) (by omega))
          (fun k hk => tst_one (nB_eq (ev_atN (.tail _ (.head _)) (ev_name (.head _)) (by rw [ll]; exact List.mem_range.mp hk) (by omega)) n_int))
          (fun k hk _ => ev_call (gl_glob B rfl g3) F3 (evs_cons (ev_atN (.tail _ (.tail _ (.head _))) (ev_name (.head _)) (List.mem_range.mp hk) (by omega)) evs_nil) (c3 _) (Nat.le_refl _)) (by simp; unfold sizeLine; omega))) ?_
      · rw [joinsOf, List.map_map, List.map_map]; rfl
      refine s_assign (d := dInts (threesOf ts)) [O "joins" true (((joinsOf ts).map fun (i : Nat) => (i : Int)).map D.int), V "lacks" (dInts (lacksOf ts)), V "sets" (dInts (setsOf ts)), V "many" (.int (ts.length : Nat)), V "ties" (.lst (ts.map dTie)), V "drawn" (dInts (drawnOf sc))]
        (EvF.ev (evF_compM (List.range (setsOf ts).length) (fun (i : Nat) => D.int (i : Int)) int_inj (fun k => decide (ones (atN (setsOf ts) k) = 3)) (fun k => .int (k : Nat)) [V "sets" (dInts (setsOf ts))] (it_rangeN (gl_blt B rfl T.ran.1 T.ran.2) (lens rfl (.tail _ (.tail _ (.head _)))) (by omega))
          (fun k hk => tst_one (nB_eq (ev_call (gl_glob B rfl g3) F3 (evs_cons (ev_atN (.tail _ (.head _)) (ev_name (.head _)) (List.mem_range.mp hk) (by omega)) evs_nil) (c3 _) (Nat.le_refl _)) n_int)) (fun k hk _ => ev_name (.head _)) (by simp; unfold sizeLine; omega))) ?_
      have thr : ∀ k ∈ threesOf ts, k < (setsOf ts).length := fun k hk => List.mem_range.mp (List.mem_filter.mp hk).1
      have tl : (threesOf ts).length ≤ 64 := by
        unfold threesOf
        exact Nat.le_trans (List.length_filter_le _ _) (by simp; exact sl)
      refine s_assign (d := dInts (treesOf ts)) [V "threes" (dInts (threesOf ts)), O "joins" true (((joinsOf ts).map fun (i : Nat) => (i : Int)).map D.int), V "lacks" (dInts (lacksOf ts)), V "sets" (dInts (setsOf ts)), V "many" (.int (ts.length : Nat)), V "ties" (.lst (ts.map dTie)), V "drawn" (dInts (drawnOf sc))]
        (EvF.ev (evF_eq ?_ (evF_compM (threesOf ts) (fun (i : Nat) => D.int (i : Int)) int_inj (fun k => decide (atN (lacksOf ts) k = 0)) (fun k => .int (atN (setsOf ts) k : Nat)) [V "lacks" (dInts (lacksOf ts)), V "sets" (dInts (setsOf ts))] (it_list (ev_name (.head _)))
          (fun k hk => tst_one (nB_eq (ev_atN (.tail _ (.head _)) (ev_name (.head _)) (by rw [ll]; exact thr k hk) (by omega)) n_int)) (fun k hk _ => ev_atN (.tail _ (.tail _ (.head _))) (ev_name (.head _)) (thr k hk) (by omega)) (by unfold sizeLine; omega)))) ?_
      · rw [treesOf, List.map_map]; rfl
      obtain ⟨g4, ⟨f4, F4⟩, c4⟩ := P.c_outer
      refine s_assign (d := dInts (firstsOf ts)) [V "threes" (dInts (threesOf ts)), O "joins" true (((joinsOf ts).map fun (i : Nat) => (i : Int)).map D.int), V "lacks" (dInts (lacksOf ts)), V "many" (.int (ts.length : Nat)), V "ties" (.lst (ts.map dTie)), V "drawn" (dInts (drawnOf sc))]
        (EvF.ev (evF_eq ?_ (evF_compM (threesOf ts) (fun (i : Nat) => D.int (i : Int)) int_inj (fun _ => true) (fun k => .int ((if decide (atN (lacksOf ts) k = 0) = true then outTo (atN (setsOf ts) k) (treesOf ts) ts.length else 0 : Nat) : Int)) [V "trees" (dInts (treesOf ts)), V "lacks" (dInts (lacksOf ts)), V "sets" (dInts (setsOf ts)), V "many" (.int (ts.length : Nat))] (it_list (ev_name (.tail _ (.head _))))
          (fun _ _ => tst_nil) (fun k hk _ => ev_ite (c := decide (atN (lacksOf ts) k = 0)) (nB_eq (ev_atN (.tail _ (.tail _ (.head _))) (ev_name (.head _)) (by rw [ll]; exact thr k hk) (by omega)) n_int)
            (fun hc => ev_eq (by rw [if_pos hc]) (ev_call (gl_glob B rfl g4) F4 (evs_cons (ev_atN (.tail _ (.tail _ (.tail _ (.head _)))) (ev_name (.head _)) (thr k hk) (by omega)) (evs_cons (ev_name (.tail _ (.head _))) (evs_cons (ev_name (.tail _ (.tail _ (.tail _ (.tail _ (.head _)))))) evs_nil))) (c4 _ _ ts.length (by omega)) (Nat.le_refl _)))
            (fun hc => ev_eq (by rw [if_neg (by rw [hc]; decide)]) (n_int (i := 0)))) (by unfold sizeLine; omega)))) ?_
      · rw [filter_true, firstsOf, List.map_map]; rfl
      have fl : (firstsOf ts).length = (threesOf ts).length := by simp [firstsOf]
      have lk7 : ∀ k, k < (setsOf ts).length → atN (lacksOf ts) k ≤ 7 := fun k hk => by
        unfold atN lacksOf
        rw [List.getD_eq_getElem?_getD, List.getElem?_map, List.getElem?_eq_getElem hk]
        exact Nat.le_trans (List.length_filter_le _ _) (by rw [lcut]; exact Nat.le_refl _)
      have outs : ∀ tree trees k, outTo tree trees k ≤ k := fun tree trees k => by
        induction k with
        | zero => simp [outTo]
        | succ k ih => unfold outTo; split <;> (try split) <;> omega
      have f6 : ∀ j, atN (firstsOf ts) j ≤ 6 := fun j => by
        unfold atN firstsOf
        rw [List.getD_eq_getElem?_getD, List.getElem?_map]
        cases (threesOf ts)[j]? with
        | none => simp
        | some k => simp only [Option.map_some, Option.getD_some]; split; · exact Nat.le_trans (outs _ _ _) hl6
                    · omega
      refine s_compV (List.range (threesOf ts).length) (fun (i : Nat) => D.int (i : Int)) int_inj (fun _ => true) (fun j => dPair (mkPair ((atN (firstsOf ts) j : Nat) : Int) (atN (lacksOf ts) (atN (threesOf ts) j)))) [V "firsts" (dInts (firstsOf ts)), V "lacks" (dInts (lacksOf ts)), V "threes" (dInts (threesOf ts))]
        [O "joins" true (((joinsOf ts).map fun (i : Nat) => (i : Int)).map D.int), V "many" (.int (ts.length : Nat)), V "ties" (.lst (ts.map dTie)), V "drawn" (dInts (drawnOf sc))] (it_rangeN (gl_blt B rfl T.ran.1 T.ran.2) (n_len (gl_blt B rfl T.len.1 T.len.2) (Ev.evL (ev_name (.tail _ (.head _)))) (by simp) (by simp; omega)) (by omega)) (fun _ _ => tst_nil) (fun j hj _ => ?_) ?_ (by simp; unfold sizeLine; omega)
      · have hj := List.mem_range.mp hj
        have h3 : atN (threesOf ts) j < (setsOf ts).length := thr _ (by unfold atN; rw [List.getD_eq_getElem?_getD, List.getElem?_eq_getElem hj]; simp)
        have := lk7 _ h3
        have := f6 j
        refine ev_tuple (evs_cons (ev_cat (ev_eq (congrArg D.str (mul_rep 32 _)) (ev_reps (a := ⟨#[32]⟩) (ev_eq (congrArg D.str (by decide +kernel)) ev_str) (ev_atN (.tail _ (.head _)) (ev_name (.head _)) (by rw [fl]; exact hj) (by omega)) (mulOk_small 32 _ (by omega) (by omega)))) ev_str ?_)
          (evs_cons (ev_eq (congrArg D.str (mul_rep 91 _)) (ev_reps (a := ⟨#[91]⟩) (ev_eq (congrArg D.str (by decide +kernel)) ev_str) (ev_atN (.tail _ (.tail _ (.head _))) (ev_atN (.tail _ (.tail _ (.tail _ (.head _)))) (ev_name (.head _)) hj (by omega)) (by rw [ll]; exact h3) (by omega)) (mulOk_small 91 _ (by omega) (by omega)))) evs_nil)) (show 2 ≤ sizeLine by decide)
        rw [rep_length, show (Str.ofString "\t").length = 1 by decide +kernel, Int.toNat_natCast]
        unfold sizeLine; omega
      have ep : (List.map (fun j => dPair (mkPair ((atN (firstsOf ts) j : Nat) : Int) (atN (lacksOf ts) (atN (threesOf ts) j)))) (List.filter (fun _ => true) (List.range (threesOf ts).length))) = (pairsOf ts).map dPair := by
        rw [filter_true, pairsOf, List.map_map]; rfl
      rw [ep]
      obtain ⟨g5, ⟨f5, F5⟩, c5⟩ := P.c_near
      obtain ⟨g6, ⟨f6, F6⟩, c6⟩ := P.c_sand
      obtain ⟨g7, ⟨f7, F7⟩, c7⟩ := P.c_lead
      obtain ⟨g8, ⟨f8, F8⟩, c8⟩ := P.c_digits
      obtain ⟨g9, ⟨f9, F9⟩, c9⟩ := P.c_rests
      refine s_assign (d := .ws dN) [V "pairs" (.lst ((pairsOf ts).map dPair)), O "joins" true (((joinsOf ts).map fun (i : Nat) => (i : Int)).map D.int), V "many" (.int (ts.length : Nat)), V "drawn" (dInts (drawnOf sc))]
        (ev_call (gl_glob B rfl g6) F6 (evs_cons (ev_call (gl_glob B rfl g5) F5 (evs_cons (ev_name (.tail _ (.tail _ (.tail _ (.head _))))) evs_nil) c5 (Nat.le_refl _)) (evs_cons (ev_name (.tail _ (.tail _ (.head _)))) evs_nil)) c6 (Nat.le_refl _)) ?_
      refine st_if [V "sand" (.ws dN), O "joins" true (((joinsOf ts).map fun (i : Nat) => (i : Int)).map D.int), V "many" (.int (ts.length : Nat)), V "drawn" (dInts (drawnOf sc))] (c := false) (P.c_equal _ _ _ _ _ _ _ _ _ _ (.head _) (by decide) (ev_call (gl_glob B rfl g7) F7 (evs_cons (ev_name (.tail _ (.head _))) evs_nil) c7 (Nat.le_refl _)) (fun _ => rfl) (fun _ => ⟨_, rfl⟩)) (fun h => nomatch h) (fun _ => st_sub (by simp) st_nil) ?_
      refine s_assign (d := .int (width : Nat)) [V "sand" (.ws dN), O "joins" true (((joinsOf ts).map fun (i : Nat) => (i : Int)).map D.int), V "many" (.int (ts.length : Nat))] (ev_eq (congrArg D.int (by rw [hw])) (n_add n_int (n_mod (a := (drawnOf sc).sum) (ev_eq (congrArg D.int (sum_cast _)) (ev_sum (is := (drawnOf sc).map fun (i : Nat) => (i : Int)) (gl_blt B rfl T.sum.1 T.sum.2) (evL_eq (by rw [List.map_map]; rfl) (Ev.evL (ev_name (.tail _ (.tail _ (.tail _ (.head _))))))))) n_int))) ?_
      have w45 : width ≤ 45 := by omega
      refine s_assign (d := .int (number : Nat)) [V "width" (.int (width : Nat)), O "joins" true (((joinsOf ts).map fun (i : Nat) => (i : Int)).map D.int), V "many" (.int (ts.length : Nat))]
        (ev_call (gl_glob B rfl g8) F8 (evs_cons (EvF.ev (evF_listT (ds := cs.map fun (i : Nat) => D.int (i : Int)) (gl_blt B rfl P.c_list.1 P.c_list.2) (ev_itemT (i := ((0 : Nat) : Int)) (ev_eq P.c_norm (P.c_attr _ _ _ _ _ (.tail _ (.head _)) (by decide))) n_int (by omega) rfl (show 2 ≤ sizeLine by decide)) (by rw [List.length_map]; unfold sizeLine; omega))) (evs_cons (ev_name (.head _)) evs_nil)) c8 (Nat.le_refl _)) ?_
      refine s_assign (d := dInts (((List.range (ts.length - 2)).map fun k => (joinsOf ts).count (3 + k)) ++ [0])) [V "number" (.int (number : Nat)), V "width" (.int (width : Nat)), V "many" (.int (ts.length : Nat))]
        (EvF.ev (evF_eq ?_ (evF_add (EvF.evL (evF_compM (List.range (ts.length - 2)) (fun (i : Nat) => D.int (i : Int)) int_inj (fun _ => true) (fun k => .int ((joinsOf ts).count (3 + k) : Nat)) [O "joins" true (((joinsOf ts).map fun (i : Nat) => (i : Int)).map D.int)] (it_rangeN (gl_blt B rfl T.ran.1 T.ran.2) (n_sub (ev_name (.tail _ (.tail _ (.tail _ (.head _))))) n_int (by omega)) (by omega))
          (fun _ _ => tst_nil) (fun k hk _ => ev_eq (congrArg D.int (congrArg Int.ofNat (count_cast _ _))) (ev_count (.tail _ (.head _)) (n_add n_int (ev_name (.head _))))) (by simp; unfold sizeLine; omega))) (EvF.evL (evF_list (evs_cons n_int evs_nil) (show 1 ≤ sizeLine by decide))) (by rw [filter_true]; simp; unfold sizeLine; omega)))) ?_
      · rw [filter_true, List.map_append, List.map_map]; rfl
      refine st_ret (ev_eq ?_ (ev_eqLst (as := rests.map fun (i : Nat) => (i : Int)) (bs := (((List.range (ts.length - 2)).map fun k => (joinsOf ts).count (3 + k)) ++ [0]).map fun (i : Nat) => (i : Int)) (evL_eq (by rw [List.map_map]; rfl) (Ev.evL (ev_call (gl_glob B rfl g9) F9 (evs_cons (ev_name (.tail _ (.head _))) (evs_cons (ev_eq (congrArg D.int (by rw [Nat.one_mul])) (n_sub (n_shl (n_int (i := 1)) (ev_name (.tail _ (.tail _ (.head _)))) (by rw [show Builtin.Int.intBits ((1 : Nat) : Int) = 1 from rfl]; omega)) (n_int (i := 1)) (by show 1 ≤ 1 * 2 ^ width; rw [Nat.one_mul]; exact Nat.two_pow_pos width)))
        (evs_cons (ev_name (.tail _ (.tail _ (.tail _ (.head _))))) evs_nil))) c9 (Nat.le_refl _)))) (evL_eq (by rw [List.map_map]; rfl) (Ev.evL (ev_name (.head _))))))
      rw [hdue, decide_eq_true rfl]
end
end
section
open PySem PySem.W PyProof.Rows PySem.Calls
set_option linter.unusedVariables false
set_option maxRecDepth 100000
section
variable {prog : Program} {w : World} {hb : Heap} {t : Bool} {n : Nat} {sc : Scope} {ρ ρ' : Vars} {R : Out} {rest : List Stmt} {mg mb : Str → Option Value}
theorem ev_bitlen {e : Expr} {apos pos : Pos} {a : Int} (x : Ev prog w hb n sc ρ e (.int a))
    (hE : ∀ env, ∃ pl, eval (.Call (.Attribute e (Str.ofString "bit_length") apos) [] [] pos) env = (do
      let ov ← eval e env
      standAt apos.atName
      let (f, first) ← holding [ov] (getMethod ov (Str.ofString "bit_length") pl)
      callWith pos f first (backTo pos (starEach [] env)) []) := by intro _; exact ⟨_, rfl⟩) :
    Ev prog w hb n sc ρ (.Call (.Attribute e (Str.ofString "bit_length") apos) [] [] pos) (.int (Builtin.Int.intBits a : Nat)) := fun A env Z s Q E hA he rl k => by
  obtain ⟨pl, hE⟩ := hE env
  refine MethodCall_ (pl := pl) (x A env Z s _ E hA he rl fun u s₁ hu k₁ => ?_) hE
  obtain ⟨t, rfl⟩ := rep_int hu
  refine getMethod_int_bit_length (callWith_method0 (call_int_bit_length ?_))
  exact k _ _ (rep_of_int _ _ _ _) (k₁.trans (.tok _ _ _))
theorem ev_divmod {e₁ e₂ : Expr} {p pos : Pos} {a b : Int} (hg : Gl prog w hb n sc ρ "divmod" (.builtin "divmod")) (x : Ev prog w hb n sc ρ e₁ (.int a)) (y : Ev prog w hb n sc ρ e₂ (.int b)) (hb0 : b ≠ 0) (hs : b.natAbs.log2 < 9000)
    (hs₁ : ∀ env, starEach [e₁, e₂] env = [(false, eval e₁ env), (false, eval e₂ env)] := by intro _; rfl) :
    Ev prog w hb n sc ρ (.Call (.Name "divmod" p) [e₁, e₂] [] pos) (.tup [.int (a.fdiv b), .int (a.fmod b)]) := fun A env Z s Q E hA he rl k => by
  refine Call_ (hg p A env Z s _ E hA he rl ?_)
  rw [hs₁]
  refine callWith_builtin rfl (evalArgs_plain ?_)
  refine spliced_cons (x A env Z s _ E hA he rl fun u s₁ hu k₁ => spliced_cons (y A env Z s₁ _ E hA he (rl.ext k₁.ext) fun v s₂ hv k₂ => spliced_nil ?_))
  obtain ⟨t, rfl⟩ := rep_int hu
  obtain ⟨t', rfl⟩ := rep_int hv
  refine divmod_int hb0 ?_ (.inl (PyProof.noPylong_of_log2 hs))
  have ex : Ext hb s₂.heap (s₂.heap.push { cls := .type "tuple", data := .seq #[.int (a.fdiv b) s₂.toks, .int (a.fmod b) (s₂.toks + 1)] }) := Ext.push _
  refine k _ _ ?_ ((k₁.trans k₂).trans (.of' ex))
  rw [Rep]
  refine ⟨_, #[.int (a.fdiv b) s₂.toks, .int (a.fmod b) (s₂.toks + 1)], rfl, ?_, ⟨_, Heap.get?_push_size _ rfl, rfl, 0, rfl⟩, Reps.cons (rep_of_int _ _ _ _) (Reps.cons (rep_of_int _ _ _ _) Reps.nil)⟩
  exact ((rl.ext k₁.ext).ext k₂.ext).fresh (Heap.get?_none_of_le (Nat.le_refl _))
/-- a global int -/
theorem ev_globInt {x : Str} {p : Pos} {i : Int} {tk : Tok} (hg : Gl prog w hb n sc ρ x (.int i tk)) : Ev prog w hb n sc ρ (.Name x p) (.int i) := fun A env Z s Q E hA he rl k =>
  hg p A env Z s _ E hA he rl (k _ _ (rep_of_int _ _ _ _) (.refl _ _))
end
end
section
open PySem PySem.W PyProof.Rows PySem.Calls
set_option linter.unusedVariables false
set_option maxRecDepth 100000
section
variable {prog : Program} {w : World} {hb : Heap} {t : Bool} {n : Nat} {sc : Scope} {ρ ρ' : Vars} {R : Out} {rest : List Stmt} {mg mb : Str → Option Value}
theorem isF_rev {h : Heap} {a l : Addr} {i : Int} (x : h.IsRevIter a l i) : IsF h a := by
  obtain ⟨o, ho, hc, hd⟩ := x
  exact ⟨o, _, ho, hd, niceO_of hc (by decide)⟩
/-- a list read from its end -/
theorem it_rev {e : Expr} {p pos : Pos} {ds : List D} (hg : Gl prog w hb n sc ρ "reversed" (.type "reversed")) (x : Ev prog w hb n sc ρ e (.lst ds)) (hs : ∀ env, starEach [e] env = [(false, eval e env)] := by intro _; rfl) :
    It prog w hb n sc ρ (.Call (.Name "reversed" p) [e] [] pos) ds.reverse := fun A env Z s Q E hA he rl k => by
  refine Call_ (hg p A env Z s _ E hA he rl ?_)
  refine PyProof.Rows.callWith_type1 ?_ (by rw [hs]; rfl)
  rw [hs]
  refine spliced_cons (x A env Z s _ E hA he rl fun v s₁ hv k₁ => spliced_nil ?_)
  rw [Rep] at hv
  obtain ⟨a, items, rfl, ha, hl, hr⟩ := hv
  refine call_reversed_list hl ?_
  have ex : Ext hb s₁.heap (s₁.heap.push (revObj a ((items.size : Int) - 1))) := Ext.push _
  have hne : a ≠ s₁.heap.objs.size := by obtain ⟨o, ho, _⟩ := id hl; exact Nat.ne_of_lt (Heap.lt_size ho)
  have hsz : items.size = ds.length := by have := hr.length; simpa using this
  have fr : s₁.heap.get? s₁.heap.objs.size = none := Heap.get?_none_of_le (Nat.le_refl _)
  have hit : (s₁.heap.push (revObj a ((items.size : Int) - 1))).IsRevIter s₁.heap.objs.size a ((items.size : Int) - 1) := ⟨_, Heap.get?_push_size _ rfl, rfl, rfl⟩
  refine wpAny_pyIter_revIter hit ?_
  refine k _ [s₁.heap.objs.size, a] [s₁.heap.objs.size] (fun i v => i < items.size ∧ items[items.size - 1 - i]? = some v) (fun i h => i ≤ items.size ∧ h.IsRevIter s₁.heap.objs.size a ((items.size : Int) - 1 - (i : Int)) ∧ h.IsList a items) _ (k₁.trans (.of ex)) ⟨fun A' h' => ?_,
    ⟨Nat.zero_le _, by simpa using hit, IsList.off hl fun o => ex.keep _ o⟩, ?_, ?_, ?_, ?_, fun i h' hh b hb' => by simp at hb'; subst hb'; exact isF_rev hh.2.1, ?_⟩
  · have W := (Walks.listRev (prog := prog) (w := w) h' s₁.heap.objs.size a hne items).bound
    have e : ds.reverse.length = items.size := by simp [hsz]
    rw [e]
    exact W
  · intro b hb'
    obtain ⟨o, ho, _⟩ := id hl
    have lt := Heap.lt_size ho
    simp only [Heap.size_push]
    rcases List.mem_cons.mp hb' with rfl | hb'
    · exact Nat.lt_succ_self _
    · simp at hb'; subst hb'; exact Nat.lt_succ_of_lt lt
  · intro b hb'; simp at hb'; subst hb'; exact k₁.ext.none fr
  · intro b hb'
    rcases List.mem_cons.mp hb' with rfl | hb'
    · exact (rl.ext k₁.ext).fresh fr
    · simp at hb'; subst hb'; exact ha
  · rintro i h' ⟨h0, h1, h2⟩ b hb'
    rcases List.mem_cons.mp hb' with rfl | hb'
    · exact (isF_rev h1).nice
    · simp at hb'; subst hb'; exact nice_list h2
  · rintro i v ⟨hi, hv⟩
    obtain ⟨d, e1, e2⟩ := hr.get' (i := items.size - 1 - i) (v := v) (by simpa using hv)
    refine ⟨d, ?_, (e2.more fun a' h => by simp at h; subst h; exact fr).ext ex⟩
    rw [List.getElem?_reverse (by omega), ← hsz]; exact e1
theorem Reps.rev {h : Heap} {Z : List Addr} : ∀ {ds : List D} {vs : List Value}, Reps h Z ds vs → Reps h Z ds.reverse vs.reverse
  | [], _, x => by rw [Reps] at x; subst x; simpa using Reps.nil
  | d :: ds, _, x => by
    rw [Reps] at x
    obtain ⟨v, r, rfl, h1, h2⟩ := x
    rw [List.reverse_cons, List.reverse_cons]
    exact (Reps.rev h2).append (Reps.cons h1 Reps.nil)
/-- `x.reverse()`, x a list of mine -/
theorem st_reverse {x : Str} {px apos pos spos : Pos} {ds : List D} (ρ' : Vars) (hx : (x, Slot.own true ds) ∈ ρ) (k : St prog w hb t n sc ((x, .own true ds.reverse) :: ρ') rest R) (hz : ds.length ≤ 100000) (hm : ∀ p ∈ ρ', p ∈ ρ := by trivial) (hv : (ρ'.all fun p => match p.2 with | .val _ => true | _ => false) = true := by rfl) (hok : okName x = true := by decide)
    (hE : ∀ env, ∃ pl, eval (.Call (.Attribute (.Name x px) (Str.ofString "reverse") apos) [] [] pos) env = (do
      let ov ← eval (.Name x px) env
      standAt apos.atName
      let (f, first) ← holding [ov] (getMethod ov (Str.ofString "reverse") pl)
      callWith pos f first (backTo pos (starEach [] env)) []) := by intro _; exact ⟨_, rfl⟩)
    (hi : ∀ env, env.scope = sc → interactive env = false := by intro _ h; simp only [interactive, h]; rfl) (hsw : ∀ env, env.scope = sc → swapsWith (.Call (.Attribute (.Name x px) (Str.ofString "reverse") apos) [] [] pos) none spos.line env = pure false := by intro _ _; rfl) :
    St prog w hb t n sc ρ (.Expr (.Call (.Attribute (.Name x px) (Str.ofString "reverse") apos) [] [] pos) spos :: rest) R := fun A env h₀ hs Y Z s Q E hA he ht a p => by
  refine wpAny_execs_cons (wpAny_Expr ?_ (hi env he) (hsw env he))
  obtain ⟨pl, hE⟩ := hE env
  refine MethodCall_ (pl := pl) ?_ hE
  obtain ⟨l, items, v, lo, hr⟩ := a.rel.own x true ds hx
  simp only [okName, Bool.and_eq_true, Bool.not_eq_true'] at hok
  refine wpAny_Name (ld_var a.rel.kind v hok.1 ?_) hok.2
  obtain ⟨m, hmm⟩ := lo.2 rfl
  refine getMethod_list_of PySem.F.slot_list_reverse PySem.F.type_list_reverse lo.1 ⟨_, hmm, rfl⟩ ?_
  refine callWith_method0 ?_
  have hlen := hr.length
  simp only [Array.length_toList] at hlen
  refine call_meets PySem.F.slot_list_reverse ⟨_, hmm, rfl⟩ PySem.F.entry_list_reverse (PySem.F.args_list_reverse_1 _) (AutoSeq1.list_reverse_list_0 l items m (by rw [hlen]; unfold sizeLine; omega)) ⟨hmm, ?_⟩
  have hg := Heap.get?_update_self (Obj.mapSeq fun x => x.reverse) hmm rfl
  have hp : (s.heap.update l (Obj.mapSeq fun x => x.reverse)).PlainList l items.reverse := ⟨_, hg⟩
  refine k A env h₀ hs Y Z _ Q E hA he ht (a.turn hx v (Heap.SameBut.update ..) ⟨hp.isList, fun _ => hp⟩ (by rw [Array.toList_reverse]; exact Reps.rev hr) (val_of_all' hv hm)) (p.from (fun _ m => .inl m) fun _ _ m => m)
end
end
section
open PySem PySem.W PyProof.Rows PySem.Calls
set_option linter.unusedVariables false
set_option maxRecDepth 100000
section
variable {prog : Program} {w : World} {hb : Heap} {n : Nat} {mg mb : Str → Option Value}
noncomputable def bl (x : Nat) : Nat := Builtin.Int.intBits (x : Int)
theorem bl_lt (x : Nat) : x < 2 ^ bl x := by
  unfold bl Builtin.Int.intBits
  by_cases h : x = 0
  · subst h; decide
  · rw [if_neg (by simp; omega), Int.natAbs_natCast]; exact Nat.lt_log2_self
theorem bl_le {x k : Nat} (h : x < 2 ^ k) : bl x ≤ k := by
  unfold bl Builtin.Int.intBits
  by_cases h0 : x = 0
  · subst h0; simp
  · rw [if_neg (by simp; omega), Int.natAbs_natCast]
    exact (Nat.log2_lt h0).mpr h
structure Blt2 (mg mb : Str → Option Value) : Prop where
  dm : mg "divmod" = none ∧ mb "divmod" = some (.builtin "divmod")
  rev : mg "reversed" = none ∧ mb "reversed" = some (.type "reversed")
  lim : ∃ tk, mg "_DIV_LIMIT" = some (.int 4000 tk)
theorem ct_div2n1n (B : Base hb mg mb) (T : Blt2 mg mb) {nm : Str} {doc pm : Value} {ann : Option Addr} {cd ct : Value} (F : FnAt' hb 45 (fdSt (stN 4) (Str.ofString "_div2n1n") nm doc pm ann cd ct)) (a b k : Nat) (hb0 : 0 < b) (ha : a < 2 ^ 1000) (hbl : b < 2 ^ 1000) :
    Ct prog w hb 45 (n + 1) [.int (a : Nat), .int (b : Nat), .int (k : Nat)] (.tup [.int (a / b : Nat), .int (a % b : Nat)]) := by
  obtain ⟨tk, hlim⟩ := T.lim
  refine ct_intro B F [Str.ofString "a", Str.ofString "b", Str.ofString "n"] rfl (fun vals hv => ?_) rfl (by decide +kernel) (fun x hx => ?_) ?_
  · match vals, hv with | [a, b, c], _ => rfl
  · simp only [List.mem_cons, List.not_mem_nil, or_false] at hx
    rcases hx with rfl | rfl | rfl <;> (left; rfl)
  · show St _ _ _ _ _ _ [V "a" (.int (a : Nat)), V "b" (.int (b : Nat)), V "n" (.int (k : Nat))] _ _
    refine st_ifR (evB_int (ev_sub (ev_bitlen (ev_name (.head _))) (ev_name (.tail _ (.tail _ (.head _))))) (ev_globInt (gl_glob B rfl hlim)) ?_) (st_ret (ev_eq ?_ (ev_divmod (gl_blt B rfl T.dm.1 T.dm.2) (ev_name (.head _)) (ev_name (.tail _ (.head _))) (by omega) ?_)))
    · have := bl_le ha
      unfold bl at this
      show some (decide _) = _
      rw [decide_eq_true (by omega)]
    · rw [Int.fdiv_eq_ediv_of_nonneg _ (by omega), Int.fmod_eq_emod_of_nonneg _ (by omega)]; rfl
    · rw [Int.natAbs_natCast]
      have : b.log2 < 1000 := (Nat.log2_lt (by omega)).mpr hbl
      omega
noncomputable def ldStep (b k : Nat) (x : Nat × List Nat) (d : Nat) : Nat × List Nat := ((x.1 * 2 ^ k + d) % b, x.2 ++ [(x.1 * 2 ^ k + d) / b])
noncomputable def longdiv (b k : Nat) (ds : List Nat) : Nat × List Nat := ds.foldl (ldStep b k) (0, [])
theorem longdiv_lt (b k : Nat) (hb : 0 < b) : ∀ (ds : List Nat) (x : Nat × List Nat), x.1 < b → (ds.foldl (ldStep b k) x).1 < b
  | [], x, h => h
  | d :: ds, x, h => longdiv_lt b k hb ds _ (Nat.mod_lt _ hb)
theorem longdiv_len (b k : Nat) : ∀ (ds : List Nat) (x : Nat × List Nat), (ds.foldl (ldStep b k) x).2.length = x.2.length + ds.length
  | [], x => rfl
  | d :: ds, x => by rw [List.foldl_cons, longdiv_len b k ds]; simp [ldStep]; omega
theorem ct_divpos (B : Base hb mg mb) (T : Blt2 mg mb) {nm : Str} {doc pm : Value} {ann : Option Addr} {cd ct : Value} (F : FnAt' hb 73 (fdSt (stN 8) (Str.ofString "_divmod_pos") nm doc pm ann cd ct)) {f1 f2 f3 : FuncData} (F1 : FnAt' hb 59 f1) (g1 : mg (Str.ofString "_int2digits") = some (.ref 59))
    (F2 : FnAt' hb 66 f2) (g2 : mg (Str.ofString "_digits2int") = some (.ref 66)) (F3 : FnAt' hb 45 f3) (g3 : mg (Str.ofString "_div2n1n") = some (.ref 45)) {m : Nat} (a b q : Nat) (ds : List Nat) (hb0 : 0 < b) (hbl : b < 2 ^ 100) (hds : ∀ d ∈ ds, d < 2 ^ 100) (hlen : ds.length ≤ 1000)
    (c1 : Ct prog w hb 59 m [.int (a : Nat), .int (bl b : Nat)] (dInts ds)) (c2 : Ct prog w hb 66 m [dInts (longdiv b (bl b) ds.reverse).2.reverse, .int (bl b : Nat)] (.int (q : Nat)))
    (c3 : ∀ x, x < 2 ^ 1000 → Ct prog w hb 45 m [.int (x : Nat), .int (b : Nat), .int (bl b : Nat)] (.tup [.int (x / b : Nat), .int (x % b : Nat)])) :
    Ct prog w hb 73 (m + 1) [.int (a : Nat), .int (b : Nat)] (.tup [.int (q : Nat), .int ((longdiv b (bl b) ds.reverse).1 : Nat)]) := by
  have hk : bl b ≤ 100 := bl_le hbl
  refine ct_intro B F [Str.ofString "a", Str.ofString "b"] rfl (fun vals hv => ?_) rfl (by decide +kernel) (fun x hx => ?_) ?_
  · match vals, hv with | [a, b], _ => rfl
  · simp only [List.mem_cons, List.not_mem_nil, or_false] at hx
    rcases hx with rfl | rfl <;> (left; rfl)
  · show St _ _ _ _ _ _ [V "a" (.int (a : Nat)), V "b" (.int (b : Nat))] _ _
    refine s_assign (d := .int (bl b : Nat)) [V "a" (.int (a : Nat)), V "b" (.int (b : Nat))] (ev_bitlen (ev_name (.tail _ (.head _)))) ?_
    refine s_assign (d := dInts ds) [V "n" (.int (bl b : Nat)), V "b" (.int (b : Nat))] (ev_call (gl_glob B rfl g1) F1 (evs_cons (ev_name (.tail _ (.head _))) (evs_cons (ev_name (.head _)) evs_nil)) c1 (Nat.le_refl _)) ?_
    refine s_assign (d := .int (0 : Nat)) [V "a_digits" (dInts ds), V "n" (.int (bl b : Nat)), V "b" (.int (b : Nat))] n_int ?_
    refine s_own (ds := []) [V "r" (.int (0 : Nat)), V "a_digits" (dInts ds), V "n" (.int (bl b : Nat)), V "b" (.int (b : Nat))] (evF_list evs_nil (by decide)) ?_
    generalize hrs : ds.reverse = rs
    have hrd : ∀ d ∈ rs, d < 2 ^ 100 := fun d hd => hds d (List.mem_reverse.mp (hrs ▸ hd))
    refine s_for rs (fun (i : Nat) => D.int (i : Int)) (fun i => [O "q_digits" true ((longdiv b (bl b) (rs.take i)).2.map fun (i : Nat) => D.int (i : Int)), V "r" (.int ((longdiv b (bl b) (rs.take i)).1 : Nat)), V "n" (.int (bl b : Nat)), V "b" (.int (b : Nat))])
      (by rw [← hrs, List.map_reverse]; exact it_rev (gl_blt B rfl T.rev.1 T.rev.2) (ev_name (.tail _ (.tail _ (.head _))))) (by simp [longdiv]) (fun i d hd => ?_) ?_
    · generalize hx : longdiv b (bl b) (rs.take i) = x
      have hstep : longdiv b (bl b) (rs.take (i + 1)) = ldStep b (bl b) x d := by unfold longdiv; rw [take_fold _ _ _ _ _ hd]; rw [← hx]; rfl
      have hxb : x.1 < b := hx ▸ longdiv_lt b (bl b) hb0 _ _ hb0
      have hx100 : x.1 < 2 ^ 100 := Nat.lt_trans hxb hbl
      have hd100 := hrd d (List.mem_of_getElem? hd)
      rw [hstep]
      refine st_unpack2 [O "q_digits" true (x.2.map fun (i : Nat) => D.int (i : Int)), V "r" (.int (x.1 : Nat)), V "n" (.int (bl b : Nat)), V "b" (.int (b : Nat))] [V "q_digit" (.int ((x.1 * 2 ^ bl b + d) / b : Nat)), O "q_digits" true (x.2.map fun (i : Nat) => D.int (i : Int)), V "n" (.int (bl b : Nat)), V "b" (.int (b : Nat))]
        (ev_call (gl_glob B rfl g3) F3 (evs_cons (n_add (n_shl (ev_name (.tail _ (.tail _ (.head _)))) (ev_name (.tail _ (.tail _ (.tail _ (.head _))))) ?_) (ev_name (.head _))) (evs_cons (ev_name (.tail _ (.tail _ (.tail _ (.tail _ (.head _)))))) (evs_cons (ev_name (.tail _ (.tail _ (.tail _ (.head _))))) evs_nil))) (c3 _ ?_) (Nat.le_refl _)) ?_ (.inl rfl) (.inl rfl) (ne_of_all (by kernel_rfl) (by simp)) (ne_of_all (by kernel_rfl) (by simp))
      · have := bl_le hx100; unfold bl at this hk; unfold bl; omega
      · have h1 : x.1 * 2 ^ bl b ≤ 2 ^ 100 * 2 ^ 100 := Nat.mul_le_mul (Nat.le_of_lt hx100) (Nat.pow_le_pow_right (by decide) hk)
        have h2 : (2 : Nat) ^ 100 * 2 ^ 100 + 2 ^ 100 < 2 ^ 1000 := by decide +kernel
        omega
      · refine s_append (d := .int ((x.1 * 2 ^ bl b + d) / b : Nat)) [V "r" (.int ((x.1 * 2 ^ bl b + d) % b : Nat)), V "n" (.int (bl b : Nat)), V "b" (.int (b : Nat))] (.tail _ (.tail _ (.head _))) (ev_name (.tail _ (.head _))) (st_sub ?_ st_nil) ?_
        · simp [ldStep]
        · have := longdiv_len b (bl b) (rs.take i) (0, [])
          rw [show (rs.take i).foldl (ldStep b (bl b)) (0, []) = x from hx] at this
          have hl : rs.length = ds.length := by rw [← hrs]; simp
          rw [List.length_map, this]; simp; omega
    · rw [List.take_length]
      have hl2 : (longdiv b (bl b) rs).2.length ≤ 1000 := by
        have := longdiv_len b (bl b) rs (0, [])
        have hl : rs.length = ds.length := by rw [← hrs]; simp
        unfold longdiv; rw [this]; simp; omega
      refine st_reverse [V "r" (.int ((longdiv b (bl b) rs).1 : Nat)), V "n" (.int (bl b : Nat))] (.head _) ?_ (by rw [List.length_map]; omega)
      refine st_thaw [V "r" (.int ((longdiv b (bl b) rs).1 : Nat)), V "n" (.int (bl b : Nat))] (.head _) (val_of_all rfl (by simp)) ?_
      refine s_assign (d := .int (q : Nat)) [V "r" (.int ((longdiv b (bl b) rs).1 : Nat))] (ev_call (gl_glob B rfl g2) F2 (evs_cons (ev_name (.head _)) (evs_cons (ev_name (.tail _ (.tail _ (.head _)))) evs_nil)) (by rw [← List.map_reverse, ← hrs]; exact c2) (Nat.le_refl _)) ?_
      exact st_ret (ev_tuple (evs_cons (ev_name (.head _)) (evs_cons (ev_name (.tail _ (.head _))) evs_nil)) (show 2 ≤ sizeLine by decide))
end
end
section
open PySem PySem.W PyProof.Rows PySem.Calls
set_option linter.unusedVariables false
set_option maxRecDepth 100000
section
variable {prog : Program} {w : World} {hb : Heap} {n : Nat} {mg mb : Str → Option Value}
theorem ct_intdm (B : Base hb mg mb) {nm : Str} {doc pm : Value} {ann : Option Addr} {cd ct : Value} (F : FnAt' hb 80 (fdSt (stN 9) (Str.ofString "int_divmod") nm doc pm ann cd ct)) {f1 : FuncData} (F1 : FnAt' hb 73 f1) (g1 : mg (Str.ofString "_divmod_pos") = some (.ref 73)) {m : Nat} (a b : Nat) (hb0 : 0 < b) {d : D}
    (c1 : Ct prog w hb 73 m [.int (a : Nat), .int (b : Nat)] d) : Ct prog w hb 80 (m + 1) [.int (a : Nat), .int (b : Nat)] d := by
  refine ct_intro B F [Str.ofString "a", Str.ofString "b"] rfl (fun vals hv => ?_) rfl (by decide +kernel) (fun x hx => ?_) ?_
  · match vals, hv with | [a, b], _ => rfl
  · simp only [List.mem_cons, List.not_mem_nil, or_false] at hx
    rcases hx with rfl | rfl <;> (left; rfl)
  · show St _ _ _ _ _ _ [V "a" (.int (a : Nat)), V "b" (.int (b : Nat))] _ _
    refine st_ifR' (evB_eq (show decide (b = 0) = false from decide_eq_false (by omega)) (nB_eq (ev_name (.tail _ (.head _))) (n_int (i := 0)))) ?_
    refine st_ifR' (evB_eq (show decide (b < 0) = false from decide_eq_false (by omega)) (nB_lt (ev_name (.tail _ (.head _))) (n_int (i := 0)))) ?_
    refine st_ifR' (evB_eq (show decide (a < 0) = false from decide_eq_false (by omega)) (nB_lt (ev_name (.head _)) (n_int (i := 0)))) ?_
    exact st_ret (ev_call (gl_glob B rfl g1) F1 (evs_cons (ev_name (.head _)) (evs_cons (ev_name (.tail _ (.head _))) evs_nil)) c1 (Nat.le_refl _))
end
end
section
open PySem PySem.W PyProof.Rows PySem.Calls
set_option linter.unusedVariables false
noncomputable def undigs (k : Nat) : List Nat → Nat
  | [] => 0
  | d :: r => d + 2 ^ k * undigs k r
noncomputable def digsN (a k len : Nat) : List Nat := (List.range len).map fun i => a / 2 ^ (k * i) % 2 ^ k
theorem longdiv_spec (b k : Nat) (hb : 0 < b) : ∀ ds : List Nat, (longdiv b k ds.reverse).1 = undigs k ds % b ∧ undigs k (longdiv b k ds.reverse).2.reverse = undigs k ds / b
  | [] => by simp [longdiv, undigs]
  | d :: r => by
    obtain ⟨h1, h2⟩ := longdiv_spec b k hb r
    have e : longdiv b k (d :: r).reverse = ldStep b k (longdiv b k r.reverse) d := by
      unfold longdiv; rw [List.reverse_cons, List.foldl_append]; rfl
    rw [e]
    simp only [ldStep, List.reverse_append, List.reverse_cons, List.reverse_nil, List.nil_append, List.singleton_append, undigs]
    rw [h1, h2]
    generalize undigs k r = V
    have hV := Nat.div_add_mod V b
    have key : d + 2 ^ k * V = (V % b * 2 ^ k + d) + b * (2 ^ k * (V / b)) := by
      have : 2 ^ k * V = 2 ^ k * (b * (V / b) + V % b) := by rw [hV]
      rw [this, Nat.mul_add, ← Nat.mul_assoc, Nat.mul_comm (2 ^ k) b, Nat.mul_assoc, Nat.mul_comm (2 ^ k) (V % b)]
      omega
    rw [key]
    constructor
    · rw [Nat.add_mul_mod_self_left]
    · rw [Nat.add_mul_div_left _ _ hb]
theorem digsN_succ (a k len : Nat) : digsN a k (len + 1) = a % 2 ^ k :: digsN (a / 2 ^ k) k len := by
  unfold digsN
  rw [List.range_succ_eq_map, List.map_cons, List.map_map]
  congr 1
  · simp
  · refine List.map_congr_left fun i _ => ?_
    simp only [Function.comp]
    rw [Nat.div_div_eq_div_mul, ← Nat.pow_add, Nat.mul_succ, Nat.add_comm]
theorem undigs_digsN (k : Nat) : ∀ (len a : Nat), a < 2 ^ (k * len) → undigs k (digsN a k len) = a
  | 0, a, h => by simp at h; subst h; rfl
  | len + 1, a, h => by
    rw [digsN_succ, undigs, undigs_digsN k len (a / 2 ^ k) ?_]
    · exact Nat.mod_add_div a (2 ^ k)
    · rw [Nat.div_lt_iff_lt_mul (Nat.two_pow_pos k), ← Nat.pow_add]
      rwa [Nat.mul_succ] at h
theorem digsN_lt (a k len : Nat) : ∀ d ∈ digsN a k len, d < 2 ^ k := fun d hd => by
  obtain ⟨i, _, rfl⟩ := List.mem_map.mp hd
  exact Nat.mod_lt _ (Nat.two_pow_pos k)
theorem digsN_length (a k len : Nat) : (digsN a k len).length = len := by simp [digsN]
end
section
open PySem PySem.W PyProof.Rows PySem.Calls
set_option linter.unusedVariables false
/-- the value of a row of coefficients at z -/
noncomputable def valB (z : Nat) : List Nat → Nat
  | [] => 0
  | c :: r => c + z * valB z r
theorem valB_div (z c V : Nat) (h : c < z) : (c + z * V) / z = V ∧ (c + z * V) % z = c := by
  constructor
  · rw [Nat.add_mul_div_left _ _ (by omega), Nat.div_eq_of_lt h, Nat.zero_add]
  · rw [Nat.add_mul_mod_self_left, Nat.mod_eq_of_lt h]
theorem restsTo_cons (number base k : Nat) : restsTo number base (k + 1) = number % base :: restsTo (number / base) base k := by
  unfold restsTo
  rw [List.range_succ_eq_map, List.map_cons, List.map_map]
  congr 1
  · simp
  · refine List.map_congr_left fun i _ => ?_
    simp only [Function.comp]
    rw [Nat.div_div_eq_div_mul, Nat.pow_succ, Nat.mul_comm]
theorem restsTo_val (z : Nat) : ∀ cs : List Nat, (∀ c ∈ cs, c < z) → restsTo (valB z cs) z cs.length = cs ∧ valB z cs / z ^ cs.length = 0
  | [], _ => by simp [restsTo, valB]
  | c :: r, h => by
    obtain ⟨h1, h2⟩ := restsTo_val z r fun d hd => h d (List.mem_cons_of_mem _ hd)
    obtain ⟨e1, e2⟩ := valB_div z c (valB z r) (h c List.mem_cons_self)
    rw [List.length_cons, restsTo_cons, valB, e2, e1, h1, Nat.pow_succ, Nat.mul_comm (z ^ r.length), ← Nat.div_div_eq_div_mul, e1, h2]
    exact ⟨rfl, rfl⟩
theorem undigs_val (k : Nat) : ∀ cs : List Nat, undigs k cs = valB (2 ^ k) cs
  | [] => rfl
  | c :: r => by rw [undigs, valB, undigs_val k r]
end
section
open PySem PySem.W PyProof.Rows PySem.Calls
set_option linter.unusedVariables false
set_option maxRecDepth 100000
section
variable {prog : Program} {w : World} {hb : Heap} {t : Bool} {n : Nat} {sc : Scope} {ρ ρ' : Vars} {R : Out} {rest : List Stmt} {mg mb : Str → Option Value}
theorem reps_repeat {h : Heap} {Z : List Addr} {ds : List D} {vs : List Value} (r : Reps h Z ds vs) : ∀ k : Nat, Reps h Z (List.replicate k ds).flatten (List.replicate k vs).flatten
  | 0 => by simpa using Reps.nil
  | k + 1 => by simpa [List.replicate_succ] using r.append (reps_repeat r k)
theorem mul_listH {A : Around} {E : Value → Shared → Prop} {s : Shared} {l : Addr} {items : Array Value} {k : Nat} {x : Int} {u : Tok} {Q : Value → Shared → Prop}
    (hl : s.heap.get? l = some { cls := .type "list", dict := none, data := .seq items k, slots := #[] })
    (hlo : -(2 ^ 63 : Int) ≤ x) (hhi : x < 2 ^ 63) (hsz : items.size * x.toNat ≤ 2 ^ 24)
    (h : Q (.ref s.heap.objs.size) { s with heap := s.heap.push { cls := .type "list", data := .seq (List.foldl (fun x1 x2 => x1 ++ x2) #[] (List.replicate (if items.isEmpty = true then 0 else x.toNat) items)) } }) :
    wpAny (model prog w) A (binaryOp .Mult (.ref l) (.int x u)) Q E s :=
  wpAny_binaryOp_repeat_ref (T := "list") (U := "int") (by decide) ⟨_, hl, rfl⟩ (fun s' => typeIs_int s' x u) noFill_list_mul F.fills_int_mul F.slot_int_rmul repeat_list F.slot_int_index.lookup
    (call_meets F.slot_int_rmul (typeIs_int s x u) F.entry_int_rmul (F.args_int_rmul_2 _ _) (int___rmul___int_list x u l items k)
      ⟨hl, rfl, ⟨_, hl, rfl⟩, call_meets F.slot_list_mul ⟨_, hl, rfl⟩ F.entry_list_mul (F.args_list_mul_2 _ _)
        (AutoListH.list___mul___list_int_3 l items k x u (by simp [Builtin.List.listFitsIndex]; omega) (by omega) (by simp [Builtin.List.listTooLong, sizeLine]; omega))
        ⟨hl, h⟩⟩)
/-- a list so many times -/
theorem evF_mulList {l r : Expr} {pos : Pos} {ds : List D} {k : Nat} (x : EvF prog w hb n sc ρ l ds) (y : Ev prog w hb n sc ρ r (.int (k : Nat))) (hk : k ≤ 100000) (hz : ds.length ≤ 100) (hne : ds ≠ []) :
    EvF prog w hb n sc ρ (.BinOp l .Mult r pos) (List.replicate k ds).flatten := fun A env Z s Q E hA he rl q => by
  refine wpAny_BinOp (x A env Z s _ E hA he rl fun a items s₁ hn hl hr k₁ => y A env Z s₁ _ E hA he (rl.ext k₁.ext) fun v s₂ hv k₂ => ?_)
  obtain ⟨u, rfl⟩ := rep_int hv
  obtain ⟨m, hm⟩ := hl
  have hm₂ := k₂.ext.keep _ _ rfl hm
  have hlen := hr.length
  simp only [Array.length_toList] at hlen
  have hsz : items.size * k ≤ 2 ^ 24 := by
    rw [hlen]
    exact Nat.le_trans (Nat.mul_le_mul hz hk) (by decide)
  refine mul_listH hm₂ (by omega) (by omega) (by rw [Int.toNat_natCast]; exact hsz) ?_
  have e : ∀ o : Obj, Ext hb s₂.heap (s₂.heap.push o) := fun o => Ext.push _
  have fr : s₂.heap.get? s₂.heap.objs.size = none := Heap.get?_none_of_le (Nat.le_refl _)
  have hie : items.isEmpty = false := by
    cases ds with
    | nil => exact absurd rfl hne
    | cons d ds => rw [Array.isEmpty_eq_false_iff]; intro e; rw [e] at hlen; simp at hlen
  refine q _ _ _ ((k₁.trans k₂).ext.none fr) ⟨0, Heap.get?_push_size _ rfl⟩ ?_ ((k₁.trans k₂).trans (.of (e _)))
  rw [hie, listMul_foldl]
  simp only [Bool.false_eq_true, if_false, Int.toNat_natCast, List.nil_append]
  have hr₂ : Reps s₂.heap Z ds items.toList := (hr.less (W := [a])).ext k₂.ext
  have := (reps_repeat hr₂ k).more (W := [s₂.heap.objs.size]) fun b m => by simp at m; subst m; exact fr
  exact this.ext (e _)
end
end
section
open PySem PySem.W PyProof.Rows PySem.Calls
set_option linter.unusedVariables false
theorem VarAt.kb {env : Env} {hb h h' : Heap} {x : Str} {u : Value} {l : Addr} {items : Array Value} (v : VarAt env h x u) (lo : h.IsList l items) (kb : Kb hb [l] h h') : VarAt env h' x u := by
  rcases v with ⟨a1, m, a2, a3⟩ | ⟨a1, c, a2, a3⟩
  · exact .inl ⟨a1, m, Ns.off a2 fun o t e => kb.keep _ o (by
      simp only [List.mem_singleton]; rintro e'
      obtain ⟨o', es, ep, ho', hd', _⟩ := a2; obtain ⟨o₂, ho₂, _, n₂, hd₂⟩ := lo
      rw [e', ho₂] at ho'; cases ho'; rw [hd₂] at hd'; cases hd') t e, a3⟩
  · exact .inr ⟨a1, c, a2, IsCell.off a3 fun o t e => kb.keep _ o (by
      simp only [List.mem_singleton]; rintro e'
      obtain ⟨o', ho', hd'⟩ := a3; obtain ⟨o₂, ho₂, _, n₂, hd₂⟩ := lo
      rw [e', ho₂] at ho'; cases ho'; rw [hd₂] at hd'; cases hd') t e⟩
section
variable {prog : Program} {w : World} {hb : Heap} {t : Bool} {n : Nat} {sc : Scope} {ρ ρ' : Vars} {R : Out} {rest : List Stmt} {mg mb : Str → Option Value}
/-- my own list turns (all else is kept) -/
theorem Act.turnK {env : Env} {h₀ hs h h' : Heap} {Y Z : List Addr} {ρ' : Vars} {x : Str} {pl₀ pl : Bool} {ds₀ ds : List D} {l : Addr} {items : Array Value} (a : Act hb env h₀ hs Y Z h ρ) (hx : (x, Slot.own pl₀ ds₀) ∈ ρ) (hl : VarAt env h x (.ref l)) (kb : Kb hb [l] h h')
    (hn : h'.IsList l items ∧ (pl = true → h'.PlainList l items)) (hr : Reps h' (Y ++ Z) ds items.toList) (hρ : ∀ p ∈ ρ', p ∈ ρ ∧ ∃ d, p.2 = .val d) : Act hb env h₀ hs Y Z h' ((x, .own pl ds) :: ρ') := by
  obtain ⟨l', items₀, v', lo, _⟩ := a.rel.own x pl₀ ds₀ hx
  have : l = l' := Value.ref.inj (hl.fn v')
  subst this
  obtain ⟨b, hY, vb⟩ := a.own x pl₀ ds₀ hx
  have : l = b := Value.ref.inj (hl.fn vb)
  subst this
  have mY : ∀ b ∈ [l], b ∈ Y := fun b m => by simp at m; subst m; exact hY
  have mYZ : ∀ b ∈ [l], b ∈ Y ++ Z := fun b m => List.mem_append_left _ (mY b m)
  have st_ne : ∀ y q, StoreAt env h y q → q ≠ l := fun y q s e => list_ne_store s _ _ lo.1 e.symm
  have va : ∀ y u, VarAt env h y u → VarAt env h' y u := fun y u v => v.kb lo.1 kb
  refine ⟨Rel.of_slots (kb.g a.rel.g) a.rel.kind a.rel.glob a.rel.blt (fun b m => ?_) (fun y sl' m => ?_), a.g₀, kb.toExt a.kept fun b m => by simp at m; subst m; exact a.fresh _ hY, a.kb.trans (kb.more mY), a.fresh,
    fun y hy => ?_, a.apart, a.noL, fun y pl es hm => ?_, a.yz⟩
  · by_cases e : b = l
    · subst e; exact (nice_list hn.1).ntab
    · obtain ⟨o, ho', t⟩ := a.rel.live b m
      exact ⟨o, kb.keep b o (by simpa using e) t ho', t⟩
  · rcases List.mem_cons.mp m with e | m
    · cases e; exact ⟨l, items, va _ _ hl, hn, hr⟩
    · obtain ⟨d, e⟩ := (hρ _ m).2
      refine (a.rel.slot (hρ _ m).1).kb kb mYZ (va y) fun pl ds e' => ?_
      simp only at e; rw [e] at e'; cases e'
  · obtain ⟨q, m, s⟩ := a.st y hy
    exact ⟨q, m, s.off fun o t e => kb.keep _ o (by simpa using st_ne y q s) t e⟩
  · rcases List.mem_cons.mp hm with e | hm
    · cases e; exact ⟨l, hY, va _ _ hl⟩
    · obtain ⟨d, e⟩ := (hρ _ hm).2
      simp only at e; cases e
/-- a function object: its record, its code -/
structure FnO (h : Heap) (f : Addr) (fd : FuncData) : Prop where
  at_ : ∃ o, h.get? f = some o ∧ o.data = .func fd
  code : ∃ c o vs t, fd.code = .ref c ∧ h.get? c = some o ∧ o.cls = .type "code" ∧ o.data = .fields vs ∧ vs[1]? = some (.str fd.qualname t)
theorem tab_func {o : Obj} {fd : FuncData} (h : o.data = .func fd) : tabLike o = false := by unfold tabLike; rw [h]; split <;> simp_all
theorem FnO.kb {h h' : Heap} {f : Addr} {fd : FuncData} {l : Addr} {items : Array Value} (x : FnO h f fd) (lo : h.IsList l items) (kb : Kb hb [l] h h') : FnO h' f fd := by
  obtain ⟨⟨o, ho, hd⟩, c, oc, vs, t, hc, hoc, hcc, hcd, hq⟩ := x
  obtain ⟨o₂, ho₂, hc₂, n₂, hd₂⟩ := lo
  refine ⟨⟨o, kb.keep _ o (by simp only [List.mem_singleton]; rintro rfl; rw [ho₂] at ho; cases ho; rw [hd₂] at hd; cases hd) (tab_func hd) ho, hd⟩, c, oc, vs, t, hc, kb.keep _ oc (by simp only [List.mem_singleton]; rintro rfl; rw [ho₂] at hoc; cases hoc; rw [hd₂] at hcd; cases hcd) (tabLike_cls hcc) hoc, hcc, hcd, hq⟩
theorem FnO.ext {h h' : Heap} {f : Addr} {fd : FuncData} (x : FnO h f fd) (e : Ext hb h h') : FnO h' f fd := by
  obtain ⟨⟨o, ho, hd⟩, c, oc, vs, t, hc, hoc, hcc, hcd, hq⟩ := x
  exact ⟨⟨o, e.keep _ _ (tab_func hd) ho, hd⟩, c, oc, vs, t, hc, e.keep _ _ (tabLike_cls hcc) hoc, hcc, hcd, hq⟩
/-- a call of a name that holds a function object -/
theorem x_call {A : Around} {env : Env} (hA : Rm n A) (he : env.scope = sc) {Z : List Addr} {s : Shared} {x : Str} {p pos : Pos} {e : Expr} {es : List Expr} {ds : List D} {f : Addr} {fd : FuncData} {Q : Value → Shared → Prop} {E : Value → Shared → Prop} (rl : Rel hb env Z s.heap ρ)
    (ef : Ev prog w hb n sc ρ (.Name x p) (.obj f)) (F : FnO s.heap f fd) (ha : Evs prog w hb n sc ρ (e :: es) ds)
    (k : ∀ vs s₁, Reps s₁.heap Z ds vs → Kp hb s s₁ → wpAny (model prog w) A (call (.ref f) vs) Q E s₁)
    (hs : ∀ env, starEach (e :: es) env = (false, eval e env) :: starEach es env := by intro _; rfl) :
    wpAny (model prog w) A (eval (.Call (.Name x p) (e :: es) [] pos) env) Q E s := by
  refine Call_Name rfl (ef A env Z s _ E hA he rl fun v s₁ hv k₁ => ?_)
  rw [Rep] at hv
  subst hv
  obtain ⟨o, ho, hd⟩ := F.at_
  have ho₁ := k₁.ext.keep _ _ (tab_func hd) ho
  exact callWith_def (o := o) hd (ha A env Z s₁ _ E pos hA he (rl.ext k₁.ext) fun vs s₂ hr k₂ => ⟨k₂.ext.keep _ _ (tab_func hd) ho₁, k vs s₂ hr (k₁.trans k₂)⟩) (hs env)
end
end
section
open PySem PySem.W PyProof.Rows PySem.Calls
set_option linter.unusedVariables false
set_option maxRecDepth 100000
theorem lookup_mem_nodup {α : Type} : ∀ {l : List (Str × α)} {x : Str} {v : α}, (l.map (·.1)).Nodup → (x, v) ∈ l → l.lookup x = some v
  | [], _, _, _, h => nomatch h
  | (y, u) :: r, x, v, hn, h => by
    rw [List.map_cons, List.nodup_cons] at hn
    rw [List.lookup_cons]
    rcases List.mem_cons.mp h with e | h
    · cases e; simp
    · have : (x == y) = false := beq_eq_false_iff_ne.mpr (by intro e; exact hn.1 (List.mem_map.mpr ⟨(x, v), h, e⟩))
      rw [this]; exact lookup_mem_nodup hn.2 h
noncomputable def CapAt (h : Heap) (Yo Z : List Addr) (v : Value) : Slot → Prop
  | .val d => Rep h (Yo ++ Z) d v
  | .own pl ds => ∃ l items, v = .ref l ∧ l ∈ Yo ∧ (h.IsList l items ∧ (pl = true → h.PlainList l items)) ∧ Reps h (Yo ++ Z) ds items.toList
section
variable {prog : Program} {w : World} {hb : Heap} {t : Bool} {n : Nat} {sc : Scope} {ρ ρ' : Vars} {R : Out} {rest : List Stmt} {mg mb : Str → Option Value}
/-- a call of a closure -/
theorem clo_call (B : Base hb mg mb) {f : Addr} {fd : FuncData} {body : List Stmt} (names : List Str) {ds : List D} (hbody : fd.body = .stmts body)
    (hbind : ∀ vals : List Value, vals.length = ds.length → bindArgs fd ⟨vals, []⟩ = pure (names.zip vals)) (hlen : names.length = ds.length) (hnd : names.Nodup)
    (hnm : ∀ x ∈ names, fd.scope.names.lookup x = some .local) (hcell : ∀ x ∈ fd.scope.names, x.2 ≠ .cell) (hglob : fd.globals = mainGlobals) (hblt : fd.builtins = builtinsNs) (caps : Vars)
    {A : Around} {Z Yo : List Addr} {h₀ : Heap} {s : Shared} {vals : List Value} {Q : Value → Shared → Prop} {E : Value → Shared → Prop} (hA : Rm (n + 1) A) (F : FnO s.heap f fd) (hg : G hb s.heap) (g₀ : G hb h₀) (kept : Ext hb h₀ s.heap)
    (hY : ∀ a ∈ Yo, h₀.get? a = none) (nY : ∀ a ∈ Yo, Nice s.heap a) (hZ : ∀ a ∈ Z, ∃ o, s.heap.get? a = some o ∧ tabLike o = false) (yz : ∀ a ∈ Yo, a ∉ Z)
    (hap : ∀ x y q, fd.closure.lookup x = some q → fd.closure.lookup y = some q → x = y) (hlv : ∀ x q, fd.closure.lookup x = some q → ∃ o, s.heap.get? q = some o)
    (hcaps : ∀ x sl, (x, sl) ∈ caps → fd.scope.names.lookup x = some .free ∧ ∃ c v, fd.closure.lookup x = some c ∧ s.heap.IsCell c (some v) ∧ CapAt s.heap Yo Z v sl)
    (hr : Reps s.heap (Yo ++ Z) ds vals)
    (k : ∀ A' env h₁ tk E', Rm n A' → env.scope = fd.scope → s.heap.get? env.locals = none → Act hb env h₀ s.heap (env.locals :: Yo) Z h₁ (names.zip (ds.map .val) ++ caps) →
      wpAny (model prog w) A' (execs body env) (fun fl s' => Q (match fl with | .ret v => v | _ => .none) s') E' { s with heap := h₁, toks := tk })
    (hco : fd.scope.isCoroutine = false := by rfl) (hgen : fd.scope.isGenerator = false := by rfl) (hk : fd.scope.kind = .function := by rfl) : wpAny (model prog w) A (call (.ref f) vals) Q E s := by
  obtain ⟨o, ho, hd⟩ := F.at_
  obtain ⟨c, oc, vs, tk, hc, hoc, hcc, hcd, hq⟩ := F.code
  have vlen := hr.length
  refine wpAny_call (codeAny_call_function (o := o) (fd := fd) (by have := hA.dp; unfold recursionLimit; omega) ho hd hco hgen hbody ⟨c, oc, vs, tk, hc, hoc, hcd, hq⟩ ?_)
  rw [hbind vals vlen]
  refine wpAny_pure (wpAny_newFunctionEnv hcell (fun x hx => hnm _ (List.of_mem_zip hx).1) (fun h' hn hsb => ?_) hk)
  have full : ∀ b o, s.heap.get? b = some o → h'.get? b = some o := fun b o e => (hsb.2 b (Nat.ne_of_lt (Heap.lt_size e))).trans (Heap.get?_push_of_some _ e)
  have ex : Ext hb s.heap h' := Ext.full full
  refine ⟨?_, codeAny_func ?_⟩
  · obtain ⟨mc, a, b⟩ := B.lim
    exact ⟨mc, ntab_ns a fun b o t e => full _ _ (hg.old b o t e), b⟩
  generalize hE : newEnv fd.scope s.heap.objs.size fd.globals fd.closure (fd.qualname ++ ".<locals>.") (some f) fd.code none fd.builtins = env
  have eL : env.locals = s.heap.objs.size := by rw [← hE]; rfl
  have eS : env.scope = fd.scope := by rw [← hE]; rfl
  have eC : env.cells = fd.closure := by rw [← hE]; rfl
  have kindE : ∀ x, env.kindOf x = fd.scope.names.lookup x := fun x => by show env.scope.names.lookup x = _; rw [eS]
  have dead : s.heap.get? env.locals = none := by rw [eL]; exact Heap.get?_none_of_le (Nat.le_refl _)
  rw [← eL] at hn
  have mem : ∀ b, b ∈ env.locals :: Yo ++ Z → b = env.locals ∨ b ∈ Yo ++ Z := fun b m => by
    rcases List.mem_append.mp m with m | m
    · rcases List.mem_cons.mp m with m | m
      · exact .inl m
      · exact .inr (List.mem_append_left _ m)
    · exact .inr (List.mem_append_right _ m)
  have up : ∀ {d v}, Rep s.heap (Yo ++ Z) d v → Rep h' (env.locals :: Yo ++ Z) d v := fun {d v} x => (x.more (W := [env.locals]) fun b m => by simp at m; subst m; exact dead).ext ex
  have ups : ∀ {d v}, Reps s.heap (Yo ++ Z) d v → Reps h' (env.locals :: Yo ++ Z) d v := fun {d v} x => (x.more (W := [env.locals]) fun b m => by simp at m; subst m; exact dead).ext ex
  have cap : ∀ x sl, (x, sl) ∈ caps → ∃ v, VarAt env h' x v ∧ CapAt s.heap Yo Z v sl := fun x sl m => by
    obtain ⟨hf, c, v, h1, h2, h3⟩ := hcaps x sl m
    exact ⟨v, .inr ⟨.inr (by rw [kindE, hf]), c, by rw [eC]; exact h1, h2.keeps full⟩, h3⟩
  have act : Act hb env h₀ s.heap (env.locals :: Yo) Z h' (names.zip (ds.map .val) ++ caps) := by
    refine ⟨⟨hg.mono full, by rw [eS]; exact hk, by rw [← hE]; exact hglob, by rw [← hE]; exact hblt, fun b m => ?_, fun x d' m => ?_, fun x pl es m => ?_⟩, g₀, kept.trans ex, Kb.ext ex, fun b m => ?_, fun x hx => ?_, fun x y q h1 h2 => hap x y q (by rw [← eC]; exact h1) (by rw [← eC]; exact h2), fun y q hq' e => ?_, fun x pl es m => ?_, fun b m mz => ?_⟩
    · rcases mem b m with rfl | m
      · exact (nice_ns hn).ntab
      · rcases List.mem_append.mp m with m | m
        · exact ((nY b m).ext ex).ntab
        · obtain ⟨o', ho', t'⟩ := hZ b m
          exact ⟨o', full b o' ho', t'⟩
    · rcases List.mem_append.mp m with m | m
      · obtain ⟨i, d'', v, e1, e2, e3, e4⟩ := zip_val vlen m
        cases e3
        obtain ⟨v', e5, r⟩ := hr.get e1
        rw [e2] at e5; cases e5
        have hnd' : ((names.zip vals).map (·.1)).Nodup := by
          rw [List.map_fst_zip (by rw [hlen, vlen]; exact Nat.le_refl _)]; exact hnd
        refine ⟨v, .inl ⟨by rw [kindE]; exact hnm x (List.of_mem_zip e4).1, _, hn, ?_⟩, up r⟩
        exact lookup_mem_nodup (by rw [List.map_reverse]; exact (List.reverse_perm _).nodup_iff.mpr hnd') (List.mem_reverse.mpr e4)
      · obtain ⟨v, h1, h2⟩ := cap x _ m
        exact ⟨v, h1, up h2⟩
    · rcases List.mem_append.mp m with m | m
      · obtain ⟨i, d'', v, e1, e2, e3, e4⟩ := zip_val vlen m
        cases e3
      · obtain ⟨v, h1, l, items, rfl, h2, h3, h4⟩ := cap x _ m
        exact ⟨l, items, h1, OwnList.off h3 fun o _ e => full _ _ e, ups h4⟩
    · rcases List.mem_cons.mp m with rfl | m
      · exact kept.none dead
      · exact hY b m
    · rcases hx with q | q
      · exact ⟨env.locals, List.mem_cons_self, .inl ⟨q, rfl, _, hn⟩⟩
      · rw [kindE] at q
        exact absurd rfl (hcell _ (mem_of_lookup q))
    · rw [eC] at hq'
      obtain ⟨o', ho'⟩ := hlv y q hq'
      rw [e, dead] at ho'; cases ho'
    · rcases List.mem_append.mp m with m | m
      · obtain ⟨i, d'', v, e1, e2, e3, e4⟩ := zip_val vlen m
        cases e3
      · obtain ⟨v, h1, l, items, rfl, h2, h3, h4⟩ := cap x _ m
        exact ⟨l, List.mem_cons_of_mem _ h2, h1⟩
    · rcases List.mem_cons.mp m with rfl | m
      · obtain ⟨o', ho', _⟩ := hZ _ mz
        rw [dead] at ho'; cases ho'
      · exact yz b m mz
  exact k (A.deeper env) env h' _ _ ⟨hA.hd, by have := hA.dp; simp only [Around.deeper] at *; omega, by have := hA.un; simp only [Around.deeper] at *; omega⟩ eS dead act
/-- an inner def -/
theorem mk_inner (B : Base hb mg mb) {A : Around} {env : Env} {s : Shared} {Q : Value → Shared → Prop} {E : Value → Shared → Prop} {c P : Addr} {name qual : Str} {params : Arguments} {body : List Stmt} {scope : Scope} {pos : Pos} {firstLine : Nat} {q : Str × Addr} {r : List (Str × Addr)}
    (hcl : closureFor scope env = pure (q :: r)) (hglob : env.globals = mainGlobals) (hcode : env.code = .ref c) (C : CodeHd hb c P) (g : G hb s.heap) (hbi : hb.BuiltinsAt mg P) (hgP : mainGlobals ≠ P)
    (tab : Tab1 P pos.line pos.col qual s.heap) (hP : ∀ h h', Heap.ExtBut P h h' → Tab1 P pos.line pos.col qual h' → TabOk h → TabOk h')
    (k : ∀ f fd h' tk, fd.qualname = qual → fd.params = params → fd.body = .stmts body → fd.scope = scope → fd.closure = q :: r → fd.globals = mainGlobals → fd.builtins = builtinsNs → fd.defaults = .none → fd.kwdefaults = .none →
      FnO h' f fd → s.heap.get? f = none → Ext hb s.heap h' → Q (.ref f) { s with heap := h', toks := tk }) (hPP : P = 54 ∨ P = 61 := by decide) :
    wpAny (model prog w) A (makeFunction name qual params (.stmts body) scope env [] [] [] pos firstLine) Q E s := by
  have C' : CodeHd s.heap c P := let ⟨o, vs, file, tf, flags, tg, inF, text, tt, e, hc, r⟩ := C; ⟨o, vs, file, tf, flags, tg, inF, text, tt, g.old _ _ (tabLike_cls hc) e, hc, r⟩
  obtain ⟨bm, ob, hbm, hne0, hbG, hneP, hbo, hcls, hdict, hdata⟩ := hbi
  have hbo' := g.old _ _ (tabLike_cls hcls) hbo
  have hg : s.heap.Ns mainGlobals mg := ntab_ns B.ng g.old
  rcases tab with hP0 | ⟨c', oc, fs, t', hP1, hoc, hcc, hcd, hq⟩
  · rw [makeFunction_eq]
    simp only [List.zip_nil_right, List.filterMap_nil, List.isEmpty_nil, if_true, pure_bind]
    unfold makeTail
    rw [hcl, hglob]
    refine wpAny_bind (wpAny_pure ?_)
    simp only [List.isEmpty_cons, Bool.false_eq_true, if_false]
    refine wpAny_bind (wpAny_newTextTuple ?_)
    generalize hoT : Obj.mk _ _ _ _ = oT
    have ck : CodeHd (s.heap.push oT) c P := C'.keeps fun b o e => Heap.get?_push_of_some _ e
    have pk : (s.heap.push oT).get? P = some (tabObj #[]) := Heap.get?_push_of_some _ hP0
    refine wpAny_bind (wpAny_functionCodeX hcode (ck.code pk trivial) (ck.tab pk) rfl fun c' h' tk hx hge hlt _ hrec htb hnew => ?_)
    obtain ⟨P', _, _, htb'⟩ := hnew
    obtain ⟨⟨oc, vc, hoc, hcc, hdc, _⟩, _⟩ := htb'
    obtain ⟨c₂, o₂, vs₂, t₂, e₂, g₂, gd, gq⟩ := hrec
    cases e₂
    rw [hoc] at g₂; cases g₂
    have hg' := (hg.push oT).extBut hx hgP
    have hx' : Heap.ExtBut P s.heap h' := fun b o hb' e => hx b o hb' (Heap.get?_push_of_some _ e)
    refine wpAny_bind (wpAny_builtinsFor hg' hbm hne0 (hx' _ _ hneP hbo') hcls hdict hdata ?_)
    refine wpAny_bind (wpAny_nsGet hg' ?_)
    have fin : ∀ (dc ct pm : Value) (tk' : Tok) (fo : Obj), fo = { cls := .type "function", data := .func ⟨name, qual, params, .stmts body, scope, mainGlobals, q :: r, .none, .none, dc, pm, none, .ref c', ct, builtinsNs⟩ } → Q (.ref h'.objs.size) { s with heap := h'.push fo, toks := tk' } := fun dc ct pm tk' fo efo => by
      subst efo
      refine k _ _ _ _ rfl rfl rfl rfl rfl rfl rfl rfl rfl ⟨⟨_, Heap.get?_push_size _ rfl, rfl⟩, c', oc, vs₂, t₂, rfl, Heap.get?_push_of_some _ hoc, hcc, gd, gq⟩ (Heap.get?_none_of_le ?_) ?_
      · have h1 : s.heap.objs.size ≤ (s.heap.push oT).objs.size := by rw [Heap.size_push]; omega
        exact Nat.le_trans h1 (Nat.le_trans hge (Nat.le_of_lt hlt))
      · have hx2 : Heap.ExtBut P s.heap (h'.push { cls := .type "function", data := .func ⟨name, qual, params, .stmts body, scope, mainGlobals, q :: r, .none, .none, dc, pm, none, .ref c', ct, builtinsNs⟩ }) := hx'.push _
        have newT : Tab1 P pos.line pos.col qual (h'.push { cls := .type "function", data := .func ⟨name, qual, params, .stmts body, scope, mainGlobals, q :: r, .none, .none, dc, pm, none, .ref c', ct, builtinsNs⟩ }) :=
          .inr ⟨c', oc, vs₂, t₂, Heap.get?_push_of_some _ htb.2, Heap.get?_push_of_some _ hoc, hcc, gd, gq⟩
        have ne : ∀ b o, tabLike o = false → s.heap.get? b = some o → b ≠ P := fun b o ht e eb => by
          rw [eb, hP0] at e; cases e; cases ht
        have live : ∀ b o, s.heap.get? b = some o → ∃ o', (h'.push { cls := .type "function", data := .func ⟨name, qual, params, .stmts body, scope, mainGlobals, q :: r, .none, .none, dc, pm, none, .ref c', ct, builtinsNs⟩ }).get? b = some o' := fun b o e => by
          by_cases eb : b = P
          · rw [eb]; exact ⟨_, Heap.get?_push_of_some _ htb.2⟩
          · exact ⟨o, hx2 b o eb e⟩
        exact ⟨fun b o ht e => hx2 b o (ne b o ht e) e, live, fun gg => ⟨fun b o ht e => hx2 b o (ne b o ht (gg.old b o ht e)) (gg.old b o ht e), fun b o e => let ⟨o', e'⟩ := gg.live b o e; live b o' e', hP _ _ hx2 newT gg.tab, fun b o h1 h2 e => hx2 b o (fun eb => hPP.elim (fun p => h1 (eb.trans p)) fun p => h2 (eb.trans p)) (gg.oth b o h1 h2 e)⟩⟩
    cases hdoc : docOf body with
    | none => exact wpAny_bind (wpAny_pure (wpAny_newObj_type (fin _ _ _ _ _ rfl) (by size_fits)))
    | some t => exact wpAny_bind (wpAny_mkText (wpAny_newObj_type (fin _ _ _ _ _ rfl) (by size_fits)))
  · have hca : codeAmong pos #[rawInt pos.line, rawInt pos.col, .ref c'].toList = some (.ref c') := by
      have := codeAmong_snoc (pos := pos) (c := .ref c') [] trivial rfl
      exact this
    refine makeFunction_hit (mg := mg) hcl hglob hg hcode C' hP1 ?_ hca ⟨bm, ob, hbm, hne0, hbG, hneP, hbo', hcls, hdict, hdata⟩ fun ctv doc h' tk hk hsz => ?_
    · show TriplesOk [rawInt pos.line, rawInt pos.col, .ref c']
      unfold rawInt TriplesOk; trivial
    · exact k _ _ _ _ rfl rfl rfl rfl rfl rfl rfl rfl rfl ⟨⟨_, Heap.get?_push_size _ rfl, rfl⟩, c', oc, fs, t', rfl, Heap.get?_push_of_some _ (hk _ _ hoc), hcc, hcd, hq⟩ (Heap.get?_none_of_le hsz)
        (Ext.full fun b o e => Heap.get?_push_of_some _ (hk b o e))
end
theorem tabOk54 : ∀ h h' : Heap, Heap.ExtBut 54 h h' → Tab1 54 36 4 "_int2digits.<locals>.inner" h' → TabOk h → TabOk h' := fun h h' x t ⟨a, b⟩ => by
  refine ⟨t, ?_⟩
  have nc : ∀ c o, h.get? c = some o → o.cls = .type "code" → c ≠ 54 := fun c o e hc q => by
    subst q
    rcases a with a | ⟨_, _, _, _, a, _⟩ <;> (rw [a] at e; cases e; cases hc)
  rcases b with b | ⟨c, oc, fs, t', b1, b2, b3, b4⟩
  · exact .inl (x _ _ (by decide) b)
  · exact .inr ⟨c, oc, fs, t', x _ _ (by decide) b1, x _ _ (nc _ _ b2 b3) b2, b3, b4⟩
theorem tabOk61 : ∀ h h' : Heap, Heap.ExtBut 61 h h' → Tab1 61 51 4 "_digits2int.<locals>.inner" h' → TabOk h → TabOk h' := fun h h' x t ⟨b, a⟩ => by
  refine ⟨?_, t⟩
  have nc : ∀ c o, h.get? c = some o → o.cls = .type "code" → c ≠ 61 := fun c o e hc q => by
    subst q
    rcases a with a | ⟨_, _, _, _, a, _⟩ <;> (rw [a] at e; cases e; cases hc)
  rcases b with b | ⟨c, oc, fs, t', b1, b2, b3, b4⟩
  · exact .inl (x _ _ (by decide) b)
  · exact .inr ⟨c, oc, fs, t', x _ _ (by decide) b1, x _ _ (nc _ _ b2 b3) b2, b3, b4⟩
end
section
open PySem PySem.W PyProof.Rows PySem.Calls
set_option linter.unusedVariables false
set_option maxRecDepth 100000
section
variable {prog : Program} {w : World} {hb : Heap} {t : Bool} {n : Nat} {sc : Scope} {ρ ρ' : Vars} {R : Out} {rest : List Stmt} {mg mb : Str → Option Value}
theorem FnO.kbW {h h' : Heap} {W : List Addr} {f : Addr} {fd : FuncData} (x : FnO h f fd) (kb : Kb hb W h h') (hf : f ∉ W) (nice : ∀ b ∈ W, Nice h b) : FnO h' f fd := by
  obtain ⟨⟨o, ho, hd⟩, c, oc, vs, t, hc, hoc, hcc, hcd, hq⟩ := x
  refine ⟨⟨o, kb.keep _ o hf (tab_func hd) ho, hd⟩, c, oc, vs, t, hc, kb.keep _ oc (fun m => ?_) (tabLike_cls hcc) hoc, hcc, hcd, hq⟩
  obtain ⟨o₂, ho₂, hn⟩ := nice c m
  rw [hoc] at ho₂; cases ho₂
  exact niceO_code hn hcd hcc
theorem store_name {A : Around} {env : Env} (he : env.scope = sc) {h₀ hs : Heap} {Y Z : List Addr} {s : Shared} {x : Str} {d : D} {v : Value} {Q : Unit → Shared → Prop} {E : Value → Shared → Prop} (ρ' : Vars) (a : Act hb env h₀ hs Y Z s.heap ρ) (hv : Rep s.heap (Y ++ Z) d v)
    (hx : sc.names.lookup x = some .local ∨ sc.names.lookup x = some .cell) (hρ : ∀ p ∈ ρ', p ∈ ρ ∧ p.1 ≠ x)
    (k : ∀ q h' tk, Act hb env h₀ hs Y Z h' ((x, .val d) :: ρ') → q ∈ Y → Nice s.heap q → Kb hb [q] s.heap h' → Q () { s with heap := h', toks := tk }) : wpAny (model prog w) A (storeName env x v) Q E s := by
  obtain ⟨q, hq, sa⟩ := a.st x (by show env.scope.names.lookup x = _ ∨ env.scope.names.lookup x = _; rw [he]; exact hx)
  exact store_var a.rel.kind sa (a.hap sa) fun h' tk hs' sa' va' vo' => k q h' tk (a.bind hq sa hs' sa' va' hv vo' hρ) hq sa.nice (Kb.same hs' sa.nice (a.hbfr hq))
theorem cell_of {env : Env} {h : Heap} {x : Str} {v : Value} (va : VarAt env h x v) (hk : env.kindOf x = some .cell ∨ env.kindOf x = some .free) : ∃ c, env.cells.lookup x = some c ∧ h.IsCell c (some v) := by
  rcases va with ⟨a, _⟩ | ⟨_, c, b, d⟩
  · rcases hk with hk | hk <;> (rw [a] at hk; cases hk)
  · exact ⟨c, b, d⟩
/-- what a closure captured -/
structure Clo (h : Heap) (Yo Z : List Addr) (f : Addr) (fd : FuncData) (caps : Vars) : Prop where
  fn : FnO h f fd
  hap : ∀ x y q, fd.closure.lookup x = some q → fd.closure.lookup y = some q → x = y
  hlv : ∀ x q, fd.closure.lookup x = some q → ∃ o, h.get? q = some o
  cap : ∀ x sl, (x, sl) ∈ caps → ∃ c v, fd.closure.lookup x = some c ∧ h.IsCell c (some v) ∧ CapAt h Yo Z v sl
theorem CapAt.ext {h h' : Heap} {Yo Z : List Addr} {v : Value} {sl : Slot} (x : CapAt h Yo Z v sl) (e : Ext hb h h') : CapAt h' Yo Z v sl := by
  cases sl with
  | val d => exact Rep.ext x e
  | own pl ds => obtain ⟨l, items, rfl, a, b, c⟩ := x; exact ⟨l, items, rfl, a, OwnList.off b fun o => e.keep _ o, c.ext e⟩
theorem CapAt.more {h : Heap} {Z W : List Addr} {v : Value} {sl : Slot} (x : CapAt h [] Z v sl) (hw : ∀ a ∈ W, h.get? a = none) : CapAt h [] (W ++ Z) v sl := by
  cases sl with
  | val d => exact Rep.more (Z := Z) x hw
  | own pl ds => obtain ⟨l, items, rfl, a, b, c⟩ := x; nomatch a
theorem Clo.ext {h h' : Heap} {Yo Z : List Addr} {f : Addr} {fd : FuncData} {caps : Vars} (x : Clo h Yo Z f fd caps) (e : Ext hb h h') : Clo h' Yo Z f fd caps :=
  ⟨x.fn.ext e, x.hap, fun y q hq => let ⟨o, ho⟩ := x.hlv y q hq; e.live q o ho, fun y sl m => let ⟨c, v, a, b, d⟩ := x.cap y sl m; ⟨c, v, a, IsCell.off b fun o => e.keep _ o, d.ext e⟩⟩
theorem Clo.more {h : Heap} {Z W : List Addr} {f : Addr} {fd : FuncData} {caps : Vars} (x : Clo h [] Z f fd caps) (hw : ∀ a ∈ W, h.get? a = none) : Clo h [] (W ++ Z) f fd caps :=
  ⟨x.fn, x.hap, x.hlv, fun y sl m => let ⟨c, v, a, b, d⟩ := x.cap y sl m; ⟨c, v, a, b, d.more hw⟩⟩
/-- a closure just made, of names that are cells here -/
theorem Clo.of {env : Env} {h₀ hs h : Heap} {Y Z : List Addr} {f : Addr} {fd : FuncData} {scope : Scope} (a : Act hb env h₀ hs Y Z h ρ) (F : FnO h f fd) (hcl : fd.closure = clOf env scope.names [])
    (hfree : ∀ y, (y, NameKind.free) ∈ scope.names → env.kindOf y = some .cell) (caps : Vars) (hcaps : ∀ x d, (x, Slot.val d) ∈ caps → (x, Slot.val d) ∈ ρ ∧ (x, NameKind.free) ∈ scope.names) (hv : ∀ x sl, (x, sl) ∈ caps → ∃ d, sl = .val d) :
    Clo h [] (Y ++ Z) f fd caps := by
  have hc : ∀ y, (y, NameKind.free) ∈ scope.names → ∃ c, env.cells.lookup y = some c := fun y hy => by
    obtain ⟨q, _, sa⟩ := a.st y (.inr (hfree y hy))
    rcases sa with ⟨b1, _⟩ | ⟨_, b2, _⟩
    · rw [hfree y hy] at b1; cases b1
    · exact ⟨q, b2⟩
  have cm := clOf_mem (env := env) scope.names [] hc (fun _ m => nomatch m)
  have lk : ∀ x q, fd.closure.lookup x = some q → env.cells.lookup x = some q := fun x q e => cm (x, q) (by rw [← hcl]; exact mem_of_lookup e)
  refine ⟨F, fun x y q h1 h2 => a.apart x y q (lk x q h1) (lk y q h2), fun x q e => ?_, fun x sl m => ?_⟩
  · have hf := (clOf_from scope.names [] (x, q) (by rw [← hcl]; exact mem_of_lookup e)).resolve_left (by simp)
    obtain ⟨q', _, sa⟩ := a.st x (.inr (hfree x hf))
    rcases sa with ⟨b1, _⟩ | ⟨_, b2, v, o, ho, _⟩
    · rw [hfree x hf] at b1; cases b1
    · rw [lk x q e] at b2; cases b2; exact ⟨o, ho⟩
  · obtain ⟨d, rfl⟩ := hv x sl m
    obtain ⟨m1, m2⟩ := hcaps x d m
    obtain ⟨v, va, r⟩ := a.rel.val x d m1
    obtain ⟨c, h1, h2⟩ := cell_of va (.inl (hfree x m2))
    obtain ⟨c', hm'⟩ := clOf_has (env := env) scope.names [] x m2
    have e1 : fd.closure.lookup x = some c := by
      rw [hcl]
      obtain ⟨u, hu⟩ := lookup_of_has hm'
      have := cm (x, u) (mem_of_lookup hu)
      rw [h1] at this; cases this
      exact hu
    exact ⟨c, v, e1, h2, r⟩
end
end
section
open PySem PySem.W PyProof.Rows PySem.Calls
set_option linter.unusedVariables false
set_option maxRecDepth 100000
noncomputable def bodyOf (st : Stmt) : List Stmt := match st with
  | .FunctionDef _ _ body _ _ _ _ _ _ _ => body
  | _ => []
noncomputable def fdCl (st : Stmt) (q nm : Str) (cl : List (Str × Addr)) (doc pm : Value) (ann : Option Addr) (cd ct : Value) : FuncData := match st with
  | .FunctionDef _ params body _ _ _ scope _ _ _ => ⟨nm, q, params, .stmts body, scope, mainGlobals, cl, .none, .none, doc, pm, ann, cd, ct, builtinsNs⟩
  | _ => default
noncomputable def in66 : Stmt := (bodyOf (stN 7)).headD (.Pass default)
noncomputable def seg (ds : List Nat) (L len : Nat) : List Nat := (ds.drop L).take len
theorem undigs_append (k : Nat) : ∀ xs ys : List Nat, undigs k (xs ++ ys) = undigs k xs + 2 ^ (k * xs.length) * undigs k ys
  | [], ys => by simp [undigs]
  | x :: xs, ys => by
    rw [List.cons_append, undigs, undigs, undigs_append k xs ys, List.length_cons, Nat.mul_succ, Nat.pow_add, Nat.mul_add]
    rw [Nat.mul_comm (2 ^ (k * xs.length)) (2 ^ k), Nat.mul_assoc]
    omega
theorem undigs_lt (k : Nat) : ∀ ds : List Nat, (∀ d ∈ ds, d < 2 ^ k) → undigs k ds < 2 ^ (k * ds.length)
  | [], _ => by simp [undigs]
  | d :: r, h => by
    have h1 := undigs_lt k r fun e he => h e (List.mem_cons_of_mem _ he)
    have h2 := h d List.mem_cons_self
    rw [undigs, List.length_cons, Nat.mul_succ, Nat.pow_add, Nat.mul_comm (2 ^ (k * r.length))]
    have : 2 ^ k * (undigs k r + 1) ≤ 2 ^ k * 2 ^ (k * r.length) := Nat.mul_le_mul (Nat.le_refl _) h1
    rw [Nat.mul_succ] at this
    omega
theorem seg_split (ds : List Nat) (L h len : Nat) (hh : h ≤ len) : seg ds L len = seg ds L h ++ seg ds (L + h) (len - h) := by
  unfold seg
  rw [← List.drop_drop]
  conv => lhs; rw [show len = h + (len - h) by omega, List.take_add]
theorem seg_length (ds : List Nat) (L len : Nat) (h : L + len ≤ ds.length) : (seg ds L len).length = len := by simp [seg]; omega
theorem seg_mem (ds : List Nat) (L len : Nat) : ∀ d ∈ seg ds L len, d ∈ ds := fun d hd => List.mem_of_mem_drop (List.mem_of_mem_take hd)
theorem seg_one (ds : List Nat) (L : Nat) (h : L < ds.length) (k : Nat) : undigs k (seg ds L 1) = ds.getD L 0 := by
  unfold seg
  rw [List.drop_eq_getElem_cons h, List.take_succ_cons, List.take_zero]
  simp [undigs, List.getD_eq_getElem?_getD, h]
theorem rep_ints2 {h : Heap} {Z : List Addr} {a b : Int} {vs : List Value} (r : Reps h Z [.int a, .int b] vs) : ∃ t u, vs = [.int a t, .int b u] := by
  simp only [Reps] at r
  obtain ⟨v, r1, rfl, h1, u, r2, rfl, h2, rfl⟩ := r
  obtain ⟨t, rfl⟩ := rep_int h1
  obtain ⟨t', rfl⟩ := rep_int h2
  exact ⟨t, t', rfl⟩
theorem reps_of_ints2 (h : Heap) (Z : List Addr) (a b : Int) (t u : Tok) : Reps h Z [.int a, .int b] [.int a t, .int b u] := Reps.cons (rep_of_int _ _ _ _) (Reps.cons (rep_of_int _ _ _ _) Reps.nil)
section
variable {prog : Program} {w : World} {hb : Heap} {n : Nat} {mg mb : Str → Option Value}
theorem noCell {names : List (Str × NameKind)} (h : (names.all fun y => !(y.2 == .cell)) = true) : ∀ x ∈ names, x.2 ≠ .cell := fun x hx e => by
  have := List.all_eq_true.mp h x hx
  rw [e] at this; cases this
theorem St.run {ρ : Vars} {ss : List Stmt} {sc : Scope} {d : D} (st : St prog w hb true n sc ρ ss (.ret d)) {A : Around} {env : Env} {h₀ : Heap} {Y Z : List Addr} {s : Shared} {Q : Flow → Shared → Prop} {E : Value → Shared → Prop} (hA : Rm n A) (he : env.scope = sc) (a : Act hb env h₀ h₀ Y Z s.heap ρ)
    (k : ∀ v h' tk, Rep h' Z d v → Ext hb h₀ h' → Q (.ret v) { s with heap := h', toks := tk }) : wpAny (model prog w) A (execs ss env) Q E s := st A env h₀ h₀ Y Z s Q E hA he (fun _ => rfl) a k
theorem n_mul {sc : Scope} {ρ : Vars} {l r : Expr} {pos : Pos} {a b : Nat} (x : Ev prog w hb n sc ρ l (.int a)) (y : Ev prog w hb n sc ρ r (.int b)) (ha : a < 2 ^ 64) : Ev prog w hb n sc ρ (.BinOp l .Mult r pos) (.int ((a * b : Nat) : Int)) :=
  ev_eq (congrArg D.int (by omega)) (ev_ints x y fun A s t u Q E k => PyProof.Rows.mul_int (k _ _) (IntMulOk.of_left (bl_le ha)))
noncomputable abbrev caps66 (f : Addr) (ds : List Nat) (k : Nat) : Vars := [V "digits" (dInts ds), V "n" (.int (k : Nat)), V "inner" (.obj f)]
theorem inner66 (B : Base hb mg mb) {q nm : Str} {cl : List (Str × Addr)} {doc pm : Value} {ann : Option Addr} {cd ct : Value} {f : Addr} {fd : FuncData} (hfd : fd = fdCl in66 q nm cl doc pm ann cd ct) (ds : List Nat) (k : Nat) (hk : k ≤ 200) (hN : ds.length ≤ 1000) (hds : ∀ d ∈ ds, d < 2 ^ k) :
    ∀ (fuel len L : Nat), len ≤ fuel → 0 < len → L + len ≤ ds.length → ∀ (A : Around) (Z : List Addr) (s : Shared) (Q : Value → Shared → Prop) (E : Value → Shared → Prop) (t u : Tok), Rm (n + fuel) A → G hb s.heap → Clo s.heap [] Z f fd (caps66 f ds k) →
      (∀ a ∈ Z, ∃ o, s.heap.get? a = some o ∧ tabLike o = false) → (∀ v s', Rep s'.heap Z (.int (undigs k (seg ds L len) : Nat)) v → Kp hb s s' → Q v s') → wpAny (model prog w) A (call (.ref f) [.int (L : Nat) t, .int ((L + len : Nat) : Int) u]) Q E s
  | 0, len, L, h1, h2, _ => by omega
  | fuel + 1, len, L, h1, h2, hL => fun A Z s Q E t u hA hg C hZ k' => by
    subst hfd
    refine clo_call (n := n + fuel) (ds := [.int (L : Nat), .int ((L + len : Nat) : Int)]) B [Str.ofString "L", Str.ofString "R"] rfl (fun vals hv => ?_) rfl (by decide +kernel) (fun x hx => ?_) (noCell rfl) rfl rfl (caps66 f ds k) hA C.fn hg hg (.refl _ _) (fun _ m => absurd m List.not_mem_nil) (fun _ m => absurd m List.not_mem_nil) hZ (fun _ m => absurd m List.not_mem_nil)
      C.hap C.hlv (fun x sl m => ⟨?_, C.cap x sl m⟩) (reps_of_ints2 _ _ _ _ _ _) fun A' env h₁ tk E' hA' he dead a => ?_
    · match vals, hv with | [a, b], _ => rfl
    · simp only [List.mem_cons, List.not_mem_nil, or_false] at hx
      rcases hx with rfl | rfl <;> rfl
    · simp only [caps66, List.mem_cons, List.not_mem_nil, or_false, Prod.mk.injEq] at m
      rcases m with ⟨rfl, _⟩ | ⟨rfl, _⟩ | ⟨rfl, _⟩ <;> rfl
    · have ex : Ext hb s.heap h₁ := a.kept
      by_cases h1' : len = 1
      · subst h1'
        refine St.run (ρ := [V "L" (.int (L : Nat)), V "R" (.int ((L + 1 : Nat) : Int))] ++ caps66 f ds k) (n := n + fuel) (d := .int (undigs k (seg ds L 1) : Nat)) (st_ifR (evB_eq (show decide (L + 1 = L + 1) = true by simp) (nB_eq (n_add (ev_name (.head _)) (n_int (i := 1))) (ev_name (.tail _ (.head _)))))
          (st_ret (ev_eq (by rw [seg_one ds L (by omega)]; rfl) (ev_atN (.tail _ (.tail _ (.head _))) (ev_name (.head _)) (by omega) hN)))) hA' he a fun v h' tk' r e => ?_
        exact k' v _ r (.of' e)
      · let ρ₀ : Vars := [V "L" (.int (L : Nat)), V "R" (.int ((L + len : Nat) : Int))] ++ caps66 f ds k
        have a₀ : Act hb env s.heap s.heap [env.locals] Z h₁ ρ₀ := a
        refine wpAny_execs_cons (wpAny_If (evB_eq (show decide (L + 1 = L + len) = false from decide_eq_false (by omega)) (nB_eq (n_add (ev_name (.head _)) (n_int (i := 1))) (ev_name (.tail _ (.head _)))) A' env ([env.locals] ++ Z) _ _ _ hA' he a₀.rel fun s₁ k₁ => ?_))
        obtain ⟨h₂, tk₂, rfl, e₂⟩ := k₁
        simp only [Bool.false_eq_true, if_false]
        refine wpAny_execs_nil ?_
        have a₂ := a₀.ext e₂
        have hm : (L + (L + len)) / 2 ^ 1 = L + len / 2 := by omega
        refine x_assign hA' he (d := .int ((L + len / 2 : Nat) : Int)) ρ₀ a₂ (ev_eq (by rw [hm]) (n_shr (n_add (ev_name (.head _)) (ev_name (.tail _ (.head _)))) (n_int (i := 1)))) (.inl rfl) (ne_of_all (by kernel_rfl) (by simp)) (fun h₃ tk₃ a₃ => ?_) (by unfold swapsWith; rfl)
        refine x_assign hA' he (d := .int ((len / 2 * k : Nat) : Int)) (V "mid" (.int ((L + len / 2 : Nat) : Int)) :: ρ₀) a₃ (ev_eq (by rw [Nat.add_sub_cancel_left]) (n_mul (n_sub (ev_name (.head _)) (ev_name (.tail _ (.head _))) (by omega)) (ev_name (.tail _ (.tail _ (.tail _ (.tail _ (.head _)))))) (by omega))) (.inl rfl) (ne_of_all (by kernel_rfl) (by simp)) (fun h₄ tk₄ a₄ => ?_) (by unfold swapsWith; rfl)
        have C₄ : Clo h₄ [] ([env.locals] ++ Z) f _ (caps66 f ds k) := (C.more (W := [env.locals]) fun b m => by simp at m; subst m; exact dead).ext a₄.kept
        have hhi : len - len / 2 ≤ fuel := by omega
        have hlo : len / 2 ≤ fuel := by omega
        have hb0 : undigs k (seg ds (L + len / 2) (len - len / 2)) < 2 ^ (k * (len - len / 2)) := by
          have := undigs_lt k (seg ds (L + len / 2) (len - len / 2)) fun d hd => hds d (seg_mem _ _ _ d hd)
          rwa [seg_length _ _ _ (by omega)] at this
        refine wpAny_execs_cons (wpAny_Return_some (wpAny_BinOp (wpAny_BinOp (x_call hA' he a₄.rel (ev_name (.tail _ (.tail _ (.tail _ (.tail _ (.tail _ (.tail _ (.head _)))))))) C₄.fn (evs_cons (ev_name (.tail _ (.head _))) (evs_cons (ev_name (.tail _ (.tail _ (.tail _ (.head _))))) evs_nil)) fun vs s₅ hvs k₅ => ?_))))
        obtain ⟨t1, u1, rfl⟩ := rep_ints2 hvs
        have eR : ((L + len : Nat) : Int) = ((L + len / 2 + (len - len / 2) : Nat) : Int) := by congr 1; omega
        rw [eR]
        refine inner66 B rfl ds k hk hN hds fuel (len - len / 2) (L + len / 2) hhi (by omega) (by omega) A' ([env.locals] ++ Z) s₅ _ _ t1 u1 hA' (a₄.rel.ext k₅.ext).g (C₄.ext k₅.ext) (a₄.rel.ext k₅.ext).live fun v₆ s₆ hv₆ k₆ => ?_
        obtain ⟨t6, rfl⟩ := rep_int hv₆
        have k46 := k₅.trans k₆
        have r₆ := a₄.rel.ext k46.ext
        refine ev_name (.head _) (by decide) A' env ([env.locals] ++ Z) s₆ _ _ hA' he r₆ fun v₇ s₇ hv₇ k₇ => ?_
        obtain ⟨t7, rfl⟩ := rep_int hv₇
        refine PyProof.Rows.lshift_int (by omega) ?_ ?_
        · have h1 := bl_le hb0
          unfold bl at h1
          have h2 : k * (len - len / 2) ≤ 200 * 1000 := Nat.mul_le_mul hk (by omega)
          have h3 : len / 2 * k ≤ 1000 * 200 := Nat.mul_le_mul (by omega) hk
          omega
        · have k47 := k46.trans k₇
          have r₈ := a₄.rel.ext k47.ext
          have C₈ := C₄.ext k47.ext
          have kt : Kp hb s₇ { s₇ with toks := s₇.toks + 1 } := .tok _ _ _
          refine x_call (s := { s₇ with toks := s₇.toks + 1 }) hA' he r₈ (ev_name (.tail _ (.tail _ (.tail _ (.tail _ (.tail _ (.tail _ (.head _)))))))) C₈.fn (evs_cons (ev_name (.tail _ (.tail _ (.head _)))) (evs_cons (ev_name (.tail _ (.head _))) evs_nil)) fun vs s₉ hvs k₉ => ?_
          obtain ⟨t9, u9, rfl⟩ := rep_ints2 hvs
          refine inner66 B rfl ds k hk hN hds fuel (len / 2) L hlo (by omega) (by omega) A' ([env.locals] ++ Z) s₉ _ _ t9 u9 hA' (r₈.ext k₉.ext).g (C₈.ext k₉.ext) (r₈.ext k₉.ext).live fun va sa hva ka => ?_
          obtain ⟨ta, rfl⟩ := rep_int hva
          refine PyProof.Rows.add_int ?_
          have kall := ((k47.trans kt).trans (k₉.trans ka)).trans (Kp.tok hb sa (sa.toks + 1))
          obtain ⟨hf, tf, ef, exf⟩ := kall
          refine k' _ _ ?_ ⟨hf, tf, by rw [ef], a₄.kept.trans exf⟩
          rw [Rep]
          refine ⟨_, congrArg (fun x => Value.int x _) ?_⟩
          rw [seg_split ds L (len / 2) len (by omega), undigs_append, seg_length _ _ _ (by omega), Int.toNat_natCast]
          push_cast
          rw [Nat.mul_comm k, Int.add_comm, Int.mul_comm]
end
end
section
open PySem PySem.W PyProof.Rows PySem.Calls
set_option linter.unusedVariables false
set_option maxRecDepth 100000
section
variable {prog : Program} {w : World} {hb : Heap} {n : Nat} {mg mb : Str → Option Value}
theorem qual_of {env : Env} {sc : Scope} {q name out : Str} (he : env.scope = sc) (hq : env.qual = q ++ ".<locals>.") (hk : (sc.names.lookup name == some .globalExplicit) = false) (ho : q ++ ".<locals>." ++ name = out) : qualnameIn env name name = out := by
  unfold qualnameIn Env.kindOf
  rw [he, hk, hq]
  simpa using ho
theorem ct_d2i (B : Base hb mg mb) (T : Blt mg mb) {nm : Str} {doc pm : Value} {ann : Option Addr} {ct : Value} (F : FnAt' hb 66 (fdSt (stN 7) (Str.ofString "_digits2int") nm doc pm ann (.ref 65) ct)) (C : CodeHd hb 65 61) (hbi : hb.BuiltinsAt mg 61)
    (ds : List Nat) (k : Nat) (hk : k ≤ 200) (hN : ds.length ≤ 1000) (hds : ∀ d ∈ ds, d < 2 ^ k) : Ct prog w hb 66 (n + ds.length + 1) [dInts ds, .int (k : Nat)] (.int (undigs k ds : Nat)) := by
  refine ct_raw B F [Str.ofString "digits", Str.ofString "n"] rfl (fun vals hv => ?_) rfl (by decide +kernel) (fun x hx => ?_) (fun A env h₀ Y Z s Q E hA he hcode hqual a kq => ?_)
  · match vals, hv with | [a, b], _ => rfl
  · simp only [List.mem_cons, List.not_mem_nil, or_false] at hx
    rcases hx with rfl | rfl <;> (right; rfl)
  · let ρ₀ : Vars := [V "digits" (dInts ds), V "n" (.int (k : Nat))]
    have a₀ : Act hb env h₀ h₀ Y Z s.heap ρ₀ := a
    refine wpAny_execs_cons (nestDef_K rfl rfl rfl ?_)
    have hq : qualnameIn env (Str.ofString "inner") (Str.ofString "inner") = "_digits2int.<locals>.inner" := qual_of he hqual (by kernel_rfl) (show Str.ofString "_digits2int" ++ _ ++ _ = _ by decide +kernel)
    have hcells : ∀ y, env.kindOf y = some .cell → ∃ c, env.cells.lookup y = some c := fun y hy => by
      obtain ⟨q, _, sa⟩ := a.st y (.inr hy)
      rcases sa with ⟨b1, _⟩ | ⟨_, b2, _⟩
      · rw [hy] at b1; cases b1
      · exact ⟨q, b2⟩
    have hkind : ∀ y, env.kindOf y = (fdSt (stN 7) (Str.ofString "_digits2int") nm doc pm ann (.ref 65) ct).scope.names.lookup y := fun y => by show env.scope.names.lookup y = _; rw [he]
    have hfree : ∀ y, (y, NameKind.free) ∈ (fdCl in66 default default [] default default none default default).scope.names → env.kindOf y = some .cell := fun y hy => by
      rw [hkind]
      have hb : ((fdCl in66 default default [] default default none default default).scope.names.all fun y => !(y.2 == .free) || (fdSt (stN 7) default default default default none default default).scope.names.lookup y.1 == some .cell) = true := by kernel_rfl
      have := List.all_eq_true.mp hb _ hy
      simp at this
      exact this
    refine mk_inner B (c := 65) (P := 61) (closure_is fun y hy => hcells y (hfree y hy)) a.rel.glob hcode C a.rel.g hbi (by decide) ?_ ?_ fun f fd h' tk e1 e2 e3 e4 e5 e6 e7 e8 e9 Fo hfr ex => ?_
    · exact hq ▸ a.rel.g.tab.2
    · exact fun h h' x t => tabOk61 h h' x (hq ▸ t)
    · have a₁ := a₀.ext ex
      refine store_name (s := { s with heap := h', toks := tk }) he (d := .obj f) ρ₀ a₁ (by rw [Rep]) (.inr rfl) (ne_of_all (by kernel_rfl) (by simp)) fun q h₂ tk₂ a₂ hqY hqn kb => ?_
      have Fo₂ : FnO h₂ f fd := Fo.kbW kb (by
        simp only [List.mem_singleton]; rintro rfl
        exact a₀.rel.fresh hfr (List.mem_append_left _ hqY)) (fun b m => by simp at m; subst m; exact hqn)
      have hfd : ∃ q nm doc pm ann cd ct, fd = fdCl in66 q nm (clOf env (fdCl in66 default default [] default default none default default).scope.names []) doc pm ann cd ct := by
        obtain ⟨g1, g2, g3, g4, g5, g6, g7, g8, g9, g10, g11, g12, g13, g14, g15⟩ := fd
        dsimp only at e1 e2 e3 e4 e5 e6 e7 e8 e9
        subst e2 e3 e4 e5 e6 e7 e8 e9
        exact ⟨g2, g1, g10, g11, g12, g13, g14, rfl⟩
      obtain ⟨q', nm', doc', pm', ann', cd', ct', hfd⟩ := hfd
      have C₂ : Clo h₂ [] (Y ++ Z) f fd (caps66 f ds k) := Clo.of a₂ Fo₂ (by rw [hfd]; rfl) hfree _ (fun x d m => by
        simp only [caps66, List.mem_cons, List.not_mem_nil, or_false, Prod.mk.injEq] at m
        rcases m with ⟨rfl, e⟩ | ⟨rfl, e⟩ | ⟨rfl, e⟩ <;> cases e
        · exact ⟨.tail _ (.head _), List.mem_iff_getElem?.mpr ⟨4, rfl⟩⟩
        · exact ⟨.tail _ (.tail _ (.head _)), List.mem_iff_getElem?.mpr ⟨6, rfl⟩⟩
        · exact ⟨.head _, List.mem_iff_getElem?.mpr ⟨5, rfl⟩⟩) (fun x sl m => by
        simp only [caps66, List.mem_cons, List.not_mem_nil, or_false, Prod.mk.injEq] at m
        rcases m with ⟨rfl, e⟩ | ⟨rfl, e⟩ | ⟨rfl, e⟩ <;> exact ⟨_, e⟩)
      refine wpAny_execs_cons (wpAny_Return_some (IfExp_ (evB_truthLst (Ev.evL (ev_name (.tail _ (.head _)))) (by rw [List.length_map]; omega) (fun _ _ => rfl) A env (Y ++ Z) _ _ _ hA he a₂.rel fun s₃ k₃ => ?_)))
      have a₃ := a₂.rel.ext k₃.ext
      have kx : Ext hb h₀ s₃.heap := a₂.kept.trans k₃.ext
      cases hds' : ds with
      | nil =>
        simp only [List.map_nil, List.isEmpty_nil, Bool.not_true, Bool.false_eq_true, if_false]
        refine ev_int A env (Y ++ Z) _ _ _ hA he a₃ fun v s₄ hv k₄ => ?_
        obtain ⟨hf, tf, ef, exf⟩ := k₃.trans k₄
        rw [ef]
        refine kq v hf tf ?_ (a₂.kept.trans exf)
        rw [ef] at hv
        rw [hds']; exact hv.less
      | cons d r =>
        rw [← hds']
        have : (!(List.map (fun (i : Nat) => D.int (i : Int)) ds).isEmpty) = true := by rw [hds']; rfl
        simp only [this, if_true]
        have C₃ := C₂.ext k₃.ext
        refine x_call (s := s₃) hA he a₃ (ev_name (.head _)) C₃.fn (evs_cons (n_int (i := 0)) (evs_cons (n_len (k := ds.length) (gl_blt B rfl T.len.1 T.len.2) (Ev.evL (ev_name (.tail _ (.head _)))) (by rw [List.length_map]) (by rw [List.length_map]; omega)) evs_nil)) fun vs s₄ hvs k₄ => ?_
        obtain ⟨t1, u1, rfl⟩ := rep_ints2 hvs
        rw [show ((ds.length : Nat) : Int) = ((0 + ds.length : Nat) : Int) by omega]
        refine inner66 B hfd ds k hk hN hds ds.length ds.length 0 (Nat.le_refl _) (by rw [hds']; simp) (by omega) A (Y ++ Z) s₄ _ _ t1 u1 hA (a₃.ext k₄.ext).g (C₃.ext k₄.ext) (a₃.ext k₄.ext).live fun v s₅ hv k₅ => ?_
        obtain ⟨hf, tf, ef, exf⟩ := (k₃.trans k₄).trans k₅
        rw [ef]
        refine kq v hf tf ?_ (a₂.kept.trans exf)
        rw [ef] at hv
        have e0 : seg ds 0 ds.length = ds := by simp [seg]
        rw [e0] at hv
        exact hv.less
end
end
section
open PySem PySem.W PyProof.Rows PySem.Calls
set_option linter.unusedVariables false
set_option maxRecDepth 100000
noncomputable def in59 : Stmt := (bodyOf (stN 6)).getD 1 (.Pass default)
noncomputable def setSeg (ds : List Nat) (L : Nat) (xs : List Nat) : List Nat := ds.take L ++ xs ++ ds.drop (L + xs.length)
theorem setSeg_get {ds : List Nat} {L : Nat} {xs : List Nat} (h : L + xs.length ≤ ds.length) (i : Nat) : (setSeg ds L xs)[i]? = if i < L then ds[i]? else if i < L + xs.length then xs[i - L]? else ds[i]? := by
  unfold setSeg
  have hl : (ds.take L).length = L := by simp; omega
  rw [List.append_assoc, List.getElem?_append, hl]
  split
  · rw [List.getElem?_take]; simp [*]
  · rw [List.getElem?_append]
    split
    · rw [if_pos (by omega)]
    · rw [if_neg (by omega), List.getElem?_drop]; congr 1; omega
theorem setSeg_length {ds : List Nat} {L : Nat} {xs : List Nat} (h : L + xs.length ≤ ds.length) : (setSeg ds L xs).length = ds.length := by
  simp [setSeg]; omega
theorem setSeg_one {ds : List Nat} {L x : Nat} (h : L < ds.length) : ds.set L x = setSeg ds L [x] := by
  refine List.ext_getElem? fun i => ?_
  rw [setSeg_get (by simp; omega), List.getElem?_set]
  simp only [List.length_singleton]
  by_cases h1 : L = i
  · subst h1
    have h1 : ¬ L < L := by omega
    have h2 : L < L + 1 := by omega
    simp [h1, h2, h]
  · rw [if_neg h1]
    by_cases h2 : i < L
    · rw [if_pos h2]
    · rw [if_neg h2, if_neg (by omega)]
theorem setSeg_two {ds : List Nat} {L : Nat} {xs ys : List Nat} {m : Nat} (hm : m = L + xs.length) (h : L + (xs.length + ys.length) ≤ ds.length) : setSeg (setSeg ds L xs) m ys = setSeg ds L (xs ++ ys) := by
  subst hm
  refine List.ext_getElem? fun i => ?_
  rw [setSeg_get (by rw [setSeg_length (by omega)]; omega), setSeg_get (by omega), setSeg_get (by rw [List.length_append]; omega), List.length_append, List.getElem?_append]
  repeat' split
  all_goals first
    | rfl
    | omega
    | (congr 1; omega)
theorem setSeg_all {ds xs : List Nat} (h : xs.length = ds.length) : setSeg ds 0 xs = xs := by
  simp [setSeg, h]
theorem digsN_split (x k h len : Nat) (hh : h ≤ len) : digsN x k len = digsN (x % 2 ^ (k * h)) k h ++ digsN (x / 2 ^ (k * h)) k (len - h) := by
  unfold digsN
  rw [show len = h + (len - h) by omega, List.range_add, List.map_append, List.map_map]
  congr 1
  · refine List.map_congr_left fun i hi => ?_
    have hi' : i < h := by simpa using hi
    apply Nat.eq_of_testBit_eq
    intro j
    rw [Nat.testBit_mod_two_pow, Nat.testBit_mod_two_pow, Nat.testBit_div_two_pow, Nat.testBit_div_two_pow, Nat.testBit_mod_two_pow]
    by_cases hj : j < k
    · have : k * i + j < k * h := by
        have : k * (i + 1) ≤ k * h := Nat.mul_le_mul (Nat.le_refl _) hi'
        rw [Nat.mul_succ] at this; omega
      simp [hj, Nat.add_comm j, this]
    · simp [hj]
  · rw [show h + (len - h) - h = len - h by omega]
    refine List.map_congr_left fun i _ => ?_
    simp only [Function.comp]
    rw [Nat.div_div_eq_div_mul, ← Nat.pow_add, Nat.mul_add]
theorem xor_low (x s : Nat) : x ^^^ (x / 2 ^ s * 2 ^ s) = x % 2 ^ s := by
  apply Nat.eq_of_testBit_eq
  intro j
  rw [Nat.testBit_xor, Nat.testBit_mul_two_pow, Nat.testBit_div_two_pow, Nat.testBit_mod_two_pow]
  by_cases h : s ≤ j
  · have h2 : ¬ j < s := by omega
    simp [h, h2]
  · have h2 : j < s := by omega
    simp [h, h2]
theorem reps_any {h h' : Heap} {Z Z' : List Addr} {ns : List Nat} {vs : List Value} (r : Reps h Z (ns.map fun (i : Nat) => D.int (i : Int)) vs) : Reps h' Z' (ns.map fun (i : Nat) => D.int (i : Int)) vs := by
  have e : (ns.map fun (i : Nat) => D.int (i : Int)) = (ns.map fun (i : Nat) => (i : Int)).map D.int := by rw [List.map_map]; rfl
  rw [e] at r ⊢
  exact reps_of_ints (ints_of r)
theorem rep_ints3 {h : Heap} {Z : List Addr} {a b c : Int} {vs : List Value} (r : Reps h Z [.int a, .int b, .int c] vs) : ∃ t u v, vs = [.int a t, .int b u, .int c v] := by
  simp only [Reps] at r
  obtain ⟨v, r1, rfl, h1, u, r2, rfl, h2, u3, r3, rfl, h3, rfl⟩ := r
  obtain ⟨t, rfl⟩ := rep_int h1
  obtain ⟨t', rfl⟩ := rep_int h2
  obtain ⟨t'', rfl⟩ := rep_int h3
  exact ⟨t, t', t'', rfl⟩
noncomputable abbrev caps59 (f : Addr) (pl : Bool) (ds : List Nat) (k : Nat) : Vars := [O "a_digits" pl (ds.map fun (i : Nat) => D.int (i : Int)), V "n" (.int (k : Nat)), V "inner" (.obj f)]
section
variable {prog : Program} {w : World} {hb : Heap} {n : Nat} {mg mb : Str → Option Value}
theorem Kb.shed {h h' : Heap} {d : Addr} {W : List Addr} (x : Kb hb (d :: W) h h') (hd : h.get? d = none) : Kb hb W h h' :=
  ⟨fun b o m t e => x.keep b o (fun q => (List.mem_cons.mp q).elim (fun q => by rw [q, hd] at e; cases e) m) t e, fun b o m e => x.live b o (fun q => (List.mem_cons.mp q).elim (fun q => by rw [q, hd] at e; cases e) m) e, x.g⟩
/-- the list of a closure turns -/
theorem Clo.turn {h h' : Heap} {l f : Addr} {fd : FuncData} {pl pl' : Bool} {ds ds' : List Nat} {k : Nat} {items : Array Value} (C : Clo h [l] [] f fd (caps59 f pl ds k)) (kb : Kb hb [l] h h') (hl : h'.IsList l items ∧ (pl' = true → h'.PlainList l items)) (hr : Reps h' [l] (ds'.map fun (i : Nat) => D.int (i : Int)) items.toList) : Clo h' [l] [] f fd (caps59 f pl' ds' k) := by
  obtain ⟨cA, vA, eA, icA, l', itA, rfl, ml, loA, rA⟩ := C.cap _ _ (.head _)
  have : l' = l := by simpa using ml
  subst this
  have lo := loA.1
  have cne : ∀ c v, h.IsCell c v → c ∉ [l'] := fun c v ic e => by
    simp only [List.mem_singleton] at e; subst e
    obtain ⟨o', ho', hd'⟩ := ic; obtain ⟨o₂, ho₂, _, n₂, hd₂⟩ := lo
    rw [ho₂] at ho'; cases ho'; rw [hd₂] at hd'; cases hd'
  have ck : ∀ c v, h.IsCell c v → h'.IsCell c v := fun c v ic => IsCell.off ic fun o t e => kb.keep _ o (cne c v ic) t e
  refine ⟨C.fn.kb lo kb, C.hap, fun x q hq => ?_, fun x sl m => ?_⟩
  · obtain ⟨o, ho⟩ := C.hlv x q hq
    by_cases e : q = l'
    · subst e; obtain ⟨o₂, ho₂, _⟩ := hl.1; exact ⟨o₂, ho₂⟩
    · exact kb.live q o (by simpa using e) ho
  · simp only [caps59, List.mem_cons, List.not_mem_nil, or_false, Prod.mk.injEq] at m
    rcases m with ⟨rfl, rfl⟩ | ⟨rfl, rfl⟩ | ⟨rfl, rfl⟩
    · exact ⟨cA, _, eA, ck _ _ icA, l', items, rfl, List.mem_cons_self, hl, hr⟩
    · obtain ⟨c, v, e, ic, r⟩ := C.cap _ _ (.tail _ (.head _))
      refine ⟨c, v, e, ck _ _ ic, ?_⟩
      obtain ⟨t, rfl⟩ := rep_int (h := h) (Z := [l'] ++ []) r
      exact rep_of_int h' ([l'] ++ []) _ _
    · obtain ⟨c, v, e, ic, r⟩ := C.cap _ _ (.tail _ (.tail _ (.head _)))
      refine ⟨c, v, e, ck _ _ ic, ?_⟩
      have r : v = .ref f := r
      subst r
      show Rep _ _ _ _
      rw [Rep]
theorem clo_of_act {env : Env} {h₀ h h' : Heap} {l f : Addr} {fd : FuncData} {pl pl' : Bool} {ds ds' : List Nat} {k : Nat} {ρ : Vars} (C : Clo h [l] [] f fd (caps59 f pl ds k)) (a : Act hb env h₀ h [env.locals, l] [] h' ρ) (hd : h.get? env.locals = none) (hx : O "a_digits" pl' (ds'.map fun (i : Nat) => D.int (i : Int)) ∈ ρ)
    (hk : env.kindOf (Str.ofString "L") = some .local) : Clo h' [l] [] f fd (caps59 f pl' ds' k) ∧ Kb hb [l] h h' ∧ VarAt env h' (Str.ofString "a_digits") (.ref l) := by
  have kb := a.kb.shed hd
  obtain ⟨l', items, va, lo, r⟩ := a.rel.own _ _ _ hx
  obtain ⟨b, mb', vb⟩ := a.own _ _ _ hx
  have e1 : l' = b := Value.ref.inj (va.fn vb)
  subst e1
  have e2 : l' = l := by
    rcases List.mem_cons.mp mb' with e | e
    · obtain ⟨q, _, sa⟩ := a.st _ (.inl hk)
      rcases sa with ⟨_, _, m, hn⟩ | ⟨b1, _⟩
      · exact absurd e (ns_list_ne hn lo.1)
      · rw [hk] at b1; cases b1
    · simpa using e
  subst e2
  exact ⟨C.turn kb lo (reps_any r), kb, va⟩
end
end
section
open PySem PySem.W PyProof.Rows PySem.Calls
set_option linter.unusedVariables false
set_option maxRecDepth 100000
section
variable {prog : Program} {w : World} {hb : Heap} {n : Nat} {mg mb : Str → Option Value}
theorem inner59 (B : Base hb mg mb) {q nm : Str} {cl : List (Str × Addr)} {doc pm : Value} {ann : Option Addr} {cd ct : Value} {f l : Addr} {fd : FuncData} (hfd : fd = fdCl in59 q nm cl doc pm ann cd ct) (k N : Nat) (hk : k ≤ 200) (hN : N ≤ 1000) (h₀ : Heap) (g₀ : G hb h₀) (hl0 : h₀.get? l = none) :
    ∀ (fuel len L x : Nat) (ds : List Nat) (pl : Bool), len ≤ fuel → 0 < len → L + len ≤ N → x < 2 ^ (k * len) → ds.length = N → ∀ (A : Around) (s : Shared) (Q : Value → Shared → Prop) (E : Value → Shared → Prop) (t u v : Tok), Rm (n + fuel) A → G hb s.heap → Ext hb h₀ s.heap → Clo s.heap [l] [] f fd (caps59 f pl ds k) →
      (∀ h' tk, Kb hb [l] s.heap h' → Ext hb h₀ h' → Clo h' [l] [] f fd (caps59 f false (setSeg ds L (digsN x k len)) k) → Q .none { s with heap := h', toks := tk }) → wpAny (model prog w) A (call (.ref f) [.int (x : Nat) t, .int (L : Nat) u, .int ((L + len : Nat) : Int) v]) Q E s
  | 0, len, L, x, ds, pl, h1, h2, _, _, _ => by omega
  | fuel + 1, len, L, x, ds, pl, h1, h2, hL, hx, hds => fun A s Q E t u v hA hg kept C k' => by
    have hfd0 := hfd
    subst hfd
    have ldead : ∀ a ∈ [l], h₀.get? a = none := fun a m => by simp at m; subst m; exact hl0
    have lnice : Nice s.heap l := by
      obtain ⟨cA, vA, eA, icA, l', itA, rfl, ml, loA, rA⟩ := C.cap _ _ (.head _)
      have : l' = l := by simpa using ml
      subst this
      exact nice_list loA.1
    refine clo_call (n := n + fuel) (Yo := [l]) (Z := []) (ds := [.int (x : Nat), .int (L : Nat), .int ((L + len : Nat) : Int)]) B [Str.ofString "x", Str.ofString "L", Str.ofString "R"] rfl (fun vals hv => ?_) rfl (by decide +kernel) (fun x hx => ?_) (noCell rfl) rfl rfl (caps59 f pl ds k) hA C.fn hg g₀ kept ldead (fun a m => by simp at m; subst m; exact lnice) (fun _ m => absurd m List.not_mem_nil) (fun _ _ m => absurd m List.not_mem_nil)
      C.hap C.hlv (fun x sl m => ⟨?_, C.cap x sl m⟩) (Reps.cons (rep_of_int _ _ _ _) (reps_of_ints2 _ _ _ _ _ _)) fun A' env h₁ tk E' hA' he dead a => ?_
    · match vals, hv with | [a, b, c], _ => rfl
    · simp only [List.mem_cons, List.not_mem_nil, or_false] at hx
      rcases hx with rfl | rfl | rfl <;> rfl
    · simp only [caps59, List.mem_cons, List.not_mem_nil, or_false, Prod.mk.injEq] at m
      rcases m with ⟨rfl, _⟩ | ⟨rfl, _⟩ | ⟨rfl, _⟩ <;> rfl
    · let ρ₁ : Vars := [V "x" (.int (x : Nat)), V "L" (.int (L : Nat)), V "R" (.int ((L + len : Nat) : Int)), V "n" (.int (k : Nat)), V "inner" (.obj f)]
      have hkL : env.kindOf (Str.ofString "L") = some .local := by show env.scope.names.lookup _ = _; rw [he]; rfl
      have a₀ : Act hb env h₀ s.heap [env.locals, l] [] h₁ (O "a_digits" pl (ds.map fun (i : Nat) => D.int (i : Int)) :: ρ₁) := a.sub fun p hp => by
        simp only [ρ₁, List.mem_cons, List.not_mem_nil, or_false] at hp
        rcases hp with rfl | rfl | rfl | rfl | rfl | rfl
        · exact List.mem_append_right _ (.head _)
        · exact List.mem_append_left _ (.head _)
        · exact List.mem_append_left _ (.tail _ (.head _))
        · exact List.mem_append_left _ (.tail _ (.tail _ (.head _)))
        · exact List.mem_append_right _ (.tail _ (.head _))
        · exact List.mem_append_right _ (.tail _ (.tail _ (.head _)))
      refine wpAny_execs_cons (wpAny_If (evB_eq rfl (nB_eq (n_add (ev_name (.tail _ (.tail _ (.head _)))) (n_int (i := 1))) (ev_name (.tail _ (.tail _ (.tail _ (.head _)))))) A' env ([env.locals, l] ++ []) _ _ _ hA' he a₀.rel fun s₁ k₁ => ?_))
      obtain ⟨h₂, tk₂, rfl, e₂⟩ := k₁
      have a₂ := a₀.ext e₂
      by_cases h1' : len = 1
      · subst h1'
        simp only [decide_true, if_true]
        refine x_setitem hA' he ρ₁ a₂ (.head _) (ev_name (.tail _ (.head _))) (ev_name (.tail _ (.tail _ (.head _)))) (by omega) (by rw [List.length_map]; omega) (by rw [List.length_map]; unfold sizeLine; omega) (val_of_all rfl (fun p hp => List.mem_cons_of_mem _ hp)) fun h₃ tk₃ a₃ => ?_
        refine wpAny_execs_cons (wpAny_Return_none ?_)
        have e : (ds.map fun (i : Nat) => D.int (i : Int)).set ((L : Nat) : Int).toNat (.int (x : Nat)) = (setSeg ds L (digsN x k 1)).map fun (i : Nat) => D.int (i : Int) := by
          rw [Int.toNat_natCast, ← List.map_set (f := fun (i : Nat) => D.int (i : Int)), setSeg_one (by omega), digsN_succ, Nat.mod_eq_of_lt (by simpa using hx)]; rfl
        rw [e] at a₃
        obtain ⟨C₃, kb, _⟩ := clo_of_act C a₃ dead (.head _) hkL
        exact k' h₃ tk₃ kb a₃.kept C₃
      · have hne : decide (L + 1 = L + len) = false := decide_eq_false (by omega)
        simp only [hne, Bool.false_eq_true, if_false]
        refine wpAny_execs_nil ?_
        have hm : (L + (L + len)) / 2 ^ 1 = L + len / 2 := by omega
        have a₂' : Act hb env h₀ s.heap [env.locals, l] [] h₂ (O "a_digits" pl (ds.map fun (i : Nat) => D.int (i : Int)) :: ρ₁) := a₂
        refine x_assign hA' he (d := .int ((L + len / 2 : Nat) : Int)) (O "a_digits" pl (ds.map fun (i : Nat) => D.int (i : Int)) :: ρ₁) a₂' (ev_eq (by rw [hm]) (n_shr (n_add (ev_name (.tail _ (.tail _ (.head _)))) (ev_name (.tail _ (.tail _ (.tail _ (.head _)))))) (n_int (i := 1)))) (.inl rfl) (ne_of_all (by kernel_rfl) (by simp)) (fun h₃ tk₃ a₃ => ?_) (by unfold swapsWith; rfl)
        refine x_assign hA' he (d := .int ((len / 2 * k : Nat) : Int)) (V "mid" (.int ((L + len / 2 : Nat) : Int)) :: O "a_digits" pl (ds.map fun (i : Nat) => D.int (i : Int)) :: ρ₁) a₃ (ev_eq (by rw [Nat.add_sub_cancel_left]) (n_mul (n_sub (ev_name (.head _)) (ev_name (.tail _ (.tail _ (.tail _ (.head _))))) (by omega)) (ev_name (.tail _ (.tail _ (.tail _ (.tail _ (.tail _ (.head _))))))) (by omega))) (.inl rfl) (ne_of_all (by kernel_rfl) (by simp)) (fun h₄ tk₄ a₄ => ?_) (by unfold swapsWith; rfl)
        refine x_assign hA' he (d := .int ((x / 2 ^ (len / 2 * k) : Nat) : Int)) (V "shift" (.int ((len / 2 * k : Nat) : Int)) :: V "mid" (.int ((L + len / 2 : Nat) : Int)) :: O "a_digits" pl (ds.map fun (i : Nat) => D.int (i : Int)) :: ρ₁) a₄ (n_shr (ev_name (.tail _ (.tail _ (.tail _ (.head _))))) (ev_name (.head _))) (.inl rfl) (ne_of_all (by kernel_rfl) (by simp)) (fun h₅ tk₅ a₅ => ?_) (by unfold swapsWith; rfl)
        have hsz : x / 2 ^ (len / 2 * k) < 2 ^ (k * (len - len / 2)) := by
          rw [Nat.div_lt_iff_lt_mul (Nat.two_pow_pos _), ← Nat.pow_add, Nat.mul_comm (len / 2) k, ← Nat.mul_add]
          rwa [show len - len / 2 + len / 2 = len by omega]
        have hlow : x % 2 ^ (len / 2 * k) < 2 ^ (k * (len / 2)) := by rw [Nat.mul_comm k]; exact Nat.mod_lt _ (Nat.two_pow_pos _)
        refine x_assign hA' he (d := .int ((x % 2 ^ (len / 2 * k) : Nat) : Int)) (V "upper" (.int ((x / 2 ^ (len / 2 * k) : Nat) : Int)) :: V "shift" (.int ((len / 2 * k : Nat) : Int)) :: V "mid" (.int ((L + len / 2 : Nat) : Int)) :: O "a_digits" pl (ds.map fun (i : Nat) => D.int (i : Int)) :: ρ₁) a₅ (ev_eq (by rw [xor_low]) (n_xor (ev_name (.tail _ (.tail _ (.tail _ (.tail _ (.head _)))))) (n_shl (ev_name (.head _)) (ev_name (.tail _ (.head _))) (by
          have h1 := bl_le hsz
          unfold bl at h1
          have h2 : k * (len - len / 2) ≤ 200 * 1000 := Nat.mul_le_mul hk (by omega)
          have h3 : len / 2 * k ≤ 1000 * 200 := Nat.mul_le_mul (by omega) hk
          omega)))) (.inl rfl) (ne_of_all (by kernel_rfl) (by simp)) (fun h₆ tk₆ a₆ => ?_) (by unfold swapsWith; rfl)
        -- the first call
        obtain ⟨C₆, kb₆, va₆⟩ := clo_of_act C a₆ dead (.tail _ (.tail _ (.tail _ (.tail _ (.head _))))) hkL
        refine wpAny_execs_cons (wpAny_Expr (x_call hA' he a₆.rel (ev_name (.tail _ (.tail _ (.tail _ (.tail _ (.tail _ (.tail _ (.tail _ (.tail _ (.tail _ (.head _))))))))))) C₆.fn (evs_cons (ev_name (.head _)) (evs_cons (ev_name (.tail _ (.tail _ (.tail _ (.tail _ (.tail _ (.tail _ (.head _)))))))) (evs_cons (ev_name (.tail _ (.tail _ (.tail _ (.head _))))) evs_nil))) fun vs s₇ hvs k₇ => ?_) (by simp only [interactive, he]; rfl))
        obtain ⟨t1, u1, v1, rfl⟩ := rep_ints3 hvs
        obtain ⟨h₇, tk₇, rfl, e₇⟩ := k₇
        have a₇ := a₆.ext e₇
        have C₇ := C₆.ext e₇
        refine inner59 B hfd0 k N hk hN h₀ g₀ hl0 fuel (len / 2) L (x % 2 ^ (len / 2 * k)) ds pl (by omega) (by omega) (by omega) hlow hds A' _ _ _ t1 u1 v1 hA' a₇.rel.g a₇.kept C₇ fun h₈ tk₈ kb₈ ex₈ C₈ => ?_
        have va₈ : VarAt env h₈ (Str.ofString "a_digits") (.ref l) := by
          obtain ⟨b, its, vb, lo, _⟩ := a₇.rel.own _ _ _ (.tail _ (.tail _ (.tail _ (.tail _ (.head _)))))
          have := Value.ref.inj (vb.fn (va₆.ext e₇)); subst this
          exact (va₆.ext e₇).kb lo.1 kb₈
        generalize hd8 : setSeg ds L (digsN (x % 2 ^ (len / 2 * k)) k (len / 2)) = ds₈ at C₈
        have hds₈ : ds₈.length = N := by rw [← hd8, setSeg_length (by rw [digsN_length]; omega)]; exact hds
        obtain ⟨cA, vA, eA, icA, l', itA, rfl, ml, loA, rA⟩ := C₈.cap _ _ (.head _)
        have el : l' = l := by simpa using ml
        subst el
        have a₈ := a₇.turnK (pl := false) (ρ' := V "upper" (.int ((x / 2 ^ (len / 2 * k) : Nat) : Int)) :: V "mid" (.int ((L + len / 2 : Nat) : Int)) :: ρ₁) (.tail _ (.tail _ (.tail _ (.tail _ (.head _))))) (va₆.ext e₇) kb₈ loA (reps_any rA) (val_of_all rfl (fun p hp => by
          simp only [List.mem_cons] at hp ⊢
          rcases hp with h | h | h <;> simp [h]))
        refine wpAny_execs_cons (wpAny_Expr (x_call hA' he a₈.rel (ev_name (.tail _ (.tail _ (.tail _ (.tail _ (.tail _ (.tail _ (.tail _ (.head _))))))))) C₈.fn (evs_cons (ev_name (.tail _ (.head _))) (evs_cons (ev_name (.tail _ (.tail _ (.head _)))) (evs_cons (ev_name (.tail _ (.tail _ (.tail _ (.tail _ (.tail _ (.head _))))))) evs_nil))) fun vs s₉ hvs k₉ => ?_) (by simp only [interactive, he]; rfl))
        obtain ⟨t2, u2, v2, rfl⟩ := rep_ints3 hvs
        obtain ⟨h₉, tk₉, rfl, e₉⟩ := k₉
        have a₉ := a₈.ext e₉
        have C₉ := C₈.ext e₉
        have eR : ((L + len : Nat) : Int) = ((L + len / 2 + (len - len / 2) : Nat) : Int) := by congr 1; omega
        rw [eR]
        refine inner59 B hfd0 k N hk hN h₀ g₀ hl0 fuel (len - len / 2) (L + len / 2) (x / 2 ^ (len / 2 * k)) ds₈ false (by omega) (by omega) (by omega) hsz hds₈ A' _ _ _ t2 u2 v2 hA' a₉.rel.g a₉.kept C₉ fun hA hAt kbA exA CA => ?_
        generalize hdA : setSeg ds₈ (L + len / 2) (digsN (x / 2 ^ (len / 2 * k)) k (len - len / 2)) = dsA at CA
        obtain ⟨cB, vB, eB, icB, l'', itB, rfl, mlB, loB, rB⟩ := CA.cap _ _ (.head _)
        have el : l'' = l' := by simpa using mlB
        subst el
        have aA := a₉.turnK (pl := false) (ρ' := ρ₁) (.head _) (va₈.ext e₉) kbA loB (reps_any rB) (val_of_all rfl (fun p hp => .tail _ (.tail _ (.tail _ hp))))
        refine wpAny_execs_nil ?_
        have hfin : dsA = setSeg ds L (digsN x k len) := by
          rw [← hdA, ← hd8, setSeg_two (by rw [digsN_length]) (by rw [digsN_length, digsN_length]; omega), digsN_split x k (len / 2) len (by omega), Nat.mul_comm k]
        rw [hfin] at aA
        obtain ⟨Cf, kbf, _⟩ := clo_of_act C aA dead (.head _) hkL
        exact k' hA hAt kbf aA.kept Cf
end
end
section
open PySem PySem.W PyProof.Rows PySem.Calls
set_option linter.unusedVariables false
set_option maxRecDepth 100000
theorem bl_zero : bl 0 = 0 := by decide
theorem bl_pos {a : Nat} (h : a ≠ 0) : 0 < bl a := by
  rcases Nat.eq_zero_or_pos (bl a) with e | e
  · have := bl_lt a; rw [e] at this; omega
  · exact e
noncomputable def cnt59 (a k : Nat) : Nat := (bl a + k - 1) / k
section
variable {prog : Program} {w : World} {hb : Heap} {n : Nat} {mg mb : Str → Option Value}
/-- a closure just made, whatever it captures -/
theorem Clo.of2 {env : Env} {h₀ hs h : Heap} {Y Z Yo Z' : List Addr} {f : Addr} {fd : FuncData} {scope : Scope} {ρ : Vars} (a : Act hb env h₀ hs Y Z h ρ) (F : FnO h f fd) (hcl : fd.closure = clOf env scope.names [])
    (hfree : ∀ y, (y, NameKind.free) ∈ scope.names → env.kindOf y = some .cell) (caps : Vars) (hcaps : ∀ x sl, (x, sl) ∈ caps → (x, NameKind.free) ∈ scope.names ∧ ∃ v, VarAt env h x v ∧ CapAt h Yo Z' v sl) :
    Clo h Yo Z' f fd caps := by
  have hc : ∀ y, (y, NameKind.free) ∈ scope.names → ∃ c, env.cells.lookup y = some c := fun y hy => by
    obtain ⟨q, _, sa⟩ := a.st y (.inr (hfree y hy))
    rcases sa with ⟨b1, _⟩ | ⟨_, b2, _⟩
    · rw [hfree y hy] at b1; cases b1
    · exact ⟨q, b2⟩
  have cm := clOf_mem (env := env) scope.names [] hc (fun _ m => nomatch m)
  have lk : ∀ x q, fd.closure.lookup x = some q → env.cells.lookup x = some q := fun x q e => cm (x, q) (by rw [← hcl]; exact mem_of_lookup e)
  refine ⟨F, fun x y q h1 h2 => a.apart x y q (lk x q h1) (lk y q h2), fun x q e => ?_, fun x sl m => ?_⟩
  · have hf := (clOf_from scope.names [] (x, q) (by rw [← hcl]; exact mem_of_lookup e)).resolve_left (by simp)
    obtain ⟨q', _, sa⟩ := a.st x (.inr (hfree x hf))
    rcases sa with ⟨b1, _⟩ | ⟨_, b2, v, o, ho, _⟩
    · rw [hfree x hf] at b1; cases b1
    · rw [lk x q e] at b2; cases b2; exact ⟨o, ho⟩
  · obtain ⟨m2, v, va, r⟩ := hcaps x sl m
    obtain ⟨c, h1, h2⟩ := cell_of va (.inl (hfree x m2))
    obtain ⟨c', hm'⟩ := clOf_has (env := env) scope.names [] x m2
    have e1 : fd.closure.lookup x = some c := by
      rw [hcl]
      obtain ⟨u, hu⟩ := lookup_of_has hm'
      have := cm (x, u) (mem_of_lookup hu)
      rw [h1] at this; cases this
      exact hu
    exact ⟨c, v, e1, h2, r⟩
theorem ct_i2d (B : Base hb mg mb) (T : Blt mg mb) {nm : Str} {doc pm : Value} {ann : Option Addr} {ct : Value} (F : FnAt' hb 59 (fdSt (stN 6) (Str.ofString "_int2digits") nm doc pm ann (.ref 58) ct)) (C : CodeHd hb 58 54) (hbi : hb.BuiltinsAt mg 54)
    (a k : Nat) (hk0 : 0 < k) (hk : k ≤ 200) (hN : cnt59 a k ≤ 1000) : Ct prog w hb 59 (n + cnt59 a k + 1) [.int (a : Nat), .int (k : Nat)] (dInts (digsN a k (cnt59 a k))) := by
  refine ct_raw B F [Str.ofString "a", Str.ofString "n"] rfl (fun vals hv => ?_) rfl (by decide +kernel) (fun x hx => ?_) (fun A env h₀ Y Z s Q E hA he hcode hqual act kq => ?_)
  · match vals, hv with | [a, b], _ => rfl
  · simp only [List.mem_cons, List.not_mem_nil, or_false] at hx
    rcases hx with rfl | rfl
    · left; rfl
    · right; rfl
  · let ρ₀ : Vars := [V "a" (.int (a : Nat)), V "n" (.int (k : Nat))]
    have a₀ : Act hb env h₀ h₀ Y Z s.heap ρ₀ := act
    have hNe : (List.replicate (cnt59 a k) [D.int (0 : Nat)]).flatten = (List.replicate (cnt59 a k) 0).map fun (i : Nat) => D.int (i : Int) := by
      rw [List.map_replicate]
      exact lm_rep_flat_one _ _
    have hdiv : bl a + k - 1 = bl a + k - 1 := rfl
    refine x_own hA he (ds := (List.replicate (cnt59 a k) 0).map fun (i : Nat) => D.int (i : Int)) ρ₀ a₀ (evF_eq hNe (evF_mulList (k := cnt59 a k) (evF_list (evs_cons (n_int (i := 0)) evs_nil) (by decide)) ?_ (by omega) (by decide) (by simp))) (.inr rfl) (ne_of_all (by kernel_rfl) (by simp)) (fun l h₁ tk₁ hl a₁ => ?_) (by unfold swapsWith; rfl)
    · exact n_div (n_sub (n_add (ev_bitlen (ev_name (.head _))) (ev_name (.tail _ (.head _)))) (n_int (i := 1)) (by omega)) (ev_name (.tail _ (.head _))) (by omega) (by omega)
    · generalize hds₀ : List.replicate (cnt59 a k) 0 = ds₀ at a₁
      have hlen₀ : ds₀.length = cnt59 a k := by rw [← hds₀]; simp
      refine wpAny_execs_cons (nestDef_K rfl rfl rfl ?_)
      have hq : qualnameIn env (Str.ofString "inner") (Str.ofString "inner") = "_int2digits.<locals>.inner" := qual_of he hqual (by kernel_rfl) (show Str.ofString "_int2digits" ++ _ ++ _ = _ by decide +kernel)
      have hkind : ∀ y, env.kindOf y = (fdSt (stN 6) (Str.ofString "_int2digits") nm doc pm ann (.ref 58) ct).scope.names.lookup y := fun y => by show env.scope.names.lookup y = _; rw [he]
      have hfree : ∀ y, (y, NameKind.free) ∈ (fdCl in59 default default [] default default none default default).scope.names → env.kindOf y = some .cell := fun y hy => by
        rw [hkind]
        have hb : ((fdCl in59 default default [] default default none default default).scope.names.all fun y => !(y.2 == .free) || (fdSt (stN 6) default default default default none default default).scope.names.lookup y.1 == some .cell) = true := by kernel_rfl
        have := List.all_eq_true.mp hb _ hy
        simp at this
        exact this
      have hcells : ∀ y, env.kindOf y = some .cell → ∃ c, env.cells.lookup y = some c := fun y hy => by
        obtain ⟨q, _, sa⟩ := a₁.st y (.inr hy)
        rcases sa with ⟨b1, _⟩ | ⟨_, b2, _⟩
        · rw [hy] at b1; cases b1
        · exact ⟨q, b2⟩
      refine mk_inner (s := { s with heap := h₁, toks := tk₁ }) B (c := 58) (P := 54) (closure_is fun y hy => hcells y (hfree y hy)) a₁.rel.glob hcode C a₁.rel.g hbi (by decide) ?_ ?_ fun f fd h' tk e1 e2 e3 e4 e5 e6 e7 e8 e9 Fo hfr ex => ?_
      · exact hq ▸ a₁.rel.g.tab.1
      · exact fun h h' x t => tabOk54 h h' x (hq ▸ t)
      · have a₂ := a₁.ext ex
        refine store_name (s := { s with heap := h', toks := tk }) he (d := .obj f) (O "a_digits" true (ds₀.map fun (i : Nat) => D.int (i : Int)) :: ρ₀) a₂ (by rw [Rep]) (.inr rfl) (ne_of_all (by kernel_rfl) (by simp)) fun q h₂ tk₂ a₃ hqY hqn kb => ?_
        have Fo₂ : FnO h₂ f fd := Fo.kbW kb (by
          simp only [List.mem_singleton]; rintro rfl
          exact a₁.rel.fresh hfr (List.mem_append_left _ hqY)) (fun b m => by simp at m; subst m; exact hqn)
        have hfd : ∃ q nm doc pm ann cd ct, fd = fdCl in59 q nm (clOf env (fdCl in59 default default [] default default none default default).scope.names []) doc pm ann cd ct := by
          obtain ⟨g1, g2, g3, g4, g5, g6, g7, g8, g9, g10, g11, g12, g13, g14, g15⟩ := fd
          dsimp only at e1 e2 e3 e4 e5 e6 e7 e8 e9
          subst e2 e3 e4 e5 e6 e7 e8 e9
          exact ⟨g2, g1, g10, g11, g12, g13, g14, rfl⟩
        obtain ⟨q', nm', doc', pm', ann', cd', ct', hfd⟩ := hfd
        let ρ₁ : Vars := V "inner" (.obj f) :: O "a_digits" true (ds₀.map fun (i : Nat) => D.int (i : Int)) :: ρ₀
        have a₃' : Act hb env h₀ h₀ (l :: Y) Z h₂ ρ₁ := a₃
        by_cases ha : a = 0
        · have hc0 : cnt59 a k = 0 := by
            subst ha; unfold cnt59; rw [bl_zero]; exact Nat.div_eq_of_lt (by omega)
          have hd0 : ds₀ = [] := List.eq_nil_of_length_eq_zero (by omega)
          refine St.run (st_if ρ₁ (c := false) (evB_eq (by subst ha; rfl) (evB_truthInt (ev_name (.tail _ (.tail _ (.head _)))) (fun _ _ => rfl))) (fun e => nomatch e) (fun _ => st_nil) (st_retOwn (.tail _ (.head _)))) hA he a₃' fun v h₄ tk₄ r e₄ => kq v h₄ tk₄ ?_ e₄
          rw [hd0] at r
          rw [hc0]
          exact r
        · have hbl := bl_pos ha
          have hcp : 0 < cnt59 a k := by
            unfold cnt59; exact Nat.div_pos (by omega) hk0
          have hal : a < 2 ^ (k * cnt59 a k) := by
            refine Nat.lt_of_lt_of_le (bl_lt a) (Nat.pow_le_pow_right (by decide) ?_)
            unfold cnt59
            have := Nat.div_add_mod (bl a + k - 1) k
            have h2 := Nat.mod_lt (bl a + k - 1) hk0
            omega
          refine wpAny_execs_cons (wpAny_If (evB_eq (show (((a : Nat) : Int) != 0) = true by simpa using ha) (evB_truthInt (ev_name (.tail _ (.tail _ (.head _)))) (fun _ _ => rfl)) A env (l :: Y ++ Z) _ _ _ hA he a₃'.rel fun s₄ k₄ => ?_))
          obtain ⟨h₄, tk₄, rfl, e₄⟩ := k₄
          simp only [if_true]
          have a₄ := a₃'.ext e₄
          have Fo₄ := Fo₂.ext e₄
          obtain ⟨l', items, va, lo, ri⟩ := a₄.rel.own _ _ _ (.tail _ (.head _))
          obtain ⟨b, mY, vb⟩ := a₄.own _ _ _ (.tail _ (.head _))
          have el : l' = b := Value.ref.inj (va.fn vb)
          subst el
          have kd : ∀ x, fd.scope.names.lookup x = some .free → env.kindOf x = some .cell := fun x hx => hfree x (by rw [hfd] at hx; exact mem_of_lookup hx)
          have C₄ : Clo h₄ [l'] [] f fd (caps59 f true ds₀ k) := Clo.of2 a₄ Fo₄ (by rw [hfd]; rfl) hfree _ fun x sl m => by
            simp only [caps59, List.mem_cons, List.not_mem_nil, or_false, Prod.mk.injEq] at m
            rcases m with ⟨rfl, rfl⟩ | ⟨rfl, rfl⟩ | ⟨rfl, rfl⟩
            · exact ⟨List.mem_iff_getElem?.mpr ⟨7, rfl⟩, _, va, l', items, rfl, List.mem_cons_self, lo, reps_any ri⟩
            · obtain ⟨v, hv, r⟩ := a₄.rel.val _ _ (.tail _ (.tail _ (.tail _ (.head _))))
              obtain ⟨t, rfl⟩ := rep_int r
              exact ⟨List.mem_iff_getElem?.mpr ⟨9, rfl⟩, _, hv, rep_of_int h₄ ([l'] ++ []) _ _⟩
            · obtain ⟨v, hv, r⟩ := a₄.rel.val _ _ (.head _)
              rw [Rep] at r; subst r
              exact ⟨List.mem_iff_getElem?.mpr ⟨8, rfl⟩, _, hv, show Rep _ _ _ _ by rw [Rep]⟩
          refine wpAny_execs_cons (wpAny_Expr (x_call hA he a₄.rel (ev_name (.head _)) C₄.fn (evs_cons (ev_name (.tail _ (.tail _ (.head _)))) (evs_cons (n_int (i := 0)) (evs_cons (n_len (k := cnt59 a k) (gl_blt B rfl T.len.1 T.len.2) (ev_own (.tail _ (.head _))) (by rw [List.length_map]; exact hlen₀) (by rw [List.length_map]; omega)) evs_nil))) fun vs s₅ hvs k₅ => ?_) (by simp only [interactive, he]; rfl))
          obtain ⟨t1, u1, v1, rfl⟩ := rep_ints3 hvs
          obtain ⟨h₅, tk₅, rfl, e₅⟩ := k₅
          have a₅ := a₄.ext e₅
          have C₅ := C₄.ext e₅
          rw [show ((cnt59 a k : Nat) : Int) = ((0 + cnt59 a k : Nat) : Int) by omega]
          refine inner59 B hfd k (cnt59 a k) hk hN h₀ a₅.g₀ (a₅.fresh _ mY) (cnt59 a k) (cnt59 a k) 0 a ds₀ true (Nat.le_refl _) hcp (by omega) hal hlen₀ A _ _ _ t1 u1 v1 hA a₅.rel.g a₅.kept C₅ fun h₆ tk₆ kb₆ ex₆ C₆ => ?_
          have e6 : setSeg ds₀ 0 (digsN a k (cnt59 a k)) = digsN a k (cnt59 a k) := setSeg_all (by rw [digsN_length, hlen₀])
          rw [e6] at C₆
          obtain ⟨cA, vA, eA, icA, l₂, itA, rfl, ml, loA, rA⟩ := C₆.cap _ _ (.head _)
          have el : l₂ = l' := by simpa using ml
          subst el
          have a₆ := a₅.turnK (pl := false) (ρ' := ρ₀) (.tail _ (.head _)) (va.ext e₅) kb₆ loA (reps_any rA) (val_of_all rfl (fun p hp => .tail _ (.tail _ hp)))
          refine wpAny_execs_nil ?_
          exact St.run (st_retOwn (.head _)) hA he a₆ fun v h₇ tk₇ r e₇ => kq v h₇ tk₇ r e₇
end
end
section
open PySem PySem.W PyProof.Rows PySem.Calls
set_option linter.unusedVariables false
set_option maxRecDepth 100000
section
variable {prog : Program} {w : World} {hb : Heap} {t : Bool} {n : Nat} {sc : Scope} {ρ ρ' : Vars} {R : Out} {rest : List Stmt} {mg mb : Str → Option Value}
/-- a call of a function without cells; its arguments bound by a walk of their own -/
theorem call_raw (B : Base hb mg mb) {f : Addr} {fd : FuncData} {body : List Stmt} (names : List Str) {ds : List D} (hbody : fd.body = .stmts body) (hlen : names.length = ds.length) (hnd : names.Nodup)
    (hnm : ∀ x ∈ names, fd.scope.names.lookup x = some .local) (hcell : ∀ x ∈ fd.scope.names, x.2 ≠ .cell) (hglob : fd.globals = mainGlobals) (hblt : fd.builtins = builtinsNs) (hclo : fd.closure = [])
    {A : Around} {Z : List Addr} {s : Shared} {pos : List Value} {kw : List (Str × Value)} {vals : List Value} {P : Heap → Prop} {Q : Value → Shared → Prop} {E : Value → Shared → Prop} (hA : Rm (n + 1) A) (F : FnO s.heap f fd) (hg : G hb s.heap) {h₀ : Heap} (g₀ : G hb h₀) (kept : Ext hb h₀ s.heap)
    (hZ : ∀ a ∈ Z, ∃ o, s.heap.get? a = some o ∧ tabLike o = false)
    (hbind : ∀ (Qb : List (Str × Value) → Shared → Prop) (Eb : Value → Shared → Prop), (∀ h₁ tk₁, (∀ b o, s.heap.get? b = some o → h₁.get? b = some o) → P h₁ → Reps h₁ Z ds vals → Qb (names.zip vals) { s with heap := h₁, toks := tk₁ }) → wpAny (model prog w) A.in1 (bindArgs fd ⟨pos, kw⟩) Qb Eb s)
    (k : ∀ A' env h₁ h₂ tk E', Rm n A' → env.scope = fd.scope → env.code = fd.code → s.heap.get? env.locals = none → P h₁ → h₁.get? env.locals = none → (∀ b o, h₁.get? b = some o → h₂.get? b = some o) → Act hb env h₀ s.heap [env.locals] Z h₂ (names.zip (ds.map .val)) →
      wpAny (model prog w) A' (execs body env) (fun fl s' => Q (match fl with | .ret v => v | _ => .none) s') E' { s with heap := h₂, toks := tk })
    (hco : fd.scope.isCoroutine = false := by rfl) (hgen : fd.scope.isGenerator = false := by rfl) (hk : fd.scope.kind = .function := by rfl) : wpAny (model prog w) A (call (.ref f) pos kw) Q E s := by
  obtain ⟨o, ho, hd⟩ := F.at_
  obtain ⟨c, oc, vs, tk, hc, hoc, hcc, hcd, hq⟩ := F.code
  refine wpAny_call (codeAny_call_function (o := o) (fd := fd) (by have := hA.dp; unfold recursionLimit; omega) ho hd hco hgen hbody ⟨c, oc, vs, tk, hc, hoc, hcd, hq⟩ ?_)
  refine hbind _ _ fun h₁ tk₁ full₁ hP hr => ?_
  have vlen := hr.length
  rw [hclo]
  refine wpAny_newFunctionEnv (s := { s with heap := h₁, toks := tk₁ }) hcell (fun x hx => hnm _ (List.of_mem_zip hx).1) (fun h' hn hsb => ?_) hk
  have full₂ : ∀ b o, h₁.get? b = some o → h'.get? b = some o := fun b o e => (hsb.2 b (Nat.ne_of_lt (Heap.lt_size e))).trans (Heap.get?_push_of_some _ e)
  have full : ∀ b o, s.heap.get? b = some o → h'.get? b = some o := fun b o e => full₂ _ _ (full₁ _ _ e)
  have ex : Ext hb s.heap h' := Ext.full full
  refine ⟨?_, codeAny_func ?_⟩
  · obtain ⟨mc, a, b⟩ := B.lim
    exact ⟨mc, ntab_ns a fun b o t e => full _ _ (hg.old b o t e), b⟩
  generalize hE : newEnv fd.scope h₁.objs.size fd.globals [] (fd.qualname ++ ".<locals>.") (some f) fd.code none fd.builtins = env
  have eL : env.locals = h₁.objs.size := by rw [← hE]; rfl
  have eS : env.scope = fd.scope := by rw [← hE]; rfl
  have eC : env.cells = [] := by rw [← hE]; rfl
  have kindE : ∀ x, env.kindOf x = fd.scope.names.lookup x := fun x => by show env.scope.names.lookup x = _; rw [eS]
  have dead₁ : h₁.get? env.locals = none := by rw [eL]; exact Heap.get?_none_of_le (Nat.le_refl _)
  have dead : s.heap.get? env.locals = none := by
    cases q : s.heap.get? env.locals with
    | none => rfl
    | some o => rw [full₁ _ _ q] at dead₁; cases dead₁
  have hn : h'.Ns env.locals (fun x => (names.zip vals).reverse.lookup x) := by rw [eL]; exact hn
  have up : ∀ {d v}, Rep h₁ Z d v → Rep h' ([env.locals] ++ Z) d v := fun {d v} x => (x.more (W := [env.locals]) fun b m => by simp at m; subst m; exact dead₁).ext (Ext.full (hb := hb) full₂)
  have act : Act hb env h₀ s.heap [env.locals] Z h' (names.zip (ds.map .val)) := by
    refine ⟨⟨hg.mono full, by rw [eS]; exact hk, by rw [← hE]; exact hglob, by rw [← hE]; exact hblt, fun b m => ?_, fun x d' m => ?_, fun x pl es m => ?_⟩, g₀, kept.trans ex, Kb.ext ex, fun b m => ?_, fun x hx => ?_, fun x y q h1 h2 => ?_, fun y q hq' e => ?_, fun x pl es m => ?_, fun b m mz => ?_⟩
    · rcases List.mem_append.mp m with m | m
      · simp only [List.mem_singleton] at m; subst m
        exact (nice_ns hn).ntab
      · obtain ⟨o', ho', t'⟩ := hZ b m
        exact ⟨o', full b o' ho', t'⟩
    · obtain ⟨i, d'', v, e1, e2, e3, e4⟩ := zip_val vlen m
      cases e3
      obtain ⟨v', e5, r⟩ := hr.get e1
      rw [e2] at e5; cases e5
      have hnd' : ((names.zip vals).map (·.1)).Nodup := by
        rw [List.map_fst_zip (by rw [hlen, vlen]; exact Nat.le_refl _)]; exact hnd
      refine ⟨v, .inl ⟨by rw [kindE]; exact hnm x (List.of_mem_zip e4).1, _, hn, ?_⟩, up r⟩
      exact lookup_mem_nodup (by rw [List.map_reverse]; exact (List.reverse_perm _).nodup_iff.mpr hnd') (List.mem_reverse.mpr e4)
    · obtain ⟨i, d'', v, e1, e2, e3, e4⟩ := zip_val vlen m
      cases e3
    · simp only [List.mem_singleton] at m; subst m
      exact kept.none dead
    · rcases hx with q | q
      · exact ⟨env.locals, List.mem_cons_self, .inl ⟨q, rfl, _, hn⟩⟩
      · rw [kindE] at q
        exact absurd rfl (hcell _ (mem_of_lookup q))
    · rw [eC] at h1; cases h1
    · rw [eC] at hq'; cases hq'
    · obtain ⟨i, d'', v, e1, e2, e3, e4⟩ := zip_val vlen m
      cases e3
    · simp only [List.mem_singleton] at m; subst m
      obtain ⟨o', ho', _⟩ := hZ _ mz
      rw [dead] at ho'; cases ho'
  exact k (A.deeper env) env h₁ h' _ _ ⟨hA.hd, by have := hA.dp; simp only [Around.deeper] at *; omega, by have := hA.un; simp only [Around.deeper] at *; omega⟩ eS (by rw [← hE]; rfl) dead hP dead₁ full₂ act
theorem ClsAt.g {C N : Addr} {mN : Str → Option Value} (X : ClsAt hb C N mN) {h : Heap} (g : G hb h) : ClsAt h C N mN :=
  let ⟨nm, q, bs, sn, sub, col, dd, k0, k1, k2, k3, k5, e⟩ := X.obj; ⟨⟨nm, q, bs, sn, sub, col, dd, k0, k1, k2, k3, k5, g.old _ _ rfl e⟩, Ns.off X.ns fun o => g.old _ o⟩
/-- what a class is known to be -/
structure Kl (hb : Heap) (C N : Addr) (mN : Str → Option Value) : Prop where
  at_ : ClsAt hb C N mN
  ga : mN "__getattribute__" = none
  gt : mN "__getattr__" = none
  sa : mN "__setattr__" = none
theorem x_attr {C N x dx : Addr} {mN mA : Str → Option Value} (X : Kl hb C N mN) {A : Around} {s : Shared} {name : Str} {v : Value} {expr : Bool} {Q : Value → Shared → Prop} {E : Value → Shared → Prop} (g : G hb s.heap) (I : InsAt s.heap x dx C mA) (hv : mA name = some v) (hna : mN name = none)
    (hB : typeLookup (.type "object") name = pure none) (hh : handedOut v = pure v) (hq : Q v { s with toks := s.toks + 1 }) : wpAny (model prog w) A (getAttr (.ref x) name expr) Q E s := by
  obtain ⟨hh', g', d, t, os⟩ := s
  obtain ⟨nm, q, bs, sn, sub, col, dd, k0, k1, k2, k3, k5, hC⟩ := (ClsAt.g X.at_ g).obj
  exact load_attr hC (ClsAt.g X.at_ g).ns X.ga hna hB I.inst hv hh hq
theorem x_method {C N x dx f : Addr} {mN mA : Str → Option Value} (X : Kl hb C N mN) {A : Around} {s : Shared} {name : Str} {pl : Sem Bool} {y : Option Value} {Q : Value × List Value → Shared → Prop} {E : Value → Shared → Prop} (g : G hb s.heap) (I : InsAt s.heap x dx C mA) (hf : mN name = some (.ref f))
    (hfo : ∃ o, hb.get? f = some o ∧ o.cls = .type "function") (hsh : mA name = none) (hB : typeLookup (.type "object") name = pure y) (h : Q (.ref f, [.ref x]) s) : wpAny (model prog w) A (getMethod (.ref x) name pl) Q E s := by
  obtain ⟨hh', g', d, t, os⟩ := s
  obtain ⟨nm, q, bs, sn, sub, col, dd, k0, k1, k2, k3, k5, hC⟩ := (ClsAt.g X.at_ g).obj
  obtain ⟨o, ho, hc⟩ := hfo
  exact method_of hC (ClsAt.g X.at_ g).ns X.ga X.gt hf (g.old _ _ (tabLike_cls hc) ho) hc hB I.inst hsh h
/-- an attribute is stored -/
theorem x_store {C N x dx : Addr} {mN mA : Str → Option Value} (X : Kl hb C N mN) {A : Around} {s : Shared} {name : Str} {v : Value} {ns : List Str} {Q : Unit → Shared → Prop} {E : Value → Shared → Prop} (g : G hb s.heap) (I : InsAt s.heap x dx C mA) (hna : mN name = none)
    (hB : typeLookup (.type "object") name = pure none) (hx : hb.get? x = none) (hdx : hb.get? dx = none) (hw : Within mA ns) (hsz : ns.length ≤ 100)
    (hq : ∀ h' tk', InsAt h' x dx C (fun y => if y = name then some v else mA y) → Kb hb [x, dx] s.heap h' → Q () { s with heap := h', toks := tk' }) : wpAny (model prog w) A (setAttr (.ref x) name v) Q E s := by
  obtain ⟨hh', g', d, t, os⟩ := s
  obtain ⟨nm, q, bs, sn, sub, col, dd, k0, k1, k2, k3, k5, hC₀⟩ := X.at_.obj
  have hC := g.old _ _ rfl hC₀
  have hxC : x ≠ C := by rintro rfl; rw [hx] at hC₀; cases hC₀
  obtain ⟨ox, ex, cx, nx, dxx, ne, nsx⟩ := id I
  refine store_attr PySem.F.store_object hC (ClsAt.g X.at_ g).ns X.sa hna hB hxC I.inst (fun h' tk' I' hk hsame => ?_) hw (by unfold sizeLine; omega)
  obtain ⟨o₁, e₁, c₁, d₁, s₁, dd₁⟩ := hsame ox ex
  obtain ⟨o₂, e₂, c₂, n₂, r₂⟩ := I'
  rw [e₁] at e₂; cases e₂
  have dx₁ := dd₁ dx dxx
  have kk : ∀ b o, b ∉ [x, dx] → hh'.get? b = some o → h'.get? b = some o := fun b o m e => hk b o (fun q => m (by simp [q])) (fun o₀ dx' e0 ed q => by
    rw [ex] at e0; cases e0
    rw [dxx] at ed; cases ed
    exact m (by simp [q])) e
  refine hq h' tk' ?_ ?_
  · rcases r₂ with ⟨q, _⟩ | ⟨dx', e3, ne3, ns3⟩
    · rw [dx₁] at q; cases q
    · rw [dx₁] at e3; cases e3
      exact ⟨o₁, e₁, c₂, n₂, dx₁, ne3, ns3⟩
  · refine Kb.of kk (fun b m => ?_) (fun b m => ?_)
    · simp only [List.mem_cons, List.not_mem_nil, or_false] at m
      rcases m with rfl | rfl
      · exact ⟨ox, ex, by unfold niceO; rw [cx]; split <;> rfl⟩
      · obtain ⟨o', es, ep, f1, f2, f3⟩ := nsx
        exact ⟨o', f1, by unfold niceO; rw [f2]⟩
    · simp only [List.mem_cons, List.not_mem_nil, or_false] at m
      rcases m with rfl | rfl
      · exact hx
      · exact hdx
end
end
section
open PySem PySem.W PyProof.Rows PySem.Calls
set_option linter.unusedVariables false
set_option maxRecDepth 100000
open Builtin Builtin.Re
noncomputable abbrev ri (i : Int) : Value := .int i 0
noncomputable def tup162 : Obj := { cls := .type "tuple", data := .seq #[ri 14, ri 10, ri 4, ri 1, ri 1, ri 22, ri 0, ri 31, ri 16, ri 127, ri 0, ri 13, ri 7, ri 22, ri 0, ri 31, ri 16, ri 127, ri 0, ri 1] }
noncomputable def tup167 : Obj := { cls := .type "tuple", data := .seq #[ri 14, ri 14, ri 4, ri 1, ri 1, ri 9, ri 4294966783, ri 0, ri 0, ri 2147483648, ri 0, ri 0, ri 0, ri 0, ri 0, ri 13, ri 11, ri 9, ri 4294966783, ri 0, ri 0, ri 2147483648, ri 0, ri 0, ri 0, ri 0, ri 0, ri 1] }
noncomputable def patO (tx : Value) (fl : Value) (code : Addr) : Obj := { cls := .type "re.Pattern", data := .fields #[tx, fl, ri 0, .none, .none, .ref code, ri 0] }
noncomputable def tgt (p : Addr) (x : Str) (t : Tok) (items : Array Value) : ReTarget := { pattern := .ref p, string := .str x t, code := (items.map reRawOf).map (·.toNat), text := x.cps, kind := 0, groups := 0, pos := min 0 x.cps.size, lim := min (2 ^ 63 - 1) x.cps.size }
section
variable {M : Model} {A : Around} {E : Value → Shared → Prop} {h : Heap} {g : Array GenState} {d : Drawn} {t : Nat} {os : OsState}
theorem target_at {p c : Addr} {tx fl : Value} {x : Str} {tk : Tok} {items : Array Value} {Q : ReTarget → Shared → Prop} (h1 : h.get? p = some (patO tx fl c)) (h2 : h.get? c = some { cls := .type "tuple", data := .seq items })
    (q : Q (tgt p x tk items) ⟨h, g, d, t, os⟩) : wpAny M A (reTarget "re.Pattern.search" "search" ⟨[.ref p, .str x tk], []⟩) Q E ⟨h, g, d, t, os⟩ := by
  unfold reTarget
  wp_walk
  exact q
noncomputable def fin : Nat → Sre.M → Option Sre.M
  | 0, _ => none
  | n + 1, m => if (m.runFor 4).outcome.isSome = true then some (m.runFor 4) else fin n (m.runFor 4)
theorem drive_at : ∀ (n N : Nat) (m m' : Sre.M) {s : Shared} {Q : Sre.M → Shared → Prop}, fin n m = some m' → n ≤ N → Q m' s → wpAny M A (reDrive N m) Q E s
  | 0, N, m, m', s, Q, h, _, _ => by cases h
  | n + 1, 0, m, m', s, Q, _, h, _ => by omega
  | n + 1, N + 1, m, m', s, Q, h, hN, q => by
    unfold fin at h
    unfold reDrive reTurnSteps
    dsimp only
    split at h
    · rename_i e
      rw [if_pos e]; cases h; exact wpAny_pure q
    · rename_i e
      rw [if_neg e]
      exact wpAny_bind (wpAny_rule (drive_at n N _ m' h (by omega) q))
noncomputable def failsIn (n : Nat) (m : Sre.M) : Bool := match fin n m with
  | some m' => (match m'.outcome with | some .failed => true | _ => false)
  | none => false
theorem run_none {n : Nat} {m : Sre.M} {s : Shared} {Q : Option Sre.M → Shared → Prop} (h : failsIn n m = true) (hn : n ≤ 2 ^ 64) (q : Q none s) : wpAny M A (reRunToEnd m) Q E s := by
  unfold failsIn at h
  split at h
  · rename_i m' hm
    unfold reRunToEnd
    refine wpAny_bind (drive_at n _ m m' hm hn ?_)
    refine wpAny_bind ?_
    have : ∀ (l : List Nat) {Q : PUnit → Shared → Prop}, Q ⟨⟩ s → wpAny M A (forIn l PUnit.unit fun i (r : PUnit) => if m'.seen.has i = true then (rule (Sre.names.getD i "") >>= fun _ => (pure (ForInStep.yield PUnit.unit) : Sem _)) else pure (ForInStep.yield PUnit.unit)) Q E s := by
      intro l
      induction l with
      | nil => intro Q q; rw [List.forIn_nil]; exact wpAny_pure q
      | cons a l ih =>
        intro Q q
        rw [List.forIn_cons]
        refine wpAny_bind ?_
        split
        · exact wpAny_bind (wpAny_rule (wpAny_pure (ih q)))
        · exact wpAny_pure (ih q)
    refine this _ ?_
    split at h
    · rename_i e; rw [e]; exact wpAny_pure q
    · cases h
  · cases h
end
end
section
open PySem PySem.W PyProof.Rows PySem.Calls
set_option linter.unusedVariables false
set_option maxRecDepth 100000
theorem handed_rep {h : Heap} {Z : List Addr} {d : D} {v : Value} (x : Rep h Z d v) : handedOut v = pure v := by
  cases d <;> rw [Rep] at x
  · subst x; rfl
  · subst x; rfl
  · obtain ⟨t, rfl⟩ := x; rfl
  · obtain ⟨t, rfl⟩ := x; rfl
  · obtain ⟨a, _, rfl, _⟩ := x; rfl
  · obtain ⟨a, _, rfl, _⟩ := x; rfl
  · obtain ⟨a, _, _, rfl, _⟩ := x; rfl
  · subst x; rfl
  · obtain ⟨a, _, _, _, rfl, _⟩ := x; rfl
namespace RP
theorem slot_search : PySem.Slot "re.Pattern" "search" "re.Pattern.search" :=
  .of (owner := "re.Pattern") (n := "search") (by rw [typeLookup_type, builtinLookup_eq_fast]; kernel_rfl) (by decide +kernel) (by decide +kernel) (by decide +kernel)
    (by first | exact .inl (by decide +kernel) | exact .inr (by decide +kernel)) (by rw [isSubtype_type]; kernel_rfl)
theorem entry_search : entryFor table "re.Pattern.search" = some Builtin.«re.Pattern.search» := entryFor_of_tree (by kernel_rfl)
theorem type_search : typeOf (.builtin "re.Pattern.search") = pure (.type "method_descriptor") := by show builtinType _ = _; rw [builtinType_eq_fast]; kernel_rfl
theorem plain : PlainAttrs "re.Pattern" :=
  ⟨⟨"object.__getattribute__", by rw [typeLookup_type, builtinLookup_eq_fast]; kernel_rfl, by decide +kernel⟩, by rw [typeLookup_type, builtinLookup_eq_fast]; kernel_rfl⟩
theorem args_search (a b : Value) : argsOk "re.Pattern.search" ⟨[a, b], []⟩ := by unfold argsOk; kernel_rfl
end RP
noncomputable def letters : List Nat := [97, 98, 99, 100, 65, 66, 67, 68]
noncomputable def code162 : Array Nat := #[14, 10, 4, 1, 1, 22, 0, 31, 16, 127, 0, 13, 7, 22, 0, 31, 16, 127, 0, 1]
noncomputable def code167 : Array Nat := #[14, 14, 4, 1, 1, 9, 4294966783, 0, 0, 2147483648, 0, 0, 0, 0, 0, 13, 11, 9, 4294966783, 0, 0, 2147483648, 0, 0, 0, 0, 0, 1]
theorem fails162 : ∀ c ∈ letters, failsIn 100 (Sre.forSearch code162 #[c] 0 0 1 false) = true := by
  have : (letters.all fun c => failsIn 100 (Sre.forSearch code162 #[c] 0 0 1 false)) = true := by decide +kernel
  exact fun c hc => List.all_eq_true.mp this c hc
theorem fails167 : ∀ c ∈ letters, failsIn 100 (Sre.forSearch code167 #[c] 0 0 1 false) = true := by
  have : (letters.all fun c => failsIn 100 (Sre.forSearch code167 #[c] 0 0 1 false)) = true := by decide +kernel
  exact fun c hc => List.all_eq_true.mp this c hc
/-- one of the two patterns -/
structure PatAt (hb : Heap) (p c : Addr) (items : Array Value) (code : Array Nat) : Prop where
  pat : ∃ tx fl, hb.get? p = some (patO tx fl c)
  tup : hb.get? c = some { cls := .type "tuple", data := .seq items }
  cod : (items.map Builtin.Re.reRawOf).map (·.toNat) = code
  ok : ∀ c ∈ letters, failsIn 100 (Sre.forSearch code #[c] 0 0 1 false) = true
section
variable {prog : Program} {w : World} {hb : Heap} {n : Nat} {sc : Scope} {ρ : Vars}
theorem call_search {p c : Addr} {items : Array Value} {code : Array Nat} (P : PatAt hb p c items code) {A : Around} {s : Shared} {x : Nat} {t : Tok} {Q : Value → Shared → Prop} {E : Value → Shared → Prop} (g : G hb s.heap) (hx : x ∈ letters) (q : Q .none s) :
    wpAny (model prog w) A (call (.builtin "re.Pattern.search") [.ref p, .str ⟨#[x]⟩ t]) Q E s := by
  obtain ⟨tx, fl, h1⟩ := P.pat
  have h1' := g.old _ _ rfl h1
  have h2' := g.old _ _ rfl P.tup
  have M : Meets (Builtin.«re.Pattern.search» ⟨[.ref p, .str ⟨#[x]⟩ t], []⟩) (fun _ R s => s.heap.get? p = some (patO tx fl c) ∧ s.heap.get? c = some { cls := .type "tuple", data := .seq items } ∧ R (.ok (.ret Value.none)) s) := .of_wp fun prog w A R s h => ?_
  · exact call_meets RP.slot_search (show s.TypeIs (.ref p) "re.Pattern" from ⟨_, h1', rfl⟩) RP.entry_search (RP.args_search _ _) M ⟨h1', h2', q⟩
  obtain ⟨hp, g, d, tk, os⟩ := s
  obtain ⟨h1, h2, h⟩ := h
  unfold Builtin.«re.Pattern.search»
  refine wpAny_bind (target_at h1 h2 ?_)
  have e : Sre.forSearch (tgt p ⟨#[x]⟩ t items).code (tgt p ⟨#[x]⟩ t items).text (tgt p ⟨#[x]⟩ t items).groups (tgt p ⟨#[x]⟩ t items).pos (tgt p ⟨#[x]⟩ t items).lim false = Sre.forSearch code #[x] 0 0 1 false := by
    rw [show (tgt p ⟨#[x]⟩ t items).code = code from P.cod]; rfl
  unfold Builtin.Re.reAnswer
  rw [e]
  refine wpAny_bind (run_none (P.ok x hx) (by decide) ?_)
  exact wpAny_pure ⟨_, rfl, h⟩
theorem tabLike_pat {tx fl : Value} {c : Addr} : tabLike (patO tx fl c) = false := rfl
/-- `if regex.search(e)` -/
theorem evB_search {p c : Addr} {items : Array Value} {code : Array Nat} (P : PatAt hb p c items code) {r : Str} {rp apos pos : Pos} {e : Expr} {x : Nat} (er : Ev prog w hb n sc ρ (.Name r rp) (.obj p)) (ev : Ev prog w hb n sc ρ e (.str ⟨#[x]⟩)) (hx : x ∈ letters)
    (hs : ∀ env, starEach [e] env = [(false, eval e env)] := by intro _; rfl)
    (he : ∀ env whole, PySem.isTrue (.Call (.Attribute (.Name r rp) (Str.ofString "search") apos) [e] [] pos) env whole = (do let v ← whole; standAt (Expr.pos (.Call (.Attribute (.Name r rp) (Str.ofString "search") apos) [e] [] pos)); holding [v] (truthy v)) := by intro _ _; rfl)
    (hE : ∀ env, ∃ pl, eval (.Call (.Attribute (.Name r rp) (Str.ofString "search") apos) [e] [] pos) env = (do
      let ov ← eval (.Name r rp) env
      standAt apos.atName
      let (f, first) ← holding [ov] (getMethod ov (Str.ofString "search") pl)
      callWith pos f first (backTo pos (starEach [e] env)) []) := by intro _; exact ⟨_, rfl⟩) :
    EvB prog w hb n sc ρ (.Call (.Attribute (.Name r rp) (Str.ofString "search") apos) [e] [] pos) false := fun A env Z s Q E hA h2 rl k => by
  obtain ⟨pl, hE⟩ := hE env
  refine isTrue_plain (MethodCall_ (pl := pl) (er A env Z s _ E hA h2 rl fun v s₁ hv k₁ => ?_) hE) (he _ _)
  rw [Rep] at hv; subst hv
  obtain ⟨tx, fl, h1⟩ := P.pat
  have h1' := (rl.ext k₁.ext).g.old _ _ rfl h1
  refine getMethod_builtin (T := "re.Pattern") ⟨_, h1', rfl⟩ RP.plain RP.slot_search RP.type_search (fun a e => by cases e; exact ⟨_, h1', rfl⟩) ?_
  refine callWith_method1 ?_ (by rw [hs]; rfl)
  rw [hs]
  refine spliced_cons (ev A env Z s₁ _ E hA h2 (rl.ext k₁.ext) fun u s₂ hu k₂ => spliced_nil ?_)
  obtain ⟨t, rfl⟩ := rep_str hu
  exact call_search P ((rl.ext k₁.ext).ext k₂.ext).g hx (PyProof.Rows.truthy_none (k _ (k₁.trans k₂)))
/-- `e.lower()` -/
theorem ev_lower {e : Expr} {apos pos : Pos} {x y : Str} (ev : Ev prog w hb n sc ρ e (.str x)) (hy : Txt.lower x = y) (hz : Builtin.Str.tooLong (Txt.lower x).length = false)
    (hE : ∀ env, ∃ pl, eval (.Call (.Attribute e (Str.ofString "lower") apos) [] [] pos) env = (do
      let ov ← eval e env
      standAt apos.atName
      let (f, first) ← holding [ov] (getMethod ov (Str.ofString "lower") pl)
      callWith pos f first (backTo pos (starEach [] env)) []) := by intro _; exact ⟨_, rfl⟩) :
    Ev prog w hb n sc ρ (.Call (.Attribute e (Str.ofString "lower") apos) [] [] pos) (.str y) := fun A env Z s Q E hA he rl k => by
  obtain ⟨pl, hE⟩ := hE env
  refine MethodCall_ (pl := pl) (ev A env Z s _ E hA he rl fun u s₁ hu k₁ => ?_) hE
  obtain ⟨t, rfl⟩ := rep_str hu
  refine GM.lower (callWith_method0 (SC.lower hz ?_))
  rw [hy]
  exact k _ _ (rep_of_str _ _ _ _) (k₁.trans (.tok _ _ _))
/-- `e.index(a)` -/
theorem ev_index {e a : Expr} {apos pos : Pos} {x y : Str} {i : Nat} {r : List Nat} (ev : Ev prog w hb n sc ρ e (.str x)) (ea : Ev prog w hb n sc ρ a (.str y)) (ho : Builtin.Str.occurrences x y 0 x.length 1 = i :: r)
    (hs : ∀ env, starEach [a] env = [(false, eval a env)] := by intro _; rfl)
    (hE : ∀ env, ∃ pl, eval (.Call (.Attribute e (Str.ofString "index") apos) [a] [] pos) env = (do
      let ov ← eval e env
      standAt apos.atName
      let (f, first) ← holding [ov] (getMethod ov (Str.ofString "index") pl)
      callWith pos f first (backTo pos (starEach [a] env)) []) := by intro _; exact ⟨_, rfl⟩) :
    Ev prog w hb n sc ρ (.Call (.Attribute e (Str.ofString "index") apos) [a] [] pos) (.int (i : Nat)) := fun A env Z s Q E hA he rl k => by
  obtain ⟨pl, hE⟩ := hE env
  refine MethodCall_ (pl := pl) (ev A env Z s _ E hA he rl fun u s₁ hu k₁ => ?_) hE
  obtain ⟨t, rfl⟩ := rep_str hu
  refine GM.index (callWith_method1 ?_ (by rw [hs]; rfl))
  rw [hs]
  refine spliced_cons (ea A env Z s₁ _ E hA he (rl.ext k₁.ext) fun u s₂ hu k₂ => spliced_nil ?_)
  obtain ⟨t, rfl⟩ := rep_str hu
  exact SC.index ho (k _ _ (rep_of_int _ _ _ _) ((k₁.trans k₂).trans (.tok _ _ _)))
theorem strs_of {h : Heap} {Z : List Addr} : ∀ {ys : List Str} {vs : List Value}, Reps h Z (ys.map D.str) vs → StrsAre vs ys
  | [], _, x => by rw [List.map_nil, Reps] at x; subst x; exact .nil
  | y :: ys, vs, x => by
    rw [List.map_cons, Reps] at x
    obtain ⟨v, r, rfl, h1, h2⟩ := x
    obtain ⟨t, rfl⟩ := rep_str h1
    exact .cons _ _ (strs_of h2)
/-- `e.join(a)`, a a list of strs -/
theorem ev_joinL {e a : Expr} {apos pos : Pos} {x : Str} {ys : List Str} (ev : Ev prog w hb n sc ρ e (.str x)) (ea : EvL prog w hb n sc ρ a (ys.map D.str)) (hsep : x.length ≤ 16) (hw : (ys.map (·.length)).sum + ys.length ≤ 1048576)
    (hs : ∀ env, starEach [a] env = [(false, eval a env)] := by intro _; rfl)
    (hE : ∀ env, ∃ pl, eval (.Call (.Attribute e (Str.ofString "join") apos) [a] [] pos) env = (do
      let ov ← eval e env
      standAt apos.atName
      let (f, first) ← holding [ov] (getMethod ov (Str.ofString "join") pl)
      callWith pos f first (backTo pos (starEach [a] env)) []) := by intro _; exact ⟨_, rfl⟩) :
    Ev prog w hb n sc ρ (.Call (.Attribute e (Str.ofString "join") apos) [a] [] pos) (.str (Txt.join x ys)) := fun A env Z s Q E hA he rl k => by
  obtain ⟨pl, hE⟩ := hE env
  refine MethodCall_ (pl := pl) (ev A env Z s _ E hA he rl fun u s₁ hu k₁ => ?_) hE
  obtain ⟨t, rfl⟩ := rep_str hu
  refine GM.join (callWith_method1 ?_ (by rw [hs]; rfl))
  rw [hs]
  refine spliced_cons (ea A env Z s₁ _ E hA he (rl.ext k₁.ext) fun l items s₂ hl hr k₂ => spliced_nil ?_)
  exact join_listW hl (strs_of hr) hsep hw fun t' tk' => k _ _ (rep_of_str _ _ _ _) ((k₁.trans k₂).trans (.tok _ _ _))
/-- `type(e) is str` -/
theorem evB_isStr {e : Expr} {p pos cp q : Pos} {x : Str} (g1 : Gl prog w hb n sc ρ "type" (.type "type")) (g2 : Gl prog w hb n sc ρ "str" (.type "str")) (ev : Ev prog w hb n sc ρ e (.str x))
    (hs : ∀ env, starEach [e] env = [(false, eval e env)] := by intro _; rfl) : EvB prog w hb n sc ρ (.Compare (.Call (.Name "type" p) [e] [] pos) [.Is] [.Name "str" q] cp) true := fun A env Z s Q E hA he rl k =>
  wpAny_isTrue_Compare1 (Call_ (g1 p A env Z s _ E hA he rl (by
    refine Pv.callWith_type1 ?_ (hs env)
    rw [hs]
    refine spliced_cons (ev A env Z s _ E hA he rl fun u s₁ hu k₁ => spliced_nil ?_)
    obtain ⟨t, rfl⟩ := rep_str hu
    refine call_type_of (Tx := "str") (typeIs_str _ _ _) (by decide) ?_
    refine g2 q A env Z s₁ _ E hA he (rl.ext k₁.ext) ?_
    exact wpAny_is_self (by decide) (wpAny_truthy_bool (k _ k₁))))) rfl
/-- `type(e) is not list` -/
theorem evB_notList {e : Expr} {p pos cp q : Pos} {ds : List D} (g1 : Gl prog w hb n sc ρ "type" (.type "type")) (g2 : Gl prog w hb n sc ρ "list" (.type "list")) (ev : EvL prog w hb n sc ρ e ds)
    (hs : ∀ env, starEach [e] env = [(false, eval e env)] := by intro _; rfl) : EvB prog w hb n sc ρ (.Compare (.Call (.Name "type" p) [e] [] pos) [.IsNot] [.Name "list" q] cp) false := fun A env Z s Q E hA he rl k =>
  wpAny_isTrue_Compare1 (Call_ (g1 p A env Z s _ E hA he rl (by
    refine Pv.callWith_type1 ?_ (hs env)
    rw [hs]
    refine spliced_cons (ev A env Z s _ E hA he rl fun l items s₁ hl hr k₁ => spliced_nil ?_)
    refine call_type_of (Tx := "list") hl.typeIs (by decide) ?_
    refine g2 q A env Z s₁ _ E hA he (rl.ext k₁.ext) ?_
    exact wpAny_isNot_self (by decide) (wpAny_truthy_bool (k _ k₁))))) rfl
/-- `e is not None`, e a str -/
theorem evB_notNone {e : Expr} {cp q : Pos} {kk : Nat} {x : Str} (ev : Ev prog w hb n sc ρ e (.str x)) : EvB prog w hb n sc ρ (.Compare e [.IsNot] [.Constant .none kk q] cp) true :=
  evB_cmp ev ev_none (fun A Z s u v Q E hA hu hv k => by
    obtain ⟨t, rfl⟩ := rep_str hu
    rw [Rep] at hv; subst hv
    exact wpAny_isNot_other (by rfl) (by simp) (k _ (.refl _ _))) rfl
/-- `e is not None`, e None -/
theorem evB_isNone {e : Expr} {cp q : Pos} {kk : Nat} (ev : Ev prog w hb n sc ρ e .none) : EvB prog w hb n sc ρ (.Compare e [.IsNot] [.Constant .none kk q] cp) false :=
  evB_cmp ev ev_none (fun A Z s u v Q E hA hu hv k => by
    rw [Rep] at hu; subst hu
    rw [Rep] at hv; subst hv
    exact wpAny_isNot_self (by rfl) (k _ (.refl _ _))) rfl
theorem evF_ite {t b o : Expr} {pos : Pos} {c : Bool} {ds : List D} (x : EvB prog w hb n sc ρ t c) (y : c = true → EvF prog w hb n sc ρ b ds) (z : c = false → EvF prog w hb n sc ρ o ds) : EvF prog w hb n sc ρ (.IfExp t b o pos) ds := fun A env Z s Q E hA he rl k =>
  IfExp_ (x A env Z s _ E hA he rl fun s₁ k₁ => by
    cases c with
    | true => exact y rfl A env Z s₁ _ E hA he (rl.ext k₁.ext) fun a i s₂ hn hl hr k₂ => k a i s₂ (k₁.ext.none hn) hl hr (k₁.trans k₂)
    | false => exact z rfl A env Z s₁ _ E hA he (rl.ext k₁.ext) fun a i s₂ hn hl hr k₂ => k a i s₂ (k₁.ext.none hn) hl hr (k₁.trans k₂))
end
end
section
open PySem PySem.W PyProof.Rows PySem.Calls
set_option linter.unusedVariables false
set_option maxRecDepth 100000
noncomputable def classBody (st : Stmt) : List Stmt := match st with
  | .ClassDef _ _ _ body _ _ _ _ _ _ _ => body
  | _ => []
noncomputable def mth (i j : Nat) : Stmt := (classBody (stN i)).getD j (.Pass default)
theorem FnAt'.fno {hb h : Heap} {fa : Addr} {fd : FuncData} (F : FnAt' hb fa fd) (g : G hb h) : FnO h fa fd := by
  obtain ⟨o, ho, hd⟩ := F.at_
  obtain ⟨c, oc, vs, t, hc, hoc, hcc, hcd, hq⟩ := F.code
  exact ⟨⟨o, g.old _ _ (tab_func hd) ho, hd⟩, c, oc, vs, t, hc, g.old _ _ (tabLike_cls hcc) hoc, hcc, hcd, hq⟩
section
variable {prog : Program} {w : World} {hb : Heap} {n : Nat} {sc : Scope} {ρ : Vars} {mg mb : Str → Option Value}
theorem ev_globObj {x : Str} {p : Pos} {a : Addr} (hg : Gl prog w hb n sc ρ x (.ref a)) : Ev prog w hb n sc ρ (.Name x p) (.obj a) := fun A env Z s Q E hA he rl k =>
  hg p A env Z s _ E hA he rl (k _ _ (by rw [Rep]) (.refl _ _))
variable (prog w hb) in
/-- where a method of a datum is found -/
noncomputable def Meth (self : D) (name : Str) (f : Addr) : Prop := ∀ (A : Around) (Z : List Addr) (s : Shared) (v : Value) (pl : Sem Bool) (Q : Value × List Value → Shared → Prop) (E : Value → Shared → Prop), G hb s.heap → Rep s.heap Z self v → Q (.ref f, [v]) s → wpAny (model prog w) A (getMethod v name pl) Q E s
theorem meth_hd {N f : Addr} {mN : Str → Option Value} (X : Kl hb hdC N mN) {name : Str} {y : Option Value} (hn : name ≠ "_headers") (hf : mN name = some (.ref f)) (hfo : ∃ o, hb.get? f = some o ∧ o.cls = .type "function") (hB : typeLookup (.type "object") name = pure y) (xs : List D) : Meth prog w hb (.hd xs) name f := fun A Z s v pl Q E g hv q => by
  rw [Rep] at hv
  obtain ⟨a, dx, L, items, rfl, ha, hd, hL, ⟨mA, hi, _, hm⟩, hl, hr⟩ := hv
  exact x_method X g hi hf hfo (hm _ hn) hB q
theorem meth_ws {N f : Addr} {mN : Str → Option Value} (X : Kl hb wsC N mN) {y : Option Value} (hf : mN "equal" = some (.ref f)) (hfo : ∃ o, hb.get? f = some o ∧ o.cls = .type "function") (hB : typeLookup (.type "object") "equal" = pure y) (d : D) : Meth prog w hb (.ws d) "equal" f := fun A Z s v pl Q E g hv q => by
  rw [Rep] at hv
  obtain ⟨a, dx, vn, rfl, ha, hd, ⟨mA, hi, _, hm⟩, hr⟩ := hv
  exact x_method X g hi hf hfo hm hB q
/-- `x.norm` -/
theorem ev_norm {N : Addr} {mN : Str → Option Value} (X : Kl hb wsC N mN) (hna : mN "norm" = none) {e : Expr} {pos : Pos} {d : D} (ev : Ev prog w hb n sc ρ e (.ws d))
    (he : ∀ env, eval (.Attribute e (Str.ofString "norm") pos) env = (do
      let o ← eval e env
      standAt pos.atName
      let r ← holding [o] (getAttr o (Str.ofString "norm") true)
      letTemporaryGo e o r
      pure r) := by intro _; rfl) : Ev prog w hb n sc ρ (.Attribute e (Str.ofString "norm") pos) d := fun A env Z s Q E hA hs rl k => by
  refine Attribute_any_ (ev A env Z s _ E hA hs rl fun v s₁ hv k₁ => ?_) (he env)
  rw [Rep] at hv
  obtain ⟨a, dx, vn, rfl, ha, hd, ⟨mA, hi, hn, hm⟩, hr⟩ := hv
  exact x_attr X (rl.ext k₁.ext).g hi hn hna (by rw [typeLookup_type, builtinLookup_eq_fast]; kernel_rfl) (handed_rep hr) (k _ _ hr (k₁.trans (.tok _ _ _)))
/-- `x._headers` -/
theorem ev_hdrs {N : Addr} {mN : Str → Option Value} (X : Kl hb hdC N mN) (hna : mN "_headers" = none) {e : Expr} {pos : Pos} {xs : List D} (ev : Ev prog w hb n sc ρ e (.hd xs))
    (he : ∀ env, eval (.Attribute e (Str.ofString "_headers") pos) env = (do
      let o ← eval e env
      standAt pos.atName
      let r ← holding [o] (getAttr o (Str.ofString "_headers") true)
      letTemporaryGo e o r
      pure r) := by intro _; rfl) : Ev prog w hb n sc ρ (.Attribute e (Str.ofString "_headers") pos) (.lst xs) := fun A env Z s Q E hA hs rl k => by
  refine Attribute_any_ (ev A env Z s _ E hA hs rl fun v s₁ hv k₁ => ?_) (he env)
  rw [Rep] at hv
  obtain ⟨a, dx, L, items, rfl, ha, hd, hL, ⟨mA, hi, hn, hm⟩, hl, hr⟩ := hv
  exact x_attr X (rl.ext k₁.ext).g hi hn hna (by rw [typeLookup_type, builtinLookup_eq_fast]; kernel_rfl) rfl (k _ _ (by rw [Rep]; exact ⟨L, items, rfl, hL, hl, hr⟩) (k₁.trans (.tok _ _ _)))
/-- a method's call -/
theorem ev_meth {base e : Expr} {name : Str} {apos pos : Pos} {es : List Expr} {self d : D} {ds : List D} {f : Addr} {fd : FuncData} {m : Nat} (eb : Ev prog w hb n sc ρ base self) (M : Meth prog w hb self name f) (F : FnAt' hb f fd) (ha : Evs prog w hb n sc ρ (e :: es) ds) (ct : Ct prog w hb f m (self :: ds) d) (hm : m ≤ n)
    (hs : ∀ env, starEach (e :: es) env = (false, eval e env) :: starEach es env := by intro _; rfl)
    (hE : ∀ env, ∃ pl, eval (.Call (.Attribute base name apos) (e :: es) [] pos) env = (do
      let ov ← eval base env
      standAt apos.atName
      let (f, first) ← holding [ov] (getMethod ov name pl)
      callWith pos f first (backTo pos (starEach (e :: es) env)) []) := by intro _; exact ⟨_, rfl⟩) :
    Ev prog w hb n sc ρ (.Call (.Attribute base name apos) (e :: es) [] pos) d := fun A env Z s Q E hA he rl k => by
  obtain ⟨pl, hE⟩ := hE env
  refine MethodCall_ (pl := pl) (eb A env Z s _ E hA he rl fun v s₁ hv k₁ => ?_) hE
  have r₁ := rl.ext k₁.ext
  refine M A Z s₁ v pl _ E r₁.g hv ?_
  obtain ⟨o, ho, hd⟩ := F.at_
  have H := ha A env Z s₁ (fun vs s₁ => (s₁.heap.get? f = some o ∧ o.data = .func fd) ∧ wpAny (model prog w) A (call (.ref f) ([v] ++ vs)) Q E s₁) E pos hA he r₁ fun vs s₂ hr k₂ => ⟨⟨(r₁.ext k₂.ext).g.old _ _ (tab_func hd) ho, hd⟩,
    ct A Z s₂ (v :: vs) _ E (hA.le hm) (r₁.ext k₂.ext).g (r₁.ext k₂.ext).live (Reps.cons (hv.ext k₂.ext) hr) fun v s₃ hv k₃ => k v s₃ hv ((k₁.trans k₂).trans k₃)⟩
  rw [hs] at H ⊢
  exact Calls.callWith_function (o := o) (fd := fd) (Calls.evalArgs_plain H)
variable (prog w hb) in
/-- a contract with one keyword -/
noncomputable def CtK (fa : Addr) (m : Nat) (ds : List D) (kn : Str) (b : Bool) (d : D) : Prop := ∀ (A : Around) (Z : List Addr) (s : Shared) (vals : List Value) (Q : Value → Shared → Prop) (E : Value → Shared → Prop), Rm m A → G hb s.heap → (∀ a ∈ Z, ∃ o, s.heap.get? a = some o ∧ tabLike o = false) →
  Reps s.heap Z ds vals → (∀ v s', Rep s'.heap Z d v → Kp hb s s' → Q v s') → wpAny (model prog w) A (call (.ref fa) vals [(kn, .bool b)]) Q E s
theorem MethodCallK_ {M : Model} {A : Around} {E : Value → Shared → Prop} {s : Shared} {env : Env} {o : Expr} {name : Str} {apos pos : Pos} {args : List Expr} {kws : List Keyword} {pl : Sem Bool} {Q : Value → Shared → Prop}
    (h : wpAny M A (eval o env) (fun ov s₁ => wpAny M A (getMethod ov name pl) (fun fx s₂ => wpAny M A (callWith pos fx.1 fx.2 (backTo pos (starEach args env)) (backToKw pos (keywordEach kws env))) Q E s₂) E s₁) E s)
    (he : eval (.Call (.Attribute o name apos) args kws pos) env = (do
      let ov ← eval o env
      standAt apos.atName
      let (f, first) ← holding [ov] (getMethod ov name pl)
      callWith pos f first (backTo pos (starEach args env)) (backToKw pos (keywordEach kws env)))) :
    wpAny M A (eval (.Call (.Attribute o name apos) args kws pos) env) Q E s := by
  rw [he]
  refine wpAny_bind (wpAny_mono h (fun ov s₁ h₁ => wpAny_bind (wpAny_standAt (wpAny_bind (wpAny_holding (wpAny_mono h₁ (fun fx s₂ h₂ => ?_) fun _ _ x => x))))) fun _ _ x => x)
  exact h₂
theorem ev_methK {base e : Expr} {name kn : Str} {apos pos kp cp : Pos} {kk : Nat} {b : Bool} {self d : D} {d₁ : D} {f : Addr} {fd : FuncData} {m : Nat} (eb : Ev prog w hb n sc ρ base self) (M : Meth prog w hb self name f) (F : FnAt' hb f fd) (ev : Ev prog w hb n sc ρ e d₁) (ct : CtK prog w hb f m [self, d₁] kn b d) (hm : m ≤ n)
    (hs : ∀ env, starEach [e] env = [(false, eval e env)] := by intro _; rfl)
    (hall : ∀ env, (backToKw pos (keywordEach [⟨some kn, .Constant (.bool b) kk cp, kp⟩] env)).all (·.1.isSome) = true := by intro _; rfl)
    (hfm : ∀ env, (backToKw pos (keywordEach [⟨some kn, .Constant (.bool b) kk cp, kp⟩] env)).filterMap (·.1) = [kn] := by intro _; rfl)
    (hE : ∀ env, ∃ pl, eval (.Call (.Attribute base name apos) [e] [⟨some kn, .Constant (.bool b) kk cp, kp⟩] pos) env = (do
      let ov ← eval base env
      standAt apos.atName
      let (f, first) ← holding [ov] (getMethod ov name pl)
      callWith pos f first (backTo pos (starEach [e] env)) (backToKw pos (keywordEach [⟨some kn, .Constant (.bool b) kk cp, kp⟩] env))) := by intro _; exact ⟨_, rfl⟩) :
    Ev prog w hb n sc ρ (.Call (.Attribute base name apos) [e] [⟨some kn, .Constant (.bool b) kk cp, kp⟩] pos) d := fun A env Z s Q E hA he rl k => by
  obtain ⟨pl, hE⟩ := hE env
  refine MethodCallK_ (pl := pl) (eb A env Z s _ E hA he rl fun v s₁ hv k₁ => ?_) hE
  have r₁ := rl.ext k₁.ext
  refine M A Z s₁ v pl _ E r₁.g hv ?_
  obtain ⟨o, ho, hd⟩ := F.at_
  refine callWith_function_kw (o := o) (fd := fd) (evalArgs_kw2 (hall env) ?_ (hs env))
  rw [hs]
  refine spliced_cons (ev A env Z s₁ _ E hA he r₁ fun u s₂ hu k₂ => spliced_nil ?_)
  refine kwAll_cons (Constant_bool (kwAll_nil ?_))
  rw [hfm]
  refine ⟨⟨(r₁.ext k₂.ext).g.old _ _ (tab_func hd) ho, hd⟩, ?_⟩
  exact ct A Z s₂ [v, u] _ E (hA.le hm) (r₁.ext k₂.ext).g (r₁.ext k₂.ext).live (Reps.cons (hv.ext k₂.ext) (Reps.cons hu Reps.nil)) fun v s₃ hv k₃ => k v s₃ hv ((k₁.trans k₂).trans k₃)
/-- what `_convert_string_type` leans on -/
structure Cv (hb : Heap) (mg mb : Str → Option Value) : Prop where
  p1 : ∃ items code, PatAt hb 163 162 items code
  p2 : ∃ items code, PatAt hb 168 167 items code
  g1 : mg "_name_disallowed_re" = some (.ref 163)
  g2 : mg "_value_disallowed_re" = some (.ref 168)
  ty : mg "type" = none ∧ mb "type" = some (.type "type")
  st : mg "str" = none ∧ mb "str" = some (.type "str")
  ls : mg "list" = none ∧ mb "list" = some (.type "list")
theorem ct_conv (B : Base hb mg mb) (V' : Cv hb mg mb) {nm : Str} {doc pm : Value} {ann : Option Addr} {cd ct : Value} (F : FnAt' hb 198 (fdSt (mth 19 1) (Str.ofString "Headers._convert_string_type") nm doc pm ann cd ct)) (self : D) (b : Bool) (x : Nat) (hx : x ∈ letters) :
    CtK prog w hb 198 (n + 1) [self, .str ⟨#[x]⟩] (Str.ofString "name") b (.str ⟨#[x]⟩) := fun A Z s vals Q E hA hg hZ hr k => by
  simp only [Reps] at hr
  obtain ⟨v, r1, rfl, hv, u, r2, rfl, hu, rfl⟩ := hr
  obtain ⟨it1, cd1, P1⟩ := V'.p1
  obtain ⟨it2, cd2, P2⟩ := V'.p2
  refine call_raw (P := fun _ => True) (vals := [v, u, .bool b]) (ds := [self, .str ⟨#[x]⟩, .bool b]) B [Str.ofString "self", Str.ofString "value", Str.ofString "name"] rfl rfl (by decide +kernel) (fun y hy => ?_) (noCell rfl) rfl rfl rfl hA (F.fno hg) hg hg (.refl _ _) hZ (fun Qb Eb kb => ?_) fun A' env h₁ h₂ tk E' hA' he _ _ _ _ _ a => ?_
  · simp only [List.mem_cons, List.not_mem_nil, or_false] at hy
    rcases hy with rfl | rfl | rfl <;> rfl
  · have e : bindArgs (fdSt (mth 19 1) (Str.ofString "Headers._convert_string_type") nm doc pm ann cd ct) ⟨[v, u], [(Str.ofString "name", .bool b)]⟩ = pure [(Str.ofString "self", v), (Str.ofString "value", u), (Str.ofString "name", .bool b)] := by rfl
    rw [e]
    exact wpAny_pure (kb s.heap s.toks (fun _ _ e => e) trivial (Reps.cons hv (Reps.cons hu (Reps.cons (rep_of_bool _ _ _) Reps.nil))))
  · refine St.run (ρ := [V "self" self, V "value" (.str ⟨#[x]⟩), V "name" (.bool b)]) (n := n) (d := .str ⟨#[x]⟩) ?_ hA' he a fun v h' tk' r e => k v _ r (.of' e)
    refine st_ifR (evB_isStr (gl_blt B rfl V'.ty.1 V'.ty.2) (gl_blt B rfl V'.st.1 V'.st.2) (ev_name (.tail _ (.head _)))) ?_
    refine s_assign (d := .obj (if b = true then 163 else 168)) [V "value" (.str ⟨#[x]⟩)] (ev_ite (evB_truthBool (ev_name (.tail _ (.tail _ (.head _))))) (fun e => by subst e; exact ev_globObj (gl_glob B rfl V'.g1)) (fun e => by subst e; exact ev_globObj (gl_glob B rfl V'.g2))) ?_
    refine st_if [V "value" (.str ⟨#[x]⟩)] (c := false) ?_ (fun e => nomatch e) (fun _ => st_sub (by simp) st_nil) (st_ret (ev_name (.head _)))
    cases b with
    | true => exact evB_search P1 (ev_name (.head _)) (ev_name (.tail _ (.head _))) hx
    | false => exact evB_search P2 (ev_name (.head _)) (ev_name (.tail _ (.head _))) hx
end
end
section
open PySem PySem.W PyProof.Rows PySem.Calls
set_option linter.unusedVariables false
set_option maxRecDepth 100000
section
variable {prog : Program} {w : World} {hb : Heap} {t : Bool} {n : Nat} {sc : Scope} {ρ ρ' : Vars} {R : Out} {rest : List Stmt} {mg mb : Str → Option Value}
/-- the letters of a str -/
theorem it_str {e : Expr} {x : Str} (ev : Ev prog w hb n sc ρ e (.str x)) (ha : x.cps.all (· < 128) = true) : It prog w hb n sc ρ e (x.cps.toList.map fun c => D.str ⟨#[c]⟩) := fun A env Z s Q E hA he rl k => ev A env Z s _ E hA he rl fun v s₁ hv k₁ => by
  obtain ⟨t, rfl⟩ := rep_str hv
  refine wpAny_pyIter_ascii ha ?_
  have ex : Ext hb s₁.heap (s₁.heap.push { cls := .type "str_ascii_iterator", data := .fields #[.str x t, .int 0 0] }) := Ext.push _
  have fr : s₁.heap.get? s₁.heap.objs.size = none := Heap.get?_none_of_le (Nat.le_refl _)
  have isf : ∀ i h', h'.IsStrIter s₁.heap.objs.size "str_ascii_iterator" x t i → IsF h' s₁.heap.objs.size := fun i h' ⟨o, ho, hc, hd⟩ => ⟨o, _, ho, hd, niceO_of hc (by decide)⟩
  refine k _ [s₁.heap.objs.size] [s₁.heap.objs.size] (SignAt x) (fun i h => h.IsStrIter s₁.heap.objs.size "str_ascii_iterator" x t i) _ (k₁.trans (.of ex)) ⟨fun A' h' => by
      have := Walks.strAscii (prog := prog) (w := w) h' s₁.heap.objs.size x t
      simpa using this,
    ⟨_, Heap.get?_push_size _ rfl, rfl, rfl⟩, ?_, ?_, ?_, ?_, fun i h' hh b hb' => by simp at hb'; subst hb'; exact isf i h' hh, ?_⟩
  · intro b hb'; simp at hb'; subst hb'; simp only [Heap.size_push]; exact Nat.lt_succ_self _
  · intro b hb'; simp at hb'; subst hb'; exact k₁.ext.none fr
  · intro b hb'; simp at hb'; subst hb'; exact (rl.ext k₁.ext).fresh fr
  · intro i h' hh b hb'; simp at hb'; subst hb'; exact (isf i h' hh).nice
  · rintro i v ⟨c, u, hc, rfl⟩
    refine ⟨.str ⟨#[c]⟩, ?_, rep_of_str _ _ _ _⟩
    rw [List.getElem?_map, Array.getElem?_toList, hc]; rfl
/-- `tuple(e)`, e a list -/
theorem ev_tupleL {e : Expr} {p pos : Pos} {ds : List D} (hg : Gl prog w hb n sc ρ "tuple" (.type "tuple")) (x : EvL prog w hb n sc ρ e ds) (hz : ds.length ≤ sizeLine) (hs : ∀ env, starEach [e] env = [(false, eval e env)] := by intro _; rfl) :
    Ev prog w hb n sc ρ (.Call (.Name "tuple" p) [e] [] pos) (.tup ds) := fun A env Z s Q E hA he rl k => by
  refine Call_ (hg p A env Z s _ E hA he rl ?_)
  refine Pv.callWith_type1 ?_ (hs env)
  rw [hs]
  refine spliced_cons (x A env Z s _ E hA he rl fun l items s₁ hl hr k₁ => spliced_nil ?_)
  have hlen := hr.length
  simp only [Array.length_toList] at hlen
  refine call_tuple_list hl (fun h' full => ?_) (by rw [hlen]; exact hz)
  have e1 : Ext hb s₁.heap h' := Ext.full full
  have e2 : Ext hb h' (h'.push { cls := .type "tuple", data := .seq items }) := Ext.push _
  refine k _ _ ?_ (k₁.trans (.of (e1.trans e2)))
  rw [Rep]
  exact ⟨_, items, rfl, ((rl.ext k₁.ext).ext e1).fresh (Heap.get?_none_of_le (Nat.le_refl _)), ⟨_, Heap.get?_push_size _ rfl, rfl, 0, rfl⟩, hr.ext (e1.trans e2)⟩
/-- what is avoided turns -/
theorem Act.touchZ {env : Env} {h₀ hs h h' : Heap} {Y Z W : List Addr} (a : Act hb env h₀ hs Y Z h ρ) (kb : Kb hb W h h') (mZ : ∀ b ∈ W, b ∈ Z) (lv : ∀ b ∈ W, ∃ o, h'.get? b = some o ∧ tabLike o = false) (h0 : ∀ b ∈ W, h₀.get? b = none) (hfree : ∀ y, env.kindOf y ≠ some .free) : Act hb env h₀ h' Y Z h' ρ := by
  have nY : ∀ q ∈ Y, q ∉ W := fun q m mw => a.yz q m (mZ q mw)
  have mYZ : ∀ b ∈ W, b ∈ Y ++ Z := fun b m => List.mem_append_right _ (mZ b m)
  have va : ∀ y u, VarAt env h y u → VarAt env h' y u := by
    rintro y u (⟨a1, m, a2, a3⟩ | ⟨a1, c, a2, a3⟩)
    · obtain ⟨q, hq, sa⟩ := a.st y (.inl a1)
      rcases sa with ⟨_, e, _⟩ | ⟨b1, _⟩
      · exact .inl ⟨a1, m, Ns.off a2 fun o t e' => kb.keep _ o (e ▸ nY q hq) t e', a3⟩
      · rw [a1] at b1; cases b1
    · rcases a1 with a1 | a1
      · obtain ⟨q, hq, sa⟩ := a.st y (.inr a1)
        rcases sa with ⟨b1, _⟩ | ⟨_, b2, _⟩
        · rw [a1] at b1; cases b1
        · rw [a2] at b2; cases b2
          exact .inr ⟨.inl a1, c, a2, IsCell.off a3 fun o t e' => kb.keep _ o (nY _ hq) t e'⟩
      · exact absurd a1 (hfree y)
  refine ⟨Rel.of_slots (kb.g a.rel.g) a.rel.kind a.rel.glob a.rel.blt (fun b m => ?_) (fun y sl m => ?_), a.g₀, kb.toExt a.kept h0, Kb.refl _ _ _, a.fresh, fun x hx => ?_, a.apart, a.noL, fun x pl ds m => ?_, a.yz⟩
  · by_cases e : b ∈ W
    · exact lv b e
    · obtain ⟨o, ho, t⟩ := a.rel.live b m
      exact ⟨o, kb.keep b o e t ho, t⟩
  · refine (a.rel.slot m).kb kb mYZ (va y) fun pl ds e b hv => ?_
    subst e
    obtain ⟨q, hq, vq⟩ := a.own y pl ds m
    have : b = q := Value.ref.inj (hv.fn vq)
    subst this
    exact nY b hq
  · obtain ⟨q, m, s⟩ := a.st x hx
    exact ⟨q, m, s.off fun o t e => kb.keep _ o (nY q m) t e⟩
  · obtain ⟨q, m', v⟩ := a.own x pl ds m
    exact ⟨q, m', va _ _ v⟩
/-- what is avoided may be more -/
theorem InsAt.kb {h h' : Heap} {W : List Addr} {x dx C : Addr} {mA : Str → Option Value} (I : InsAt h x dx C mA) (kb : Kb hb W h h') (hx : x ∉ W) (hdx : dx ∉ W) : InsAt h' x dx C mA := I.off (fun o t e => kb.keep x o hx t e) (fun o t e => kb.keep dx o hdx t e)
theorem InsAt.ext {h h' : Heap} {x dx C : Addr} {mA : Str → Option Value} (I : InsAt h x dx C mA) (e : Ext hb h h') : InsAt h' x dx C mA := I.off (fun o => e.keep x o) (fun o => e.keep dx o)
/-- a value is bound to three names -/
theorem x_three {A : Around} {env : Env} (hA : Rm n A) (he : env.scope = sc) {h₀ hs : Heap} {Y Z : List Addr} {s : Shared} {x y z : Str} {px py pz pos : Pos} {e : Expr} {i : Int} {Q : Flow → Shared → Prop} {E : Value → Shared → Prop} (ρ' : Vars)
    (a : Act hb env h₀ hs Y Z s.heap ρ) (ev : Ev prog w hb n sc ρ e (.int i)) (hx : sc.names.lookup x = some .local ∨ sc.names.lookup x = some .cell) (hy : sc.names.lookup y = some .local ∨ sc.names.lookup y = some .cell) (hz : sc.names.lookup z = some .local ∨ sc.names.lookup z = some .cell)
    (hρ : ∀ p ∈ ρ', p ∈ ρ ∧ p.1 ≠ x) (hρ₂ : ∀ p ∈ (x, Slot.val (.int i)) :: ρ', p ∈ (x, Slot.val (.int i)) :: ρ' ∧ p.1 ≠ y) (hρ₃ : ∀ p ∈ (y, Slot.val (.int i)) :: (x, .val (.int i)) :: ρ', p ∈ (y, Slot.val (.int i)) :: (x, .val (.int i)) :: ρ' ∧ p.1 ≠ z)
    (k : ∀ h' tk, Act hb env h₀ hs Y Z h' ((z, .val (.int i)) :: (y, .val (.int i)) :: (x, .val (.int i)) :: ρ') → Q .next { s with heap := h', toks := tk })
    (hw : swappedStores [.Name x px, .Name y py, .Name z pz] e env = pure none := by rfl) :
    wpAny (model prog w) A (exec (.Assign [.Name x px, .Name y py, .Name z pz] e pos) env) Q E s := by
  refine wpAny_Assign_three (ev A env (Y ++ Z) s _ E hA he a.rel fun v s₁ hv k₁ => ?_) rfl hw
  obtain ⟨t, rfl⟩ := rep_int hv
  obtain ⟨h₁, tk₁, rfl, e₁⟩ := k₁
  refine assign_name (s := { s with heap := h₁, toks := tk₁ }) he ρ' (a.ext e₁) hv hx hρ fun q h₂ tk₂ a₂ _ _ => ?_
  refine assign_name (s := { s with heap := h₂, toks := tk₂ }) he _ a₂ (rep_of_int _ _ _ _) hy hρ₂ fun q h₃ tk₃ a₃ _ _ => ?_
  exact assign_name (s := { s with heap := h₃, toks := tk₃ }) he _ a₃ (rep_of_int _ _ _ _) hz hρ₃ fun q h₄ tk₄ a₄ _ _ => k h₄ tk₄ a₄
end
end
section
open PySem PySem.W PyProof.Rows PySem.Calls
set_option linter.unusedVariables false
set_option maxRecDepth 100000
section
variable {prog : Program} {w : World} {hb : Heap} {t : Bool} {n : Nat} {sc : Scope} {ρ ρ' : Vars} {R : Out} {rest : List Stmt} {mg mb : Str → Option Value}
/-- `x, y = (e, f)`, both names local: the stores are turned round -/
theorem x_swap2 {A : Around} {env : Env} (hA : Rm n A) (he : env.scope = sc) {h₀ hs : Heap} {Y Z : List Addr} {s : Shared} {x y : Str} {px py tpos pos : Pos} {kk : Nat} {e : Expr} {d₁ d₂ : D} {Q : Flow → Shared → Prop} {E : Value → Shared → Prop} (ρ₁ ρ₂ : Vars)
    (a : Act hb env h₀ hs Y Z s.heap ρ) (ev : Ev prog w hb n sc ρ e (.tup [d₁, d₂])) (hx : sc.names.lookup x = some .local ∨ sc.names.lookup x = some .cell) (hy : sc.names.lookup y = some .local ∨ sc.names.lookup y = some .cell)
    (h₁ : ∀ p ∈ ρ₁, p ∈ ρ ∧ p.1 ≠ y) (h₂ : ∀ p ∈ ρ₂, p ∈ (y, Slot.val d₂) :: ρ₁ ∧ p.1 ≠ x)
    (k : ∀ h' tk, Act hb env h₀ hs Y Z h' ((x, .val d₁) :: ρ₂) → Q .next { s with heap := h', toks := tk })
    (hs : swapsWithSole [.Tuple [.Name x px, .Name y py] kk tpos] e pos.line env = pure false := by rfl)
    (hw : swappedStores [.Tuple [.Name x px, .Name y py] kk tpos] e env = pure (some [x, y])) :
    wpAny (model prog w) A (exec (.Assign [.Tuple [.Name x px, .Name y py] kk tpos] e pos) env) Q E s := by
  refine Assign_Tuple_swapped (ev A env (Y ++ Z) s _ E hA he a.rel fun v s₁ hv k₁ => ?_) hs hw
  rw [Rep] at hv
  obtain ⟨u, items, rfl, hu, hl, hr⟩ := hv
  obtain ⟨hh, tk₁, rfl, e₁⟩ := k₁
  dsimp only at hl hr e₁
  have hsz : items.size = 2 := by have := hr.length; simpa using this
  have hun : ∀ {Q : List Value → Shared → Prop}, (∀ h', Heap.ExtBut hh.objs.size hh h' → Q items.toList { s with heap := h', toks := tk₁ }) → wpAny (model prog w) A (unpackItems (.ref u) items.size none) Q E { s with heap := hh, toks := tk₁ } := fun q => unpackItems_tuple (s := { s with heap := hh, toks := tk₁ }) hA.hd hl q
  rw [hsz] at hun
  refine hun fun h₂' hx₂ => ?_
  have full : ∀ b o, hh.get? b = some o → h₂'.get? b = some o := fun b o e => hx₂ b o (Nat.ne_of_lt (Heap.lt_size e)) e
  have e₂ : Ext hb hh h₂' := Ext.full full
  have a₂ := (a.ext e₁).ext e₂
  rw [Reps] at hr
  obtain ⟨v₁, r₁, e3, hv₁, hr⟩ := hr
  rw [Reps] at hr
  obtain ⟨v₂, r₂, rfl, hv₂, hr⟩ := hr
  rw [Reps] at hr
  subst hr
  rw [e3]
  show wpAny (model prog w) A (do holding [v₁] (bindName env y v₂); holding [] (bindName env x v₁); pure ()) _ _ _
  have mYZ : ∀ {q}, q ∈ Y → ∀ b ∈ [q], b ∈ Y ++ Z := fun {q} m b mb => by simp at mb; subst mb; exact List.mem_append_left _ m
  refine wpAny_bind (wpAny_holding (bindName_ (store_name (s := { s with heap := h₂', toks := tk₁ }) he ρ₁ a₂ (hv₂.ext e₂) hy h₁ fun q h₃ tk₃ a₃ hq _ kb₃ => ?_)))
  refine wpAny_bind (wpAny_holding (bindName_ (store_name (s := { s with heap := h₃, toks := tk₃ }) he ρ₂ a₃ ((hv₁.ext e₂).kb kb₃ (mYZ hq)) hx h₂ fun q h₄ tk₄ a₄ hq _ kb₄ => ?_)))
  exact wpAny_pure (k h₄ tk₄ a₄)
/-- what reading a name of a class gives -/
noncomputable def ClsRd (hb : Heap) (C : Addr) (name : Str) (v : Value) : Prop := ∃ K : Frag, K.In hb ∧ (K.all fun p => !tabLike p.2) = true ∧ readsIn K C (.type "type") = true ∧ findCls K (.ref C) (.type "type") name = some (.val v) ∧ handedIn v = true
theorem frag_g {K : Frag} (X : K.In hb) (hK : (K.all fun p => !tabLike p.2) = true) {h : Heap} (g : G hb h) : K.In h := fun a o e => by
  have := List.all_eq_true.mp hK (a, o) (mem_of_lookupK e)
  exact g.old a o (by simpa using this) (X a o e)
theorem ev_clsStr {C : Addr} {name nm x : Str} {tk : Tok} {p pos : Pos} (R : ClsRd hb C name (.str x tk)) (hg : Gl prog w hb n sc ρ nm (.ref C))
    (he : ∀ env, eval (.Attribute (.Name nm p) name pos) env = (do
      let o ← eval (.Name nm p) env
      standAt pos.atName
      let r ← holding [o] (getAttr o name true)
      letTemporaryGo (.Name nm p) o r
      pure r) := by intro _; rfl) : Ev prog w hb n sc ρ (.Attribute (.Name nm p) name pos) (.str x) := fun A env Z s Q E hA hs rl k => by
  obtain ⟨K, hK, hn, h1, h2, h3⟩ := R
  refine Attribute_any_ (hg p A env Z s _ E hA hs rl ?_) (he env)
  exact cls_value (frag_g hK hn rl.g) h1 h2 h3 (k _ _ (rep_of_str _ _ _ _) (.tok _ _ _))
/-- the norm of a blank text -/
noncomputable def dNorm (cs : List Nat) : D := .tup [.tup (cs.map fun (i : Nat) => D.int (i : Int)), .int 0]
theorem readsAll_ints {h : Heap} : ∀ {ns : List Int} {vs : List Value}, IntsAre vs ns → ReadsAll h vs (ns.map PyData.int) []
  | [], _, .nil => .nil
  | i :: _, _, .cons _ t r => by
    have := ReadsAll.cons (Reads.int (h := h) i t) (readsAll_ints (h := h) r)
    simpa using this
theorem reads_norm {h : Heap} {Z : List Addr} {cs : List Nat} {v : Value} (x : Rep h Z (dNorm cs) v) : Reads h v (.tuple [.tuple ((cs.map fun (i : Nat) => (i : Int)).map PyData.int), .int 0]) [] := by
  unfold dNorm at x
  rw [Rep] at x
  obtain ⟨a, items, rfl, _, ⟨o, ho, hc, n, hd⟩, hr⟩ := x
  rw [Reps] at hr
  obtain ⟨v1, r1, e1, h1, hr⟩ := hr
  rw [Reps] at hr
  obtain ⟨v2, r2, rfl, h2, hr⟩ := hr
  rw [Reps] at hr
  subst hr
  rw [Rep] at h1
  obtain ⟨a1, it1, rfl, _, ⟨o1, ho1, hc1, n1, hd1⟩, hr1⟩ := h1
  obtain ⟨t, rfl⟩ := rep_int h2
  have e : (cs.map fun (i : Nat) => D.int (i : Int)) = (cs.map fun (i : Nat) => (i : Int)).map D.int := by rw [List.map_map]; rfl
  rw [e] at hr1
  refine .tuple ho hc hd ?_
  rw [e1]
  have := ReadsAll.cons (Reads.tuple ho1 hc1 hd1 (readsAll_ints (ints_of hr1))) (ReadsAll.cons (Reads.int (h := h) 0 t) .nil)
  simpa using this
theorem ev_eqNorm {l r : Expr} {pos : Pos} {cs : List Nat} (x : Ev prog w hb n sc ρ l (dNorm cs)) (y : Ev prog w hb n sc ρ r (dNorm cs)) (hm : behindInMarks .Eq r = false := by rfl) :
    Ev prog w hb n sc ρ (.Compare l [.Eq] [r] pos) (.bool true) :=
  ev_cmp x y (fun A Z s u v Q E hA hu hv k => by
    have hlim : A.units + 64 < cLine := by have := hA.un; unfold cLine; omega
    refine eq_dataH (reads_norm hu) (reads_norm hv) ?_ ?_ hlim ?_
    · simp only [SeqAt.shaped, PyData.canLay0, PyData.canLayAll0, PyData.depth, PyData.depthAll, ke_canLayAll0, ke_depthAll]; decide
    · simp only [SeqAt.shaped, PyData.canLay0, PyData.canLayAll0, PyData.depth, PyData.depthAll, ke_canLayAll0, ke_depthAll]; decide
    · have : PyData.eqv (.tuple [.tuple ((cs.map fun (i : Nat) => (i : Int)).map PyData.int), .int 0]) (.tuple [.tuple ((cs.map fun (i : Nat) => (i : Int)).map PyData.int), .int 0]) = true := by
        simp only [PyData.eqv, PyData.eqvAll, ked_eqvAll]; simp
      rw [this]; exact k s (.refl _ _)) hm
end
end
section
open PySem PySem.W PyProof.Rows PySem.Calls
set_option linter.unusedVariables false
set_option maxRecDepth 100000
section
variable {prog : Program} {w : World} {hb : Heap} {t : Bool} {n : Nat} {sc : Scope} {ρ ρ' : Vars} {R : Out} {rest : List Stmt} {mg mb : Str → Option Value}
variable (prog w) in
/-- an item that is no tuple of the iterator's own -/
noncomputable def LetGo (target : Expr) (Ia : Addr) (St : Nat → Heap → Prop) : Prop := ∀ (A : Around) (i : Nat) (s : Shared) (v : Value) (Q : Unit → Shared → Prop) (E : Value → Shared → Prop), St i s.heap → Q () s → wpAny (model prog w) A (letOwnedTupleGo target (.ref Ia) v) Q E s
theorem LetGo.name {x : Str} {px : Pos} {Ia : Addr} {St : Nat → Heap → Prop} : LetGo prog w (.Name x px) Ia St := fun A i s v Q E _ q => by
  show wpAny (model prog w) A (pure ()) Q E s
  exact wpAny_pure q
/-- a loop, with a fact of the heap beside the names -/
theorem for_core {A : Around} {env : Env} {h₀ hs : Heap} {Y Z : List Addr} {s : Shared} {target iter : Expr} {body : List Stmt} {pos : Pos} {ds : List D} {Q : Flow → Shared → Prop} {E : Value → Shared → Prop} (hA : Rm n A) (he : env.scope = sc) (a : Act hb env h₀ hs Y Z s.heap ρ)
    (I : Nat → Vars) (J : Nat → List Addr → List Addr → Heap → Prop)
    (hit : ∀ (Q' : Value → Shared → Prop) (E' : Value → Shared → Prop), (∀ Ia fp wr P St s', Kp hb s s' → Iter prog w hb s.heap (Y ++ Z) ds Ia fp wr P St s'.heap → LetGo prog w target Ia St → Q' (.ref Ia) s') → wpAny (model prog w) A (eval iter env) (fun xv s₁ => wpAny (model prog w) A (pyIter xv) Q' E' s₁) E' s)
    (h0 : ∀ p ∈ I 0, p ∈ ρ)
    (j0 : ∀ h₁ wr, Ext hb s.heap h₁ → (∀ b ∈ wr, s.heap.get? b = none) → J 0 Y (wr ++ Z) h₁)
    (jst : ∀ j Y' Z' h h' W, J j Y' Z' h → Kb hb W h h' → (∀ b ∈ W, s.heap.get? b = none ∧ IsF h b) → (∀ b ∈ W, b ∉ Y') → (∀ b ∈ W, b ∈ Z') → J j Y' Z' h')
    (step : ∀ j d v Y' wr h' tk (Q' : Flow → Shared → Prop) (E' : Value → Shared → Prop), ds[j]? = some d → (∀ b ∈ wr, s.heap.get? b = none) → Act hb env h₀ h' Y' (wr ++ Z) h' (I j) → J j Y' (wr ++ Z) h' → Rep h' (Y' ++ (wr ++ Z)) d v →
      (∀ Y'' h'' tk'', Act hb env h₀ h' Y'' (wr ++ Z) h'' (I (j + 1)) → J (j + 1) Y'' (wr ++ Z) h'' → (∀ b ∈ Y'', b ∈ Y' ∨ h'.get? b = none) → (∀ b ∈ Y', b ∈ Y'') → Q' .next { s with heap := h'', toks := tk'' }) →
      wpAny (model prog w) A (assign target env v) (fun _ s₂ => wpAny (model prog w) A (execs body env) Q' E' s₂) E' { s with heap := h', toks := tk })
    (k : ∀ Y' wr h' tk, Act hb env h₀ hs Y' Z h' (I ds.length) → J ds.length Y' (wr ++ Z) h' → (∀ b ∈ wr, s.heap.get? b = none) → (∀ b ∈ Y', b ∈ Y ∨ hs.get? b = none) → (∀ b ∈ Y, b ∈ Y') → wpAny (model prog w) A (execs rest env) Q E { s with heap := h', toks := tk })
    (hs₁ : ∀ x, foldedSetIterable iter env x = pure x := by intro _; rfl) :
    wpAny (model prog w) A (execs (.For target iter body [] pos :: rest) env) Q E s := by
  refine wpAny_execs_cons (wpAny_For (hit _ _ fun It fp wr P St' s₁ k₁ it lg => ?_) hs₁)
  obtain ⟨h₁, tk₁, rfl, e₁⟩ := k₁
  dsimp only at it ⊢
  have W := it.W A hA.hd
  have wrfp := W.sub
  have a₁ := a.ext e₁
  have wr0 : ∀ b ∈ wr, h₀.get? b = none := fun b m => a.kept.none (it.new b m)
  have wrY : ∀ b ∈ wr, b ∉ Y := fun b m q => it.off b (wrfp b m) (List.mem_append_left _ q)
  have wrZ : ∀ b ∈ wr, b ∉ Z := fun b m q => it.off b (wrfp b m) (List.mem_append_right _ q)
  have hbwr : ∀ b ∈ wr, hb.get? b = none := fun b m => by
    cases e : hb.get? b with
    | none => rfl
    | some o => obtain ⟨o', ho'⟩ := a.g₀.live b o e; rw [wr0 b m] at ho'; cases ho'
  -- the places of the iterator are avoided
  have into : ∀ b o, b ∉ Y ++ Z → tabLike o = false → s.heap.get? b = some o → h₁.get? b = some o ∧ b ∉ Y ++ (wr ++ Z) := fun b o hn t e => ⟨e₁.keep b o t e, fun m => by
    rcases List.mem_append.mp m with m | m
    · exact hn (List.mem_append_left _ m)
    · rcases List.mem_append.mp m with m | m
      · rw [it.new b m] at e; cases e
      · exact hn (List.mem_append_right _ m)⟩
  have a₂ : Act hb env h₀ h₁ Y (wr ++ Z) h₁ ρ := by
    refine ⟨⟨a₁.rel.g, a.rel.kind, a.rel.glob, a.rel.blt, fun b m => ?_, fun y d q => ?_, fun y pl es q => ?_⟩, a.g₀, a₁.kept, Kb.refl _ _ _, a.fresh, a₁.st, a.apart, a.noL, a₁.own, fun b m q => ?_⟩
    · rcases List.mem_append.mp m with m | m
      · exact a₁.rel.live b (List.mem_append_left _ m)
      · rcases List.mem_append.mp m with m | m
        · exact (it.fld 0 _ it.st b m).nice.ntab
        · exact a₁.rel.live b (List.mem_append_right _ m)
    · obtain ⟨v, u, r⟩ := a.rel.val y d q
      exact ⟨v, u.ext e₁, Rep.mono into _ _ r⟩
    · obtain ⟨l, i, v, u, r⟩ := a.rel.own y pl es q
      exact ⟨l, i, v.ext e₁, OwnList.off u fun o => e₁.keep _ o, Reps.mono into _ _ r⟩
    · rcases List.mem_append.mp q with q | q
      · exact wrY b q m
      · exact a.yz b m q
  have item₂ : ∀ i v, P i v → ∃ d, ds[i]? = some d ∧ Rep h₁ (Y ++ (wr ++ Z)) d v := fun i v hv => by
    obtain ⟨d, e, r⟩ := it.item i v hv
    refine ⟨d, e, Rep.mono (fun b o hn t e => ⟨e, fun m => hn ?_⟩) _ _ r⟩
    rcases List.mem_append.mp m with m | m
    · exact List.mem_append_right _ (List.mem_append_left _ m)
    · rcases List.mem_append.mp m with m | m
      · exact List.mem_append_left _ m
      · exact List.mem_append_right _ (List.mem_append_right _ m)
  have off₂ : ∀ b ∈ fp, b ∉ Y := fun b m q => it.off b m (List.mem_append_left _ q)
  have nice₂ : ∀ b ∈ fp, ∃ o, h₁.get? b = some o ∧ tabLike o = false := fun b m => (it.nice 0 _ it.st b m).ntab
  refine codeAny_forLoop_any (fun m s' => ∃ h' tk j Y', s' = { s with heap := h', toks := tk } ∧ j ≤ ds.length ∧ m = ds.length + 1 - j ∧ St' j h' ∧ Act hb env h₀ h' Y' (wr ++ Z) h' (I j) ∧ J j Y' (wr ++ Z) h' ∧ Kb hb (wr ++ Y') h₁ h' ∧ (∀ b ∈ Y', b ∈ Y ∨ h₁.get? b = none) ∧ ∀ b ∈ Y, b ∈ Y') ?_ (ds.length + 1)
    ⟨h₁, tk₁, 0, Y, rfl, Nat.zero_le _, rfl, it.st, a₂.sub h0, j0 h₁ wr e₁ it.new, Kb.refl _ _ _, fun _ m => .inl m, fun _ m => m⟩
  rintro m s' ⟨h', tk, j, Y', rfl, hj, rfl, st', a', jj, kb', m', ms'⟩
  have wrY' : ∀ b ∈ wr, b ∉ Y' := fun b mb q => a'.yz b q (List.mem_append_left _ mb)
  have offY : ∀ b ∈ fp, b ∉ Y' := fun b mb q => (m' b q).elim (off₂ b mb) fun e => by obtain ⟨o, ho, _⟩ := nice₂ b mb; rw [e] at ho; cases ho
  by_cases hlt : j < ds.length
  · refine W.item j _ _ _ hlt st' fun v h₂ tk₂ hPv st₂ k₂ => ?_
    obtain ⟨d, hd, hrv⟩ := item₂ j v hPv
    have a₃ := a'.touchF k₂ (fun b mb => it.fld j _ st' b mb) (fun b mb => it.fld (j + 1) _ st₂ b mb) wr0
    have kb₂ : Kb hb wr h' h₂ := Kb.of k₂ (fun b mb => (it.fld j _ st' b mb).nice) hbwr
    have kbs₂ : Kb hb (wr ++ Y') h₁ h₂ := kb'.trans (kb₂.more fun b mb => List.mem_append_left _ mb)
    have hrv₂ : Rep h₂ (Y' ++ (wr ++ Z)) d v := by
      refine Rep.mono (fun b o hn t e => ?_) _ _ hrv
      have hn' : b ∉ wr ++ Y' := fun q => by
        rcases List.mem_append.mp q with q | q
        · exact hn (List.mem_append_right _ (List.mem_append_left _ q))
        · exact (m' b q).elim (fun q => hn (List.mem_append_left _ q)) fun e' => by rw [e'] at e; cases e
      refine ⟨kbs₂.keep b o hn' t e, fun q => ?_⟩
      rcases List.mem_append.mp q with q | q
      · exact hn' (List.mem_append_right _ q)
      · exact hn (List.mem_append_right _ q)
    have jj₂ := jst j Y' (wr ++ Z) h' h₂ wr jj kb₂ (fun b mb => ⟨it.new b mb, it.fld j _ st' b mb⟩) wrY' (fun b mb => List.mem_append_left _ mb)
    refine lg A (j + 1) _ v _ _ st₂ ?_
    refine step j d v Y' wr h₂ tk₂ _ _ hd it.new a₃ jj₂ hrv₂ fun Y'' h'' tk'' a'' jj'' m'' m2'' => ?_
    have up : ∀ b ∈ wr ++ Y', b ∈ wr ++ Y'' := fun b q => by
      rcases List.mem_append.mp q with q | q
      · exact List.mem_append_left _ q
      · exact List.mem_append_right _ (m2'' b q)
    refine ⟨ds.length + 1 - (j + 1), by omega, h'', tk'', j + 1, Y'', rfl, hlt, rfl, ?_, a''.rebase, jj'', (kbs₂.more up).trans (a''.kb.more fun b q => List.mem_append_right _ q), fun b mb => ?_, fun b q => m2'' b (ms' b q)⟩
    · refine W.frame _ _ _ st₂ fun b mb o e => ?_
      obtain ⟨o', ho', t'⟩ := (it.nice (j + 1) h₂ st₂ b mb).ntab
      rw [e] at ho'; cases ho'
      exact a''.kb.keep b o (fun q => (m'' b q).elim (offY b mb) fun e' => by rw [e'] at e; cases e) t' e
    · rcases m'' b mb with q | e'
      · exact m' b q
      · cases q : h₁.get? b with
        | none => exact .inr rfl
        | some o =>
          by_cases hm : b ∈ wr ++ Y'
          · rcases List.mem_append.mp hm with hm | hm
            · exact absurd (List.mem_append_left _ hm) (a''.yz b mb)
            · rcases m' b hm with r | r
              · exact .inl r
              · rw [q] at r; cases r
          · obtain ⟨o', ho'⟩ := kbs₂.live b o hm q
            rw [e'] at ho'; cases ho'
  · have : j = ds.length := by omega
    subst this
    refine W.done _ _ _ st' fun h₂ tk₂ k₂ => wpAny_execs_nil ?_
    have hbk : ∀ b o, b ∉ Y' → hs.get? b = some o → b ∉ Y ∧ b ∉ wr ++ Y' := fun b o hn e => by
      have nY : b ∉ Y := fun q => hn (ms' b q)
      refine ⟨nY, fun q => ?_⟩
      rcases List.mem_append.mp q with q | q
      · obtain ⟨o', ho'⟩ := a.kb.live b o nY e
        rw [it.new b q] at ho'; cases ho'
      · exact hn q
    have kb₂ : Kb hb wr h' h₂ := Kb.of k₂ (fun b mb => (it.fld _ _ st' b mb).nice) hbwr
    have kbs₂ : Kb hb (wr ++ Y') h₁ h₂ := kb'.trans (kb₂.more fun b mb => List.mem_append_left _ mb)
    have kbn : Kb hb Y' hs h₂ := ⟨fun b o hn t e => kbs₂.keep b o (hbk b o hn e).2 t (e₁.keep b o t (a.kb.keep b o (hbk b o hn e).1 t e)), fun b o hn e => by
      obtain ⟨o', ho'⟩ := a.kb.live b o (hbk b o hn e).1 e
      obtain ⟨o'', ho''⟩ := e₁.live b o' ho'
      exact kbs₂.live b o'' (hbk b o hn e).2 ho'', fun g => kbs₂.g (e₁.g (a.kb.g g))⟩
    refine k Y' wr h₂ tk₂ (a'.doneF k₂ (fun b mb => it.fld _ _ st' b mb) wr0 wrZ kbn) (jst _ Y' (wr ++ Z) h' h₂ wr jj kb₂ (fun b mb => ⟨it.new b mb, it.fld _ _ st' b mb⟩) wrY' (fun b mb => List.mem_append_left _ mb)) it.new (fun b mb => (m' b mb).imp id fun e => ?_) ms'
    exact a₁.dead e
end
end
section
open PySem PySem.W PyProof.Rows PySem.Calls
set_option linter.unusedVariables false
set_option maxRecDepth 100000
section
variable {prog : Program} {w : World} {hb : Heap} {t : Bool} {n : Nat} {sc : Scope} {ρ ρ' : Vars} {R : Out} {rest : List Stmt} {mg mb : Str → Option Value}
theorem iter_str {x : Str} {t : Tok} (ha : x.cps.all (· < 128) = true) {A : Around} {Z : List Addr} {s : Shared} {h₀ : Heap} {Q : Value → Shared → Prop} {E : Value → Shared → Prop} (e₀ : Ext hb h₀ s.heap) (hZ : ∀ a ∈ Z, ∃ o, s.heap.get? a = some o)
    (k : ∀ Ia fp wr P St s', Kp hb s s' → Iter prog w hb h₀ Z (x.cps.toList.map fun c => D.str ⟨#[c]⟩) Ia fp wr P St s'.heap → Q (.ref Ia) s') : wpAny (model prog w) A (pyIter (.str x t)) Q E s := by
  refine wpAny_pyIter_ascii ha ?_
  have ex : Ext hb s.heap (s.heap.push { cls := .type "str_ascii_iterator", data := .fields #[.str x t, .int 0 0] }) := Ext.push _
  have fr : s.heap.get? s.heap.objs.size = none := Heap.get?_none_of_le (Nat.le_refl _)
  have isf : ∀ i h', h'.IsStrIter s.heap.objs.size "str_ascii_iterator" x t i → IsF h' s.heap.objs.size := fun i h' ⟨o, ho, hc, hd⟩ => ⟨o, _, ho, hd, niceO_of hc (by decide)⟩
  refine k _ [s.heap.objs.size] [s.heap.objs.size] (SignAt x) (fun i h => h.IsStrIter s.heap.objs.size "str_ascii_iterator" x t i) _ (.of ex) ⟨fun A' h' => by
      have := Walks.strAscii (prog := prog) (w := w) h' s.heap.objs.size x t
      simpa using this,
    ⟨_, Heap.get?_push_size _ rfl, rfl, rfl⟩, ?_, ?_, ?_, ?_, fun i h' hh b hb' => by simp at hb'; subst hb'; exact isf i h' hh, ?_⟩
  · intro b hb'; simp at hb'; subst hb'; simp only [Heap.size_push]; exact Nat.lt_succ_self _
  · intro b hb'; simp at hb'; subst hb'; exact e₀.none fr
  · intro b hb'; simp at hb'; subst hb'
    intro hm
    obtain ⟨o, ho⟩ := hZ _ hm
    rw [fr] at ho; cases ho
  · intro i h' hh b hb'; simp at hb'; subst hb'; exact (isf i h' hh).nice
  · rintro i v ⟨c, u, hc, rfl⟩
    refine ⟨.str ⟨#[c]⟩, ?_, rep_of_str _ _ _ _⟩
    rw [List.getElem?_map, Array.getElem?_toList, hc]; rfl
/-- a loop beside an object -/
theorem for_ins {A : Around} {env : Env} {h₀ hs : Heap} {Y Z : List Addr} {s : Shared} {x dx C : Addr} {mA : Str → Option Value} {ch : Str} {px : Pos} {iter : Expr} {body : List Stmt} {pos : Pos} {ds : List D} {Q : Flow → Shared → Prop} {E : Value → Shared → Prop} (hA : Rm n A) (he : env.scope = sc) (a : Act hb env h₀ hs Y (x :: dx :: Z) s.heap ρ)
    (hI : InsAt s.heap x dx C mA) (I : Nat → Vars)
    (hit : ∀ (Q' : Value → Shared → Prop) (E' : Value → Shared → Prop), (∀ Ia fp wr P St s', Kp hb s s' → Iter prog w hb s.heap (Y ++ (x :: dx :: Z)) ds Ia fp wr P St s'.heap → Q' (.ref Ia) s') → wpAny (model prog w) A (eval iter env) (fun xv s₁ => wpAny (model prog w) A (pyIter xv) Q' E' s₁) E' s)
    (h0 : ∀ p ∈ I 0, p ∈ ρ) (hx : sc.names.lookup ch = some .local ∨ sc.names.lookup ch = some .cell) (hxI : ∀ i, i < ds.length → ∀ p ∈ I i, p.1 ≠ ch)
    (tb : ∀ i d, ds[i]? = some d → St prog w hb false n sc ((ch, .val d) :: I i) body (.next (I (i + 1))))
    (k : ∀ Y' h' tk, Act hb env h₀ hs Y' (x :: dx :: Z) h' (I ds.length) → InsAt h' x dx C mA → wpAny (model prog w) A (execs rest env) Q E { s with heap := h', toks := tk })
    (hs₁ : ∀ x, foldedSetIterable iter env x = pure x := by intro _; rfl) :
    wpAny (model prog w) A (execs (.For (.Name ch px) iter body [] pos :: rest) env) Q E s := by
  obtain ⟨⟨ox, ex, tx⟩, odx, edx, tdx⟩ := hI.live
  refine for_core hA he a I (fun j Y' Z' h => InsAt h x dx C mA) (fun Q' E' kk => hit Q' E' fun Ia fp wr P St s' k' it => kk Ia fp wr P St s' k' it .name) h0 (fun h₁ wr e _ => hI.ext e) (fun j Y' Z' h h' W i kb hW _ _ => i.kb kb (fun m => by rw [(hW x m).1] at ex; cases ex) (fun m => by rw [(hW dx m).1] at edx; cases edx)) (fun j d v Y' wr h' tk Q' E' hd hwr a' jj hv k' => ?_) (fun Y' wr h' tk a' jj _ _ _ => k Y' h' tk a' jj) hs₁
  have hj : j < ds.length := (List.getElem?_eq_some_iff.mp hd).1
  refine assign_name (s := { s with heap := h', toks := tk }) he (I j) a' hv hx (fun p hp => ⟨hp, hxI j hj p hp⟩) fun q h₃ tk₃ a₃ hq kbq => ?_
  have mZ : ∀ b, b = x ∨ b = dx → b ∈ wr ++ (x :: dx :: Z) := fun b e => List.mem_append_right _ (by rcases e with rfl | rfl <;> simp)
  refine tb j d hd A env h₀ h₃ Y' (wr ++ (x :: dx :: Z)) _ _ _ hA he (fun q => nomatch q) a₃.rebase fun Y'' h'' tk'' a'' m m2 => ?_
  have kbq' : Kb hb Y'' h' h₃ := kbq.more fun b mb => by simp at mb; subst mb; exact m2 rfl _ hq
  have kb2 := kbq'.trans a''.kb
  refine k' Y'' h'' tk'' (a''.based kbq') (jj.kb kb2 (fun mm => a''.yz _ mm (mZ _ (.inl rfl))) (fun mm => a''.yz _ mm (mZ _ (.inr rfl)))) (fun b mb => ?_) (m2 rfl)
  rcases m b mb with h | h
  · exact .inl h
  · by_cases hb' : b ∈ Y'
    · exact .inl hb'
    · refine .inr ?_
      cases e : h'.get? b with
      | none => rfl
      | some o =>
        obtain ⟨o', ho'⟩ := kbq.live b o (fun mm => by simp at mm; subst mm; exact hb' hq) e
        rw [h] at ho'; cases ho'
/-- `self.name = e` -/
theorem x_setattr {A : Around} {env : Env} (hA : Rm n A) (he : env.scope = sc) {h₀ hs : Heap} {Y Z : List Addr} {s : Shared} {x dx C N : Addr} {mN mA : Str → Option Value} (X : Kl hb C N mN) {sn name : Str} {sp ap pos : Pos} {e : Expr} {d : D} {ns : List Str} {Q : Flow → Shared → Prop} {E : Value → Shared → Prop}
    (a : Act hb env h₀ hs Y (x :: dx :: Z) s.heap ρ) (hI : InsAt s.heap x dx C mA) (hself : (sn, Slot.val (.obj x)) ∈ ρ) (ev : Ev prog w hb n sc ρ e d) (hna : mN name = none) (hB : typeLookup (.type "object") name = pure none) (hx0 : h₀.get? x = none) (hdx0 : h₀.get? dx = none) (hw : Within mA ns) (hsz : ns.length ≤ 100)
    (hfree : ∀ y, env.kindOf y ≠ some .free)
    (k : ∀ h' tk v, Rep h' (Y ++ (x :: dx :: Z)) d v → Act hb env h₀ h' Y (x :: dx :: Z) h' ρ → InsAt h' x dx C (fun y => if y = name then some v else mA y) → Kb hb [x, dx] s.heap h' → Q .next { s with heap := h', toks := tk })
    (hok : okName sn = true := by decide) (hs' : swapsWith e (some (.Attribute (.Name sn sp) name ap)) pos.line env = pure false := by rfl) :
    wpAny (model prog w) A (exec (.Assign [.Attribute (.Name sn sp) name ap] e pos) env) Q E s := by
  refine plainObj_wpAny_Assign_Attribute (ev A env _ s _ E hA he a.rel fun v s₁ hv k₁ => ?_) hs'
  obtain ⟨h₁, tk₁, rfl, e₁⟩ := k₁
  have a₁ := a.ext e₁
  refine ev_name hself hok A env _ { s with heap := h₁, toks := tk₁ } _ E hA he a₁.rel fun u s₂ hu k₂ => ?_
  rw [Rep] at hu
  subst hu
  obtain ⟨h₂, tk₂, rfl, e₂⟩ := k₂
  have a₂ := a₁.ext e₂
  have g0 : ∀ b, h₀.get? b = none → hb.get? b = none := fun b h => by
    cases q : hb.get? b with
    | none => rfl
    | some o => obtain ⟨o', ho'⟩ := a.g₀.live b o q; rw [h] at ho'; cases ho'
  have I₂ := (hI.ext e₁).ext e₂
  refine x_store (s := { s with heap := h₂, toks := tk₂ }) X a₂.rel.g I₂ hna hB (g0 _ hx0) (g0 _ hdx0) hw hsz fun h₃ tk₃ I₃ kb₃ => ?_
  have mZ : ∀ b ∈ [x, dx], b ∈ x :: dx :: Z := fun b m => by
    simp only [List.mem_cons, List.not_mem_nil, or_false] at m
    rcases m with rfl | rfl <;> simp
  refine k h₃ tk₃ v ((hv.ext e₂).kb kb₃ fun b m => List.mem_append_right _ (mZ b m)) (a₂.touchZ kb₃ mZ (fun b m => ?_) (fun b m => ?_) hfree) I₃ (((Kb.ext (e₁.trans e₂)).more (fun _ m => absurd m List.not_mem_nil) : Kb hb [x, dx] _ _).trans kb₃)
  · simp only [List.mem_cons, List.not_mem_nil, or_false] at m
    obtain ⟨l1, l2⟩ := I₃.live
    rcases m with rfl | rfl
    · exact l1
    · exact l2
  · simp only [List.mem_cons, List.not_mem_nil, or_false] at m
    rcases m with rfl | rfl
    · exact hx0
    · exact hdx0
end
end
section
open PySem PySem.W PyProof.Rows PySem.Calls
set_option linter.unusedVariables false
set_option maxRecDepth 100000
/-- count, b, n, nt -/
noncomputable abbrev WsS := List Nat × Nat × Nat × Nat
noncomputable def growTo (cs : List Nat) (b : Nat) : List Nat := if cs.length ≤ b then cs ++ List.replicate (b - cs.length + 1) 0 else cs
noncomputable def wsF (s : WsS) (c : Nat) : WsS := if c = 32 then (s.1, s.2.1 + 1, s.2.2.1 + 1, s.2.2.2) else ((growTo s.1 s.2.1).set s.2.1 ((growTo s.1 s.2.1).getD s.2.1 0 + 1), 0, s.2.2.1 + 1, s.2.2.2 + 1)
noncomputable def wsOf (xs : List Nat) : WsS := xs.foldl wsF ([], 0, 0, 0)
theorem growTo_lt (cs : List Nat) (b : Nat) : b < (growTo cs b).length := by
  unfold growTo; split
  · simp; omega
  · omega
theorem growTo_len (cs : List Nat) (b m : Nat) (h1 : cs.length ≤ m) (h2 : b ≤ m) : (growTo cs b).length ≤ m + 1 := by
  unfold growTo; split
  · simp; omega
  · omega
theorem ws_bound (xs : List Nat) : ∀ (s : WsS) (m : Nat), s.1.length ≤ m → s.2.1 ≤ m → (xs.foldl wsF s).1.length ≤ m + xs.length ∧ (xs.foldl wsF s).2.1 ≤ m + xs.length := by
  induction xs with
  | nil => intro s m h1 h2; exact ⟨by simpa using h1, by simpa using h2⟩
  | cons c xs ih =>
    intro s m h1 h2
    rw [List.foldl_cons]
    have : (wsF s c).1.length ≤ m + 1 ∧ (wsF s c).2.1 ≤ m + 1 := by
      unfold wsF
      split
      · exact ⟨by dsimp only; omega, by dsimp only; omega⟩
      · refine ⟨?_, by dsimp only; omega⟩
        dsimp only
        rw [List.length_set]
        exact growTo_len _ _ _ h1 h2
    have := ih (wsF s c) (m + 1) this.1 this.2
    rw [List.length_cons]
    exact ⟨by omega, by omega⟩
noncomputable def iL (ns : List Nat) : List D := ns.map fun (i : Nat) => D.int (i : Int)
noncomputable def wsI (xs : List Nat) (x : Addr) (i : Nat) : Vars :=
  [O "count" false (iL (wsOf (xs.take i)).1), V "b" (.int ((wsOf (xs.take i)).2.1 : Nat)), V "n" (.int ((wsOf (xs.take i)).2.2.1 : Nat)), V "nt" (.int ((wsOf (xs.take i)).2.2.2 : Nat)), V "S" (.str ⟨#[32]⟩), V "T" (.str ⟨#[9]⟩), V "self" (.obj x)]
section
variable {prog : Program} {w : World} {hb : Heap} {n : Nat} {mg mb : Str → Option Value}
/-- the loop of Whitespace.__init__ -/
theorem ws_turn (B : Base hb mg mb) (T : Blt mg mb) (xs : List Nat) (x : Addr) (hlen : xs.length ≤ 5000) (hxs : ∀ c ∈ xs, c = 32 ∨ c = 9) {sc : Scope} (hsc : sc = (fdSt (mth 13 1) default default default default none default default).scope) (body : List Stmt) (pre post : List Stmt) (tg it : Expr) (pos : Pos) (hbody : bodyOf (mth 13 1) = pre ++ [.For tg it body [] pos] ++ post) (hpre : pre.length = 4) :
    ∀ i d, (xs.map fun c => D.str ⟨#[c]⟩)[i]? = some d → St prog w hb false n sc ((Str.ofString "ch", .val d) :: wsI xs x i) body (.next (wsI xs x (i + 1))) := by
  have hb' : body = (match (bodyOf (mth 13 1)).getD 4 (.Pass default) with | .For _ _ b _ _ => b | _ => []) := by
    rw [hbody]
    match pre, hpre with | [p1, p2, p3, p4], _ => rfl
  subst hb' hsc
  intro i d hd
  rw [List.getElem?_map, Option.map_eq_some_iff] at hd
  obtain ⟨c, hc, rfl⟩ := hd
  have hstep : wsOf (xs.take (i + 1)) = wsF (wsOf (xs.take i)) c := by
    unfold wsOf
    rw [List.take_add_one, List.foldl_append, hc]; rfl
  have hi : i < xs.length := (List.getElem?_eq_some_iff.mp hc).1
  have hbd := ws_bound (xs.take i) ([], 0, 0, 0) 0 (by simp) (by simp)
  have hbd : (wsOf (xs.take i)).1.length ≤ 5000 ∧ (wsOf (xs.take i)).2.1 ≤ 5000 := by
    have : (xs.take i).length ≤ 5000 := by simp; omega
    unfold wsOf; omega
  have hS : (⟨#[c]⟩ : Str) == ⟨#[32]⟩ ↔ c = 32 := by simp
  unfold wsI
  rw [hstep]
  generalize wsOf (xs.take i) = s at *
  rcases hxs c (List.mem_of_getElem? hc) with rfl | rfl
  · refine st_if [O "count" false (iL s.1), V "b" (.int ((s.2.1 + 1 : Nat) : Int)), V "n" (.int ((s.2.2.1 + 1 : Nat) : Int)), V "nt" (.int (s.2.2.2 : Nat)), V "S" (.str ⟨#[32]⟩), V "T" (.str ⟨#[9]⟩), V "self" (.obj x)] (c := true)
      (evB_eq (by decide) (evB_eqStr (a := ⟨#[32]⟩) (ev_name (.head _)) (ev_name (.tail _ (.tail _ (.tail _ (.tail _ (.tail _ (.head _))))))))) (fun _ => ?_) (fun h => nomatch h) st_nil
    refine s_assign [O "count" false (iL s.1), V "b" (.int (s.2.1 : Nat)), V "nt" (.int (s.2.2.2 : Nat)), V "S" (.str ⟨#[32]⟩), V "T" (.str ⟨#[9]⟩), V "self" (.obj x)] (n_add (ev_name (.tail _ (.tail _ (.tail _ (.head _))))) (n_int (i := 1))) ?_
    refine s_assign [V "n" (.int ((s.2.2.1 + 1 : Nat) : Int)), O "count" false (iL s.1), V "nt" (.int (s.2.2.2 : Nat)), V "S" (.str ⟨#[32]⟩), V "T" (.str ⟨#[9]⟩), V "self" (.obj x)] (n_add (ev_name (.tail _ (.tail _ (.head _)))) (n_int (i := 1))) (st_sub (by simp) st_nil)
  · let F : Vars := [O "count" false (iL (wsF s 9).1), V "b" (.int ((wsF s 9).2.1 : Nat)), V "n" (.int ((wsF s 9).2.2.1 : Nat)), V "nt" (.int ((wsF s 9).2.2.2 : Nat)), V "S" (.str ⟨#[32]⟩), V "T" (.str ⟨#[9]⟩), V "self" (.obj x)]
    refine st_if F (c := false) (evB_eq (by decide) (evB_eqStr (a := ⟨#[9]⟩) (ev_name (.head _)) (ev_name (.tail _ (.tail _ (.tail _ (.tail _ (.tail _ (.head _))))))))) (fun h => nomatch h) (fun _ => ?_) st_nil
    refine st_if F (c := true) (evB_eq (by decide) (evB_eqStr (a := ⟨#[9]⟩) (ev_name (.head _)) (ev_name (.tail _ (.tail _ (.tail _ (.tail _ (.tail _ (.tail _ (.head _)))))))))) (fun _ => ?_) (fun h => nomatch h) st_nil
    refine s_assign [O "count" false (iL s.1), V "b" (.int (s.2.1 : Nat)), V "nt" (.int (s.2.2.2 : Nat)), V "S" (.str ⟨#[32]⟩), V "T" (.str ⟨#[9]⟩), V "self" (.obj x)] (n_add (ev_name (.tail _ (.tail _ (.tail _ (.head _))))) (n_int (i := 1))) ?_
    refine s_assign [V "n" (.int ((s.2.2.1 + 1 : Nat) : Int)), O "count" false (iL s.1), V "b" (.int (s.2.1 : Nat)), V "S" (.str ⟨#[32]⟩), V "T" (.str ⟨#[9]⟩), V "self" (.obj x)] (n_add (ev_name (.tail _ (.tail _ (.tail _ (.head _))))) (n_int (i := 1))) ?_
    have hgl : (growTo s.1 s.2.1).length ≤ 5001 := growTo_len _ _ _ hbd.1 hbd.2
    refine st_if [O "count" false (iL (growTo s.1 s.2.1)), V "nt" (.int ((s.2.2.2 + 1 : Nat) : Int)), V "n" (.int ((s.2.2.1 + 1 : Nat) : Int)), V "b" (.int (s.2.1 : Nat)), V "S" (.str ⟨#[32]⟩), V "T" (.str ⟨#[9]⟩), V "self" (.obj x)]
      (nB_ge (ev_name (.tail _ (.tail _ (.tail _ (.head _))))) (n_len (k := s.1.length) (gl_blt B rfl T.len.1 T.len.2) (ev_own (.tail _ (.tail _ (.head _)))) (by simp [iL]) (by simp [iL]; omega))) (fun hc => ?_) (fun hc => ?_) ?_
    · have hle : s.1.length ≤ s.2.1 := of_decide_eq_true hc
      have eg : growTo s.1 s.2.1 = s.1 ++ List.replicate (s.2.1 - s.1.length + 1) 0 := by unfold growTo; rw [if_pos hle]
      refine s_own (ds := iL (growTo s.1 s.2.1)) [V "nt" (.int ((s.2.2.2 + 1 : Nat) : Int)), V "n" (.int ((s.2.2.1 + 1 : Nat) : Int)), V "b" (.int (s.2.1 : Nat)), V "S" (.str ⟨#[32]⟩), V "T" (.str ⟨#[9]⟩), V "self" (.obj x)]
        (evF_eq ?_ (evF_add (ev_own (.tail _ (.tail _ (.head _)))) (EvF.evL (evF_mulList (k := s.2.1 - s.1.length + 1) (evF_list (evs_cons (n_int (i := 0)) evs_nil) (by decide)) (n_add (n_sub (ev_name (.tail _ (.tail _ (.tail _ (.head _))))) (n_len (k := s.1.length) (gl_blt B rfl T.len.1 T.len.2) (ev_own (.tail _ (.tail _ (.head _)))) (by simp [iL]) (by simp [iL]; omega)) hle) (n_int (i := 1))) (by omega) (by decide) (by simp))) ?_)) ?_
      · rw [eg, lm_rep_flat_one]; simp [iL]
      · rw [lm_rep_flat_one]; simp [iL]; unfold sizeLine; omega
      · exact st_unpl [V "nt" (.int ((s.2.2.2 + 1 : Nat) : Int)), V "n" (.int ((s.2.2.1 + 1 : Nat) : Int)), V "b" (.int (s.2.1 : Nat)), V "S" (.str ⟨#[32]⟩), V "T" (.str ⟨#[9]⟩), V "self" (.obj x)] (.head _) (fun p hp => .tail _ hp) st_nil
    · have hle : ¬ s.1.length ≤ s.2.1 := of_decide_eq_false hc
      have eg : growTo s.1 s.2.1 = s.1 := by unfold growTo; rw [if_neg hle]
      rw [eg]
      exact st_sub (by simp) st_nil
    · have hlt := growTo_lt s.1 s.2.1
      refine s_setitem (j := s.2.1) [V "nt" (.int ((s.2.2.2 + 1 : Nat) : Int)), V "n" (.int ((s.2.2.1 + 1 : Nat) : Int)), V "b" (.int (s.2.1 : Nat)), V "S" (.str ⟨#[32]⟩), V "T" (.str ⟨#[9]⟩), V "self" (.obj x)] (.head _)
        (n_add (a := (growTo s.1 s.2.1).getD s.2.1 0) (ev_item (i := ((s.2.1 : Nat) : Int)) (ev_own (.head _)) (ev_name (.tail _ (.tail _ (.tail _ (.head _))))) (by omega) ?_ (by simp [iL]; unfold sizeLine; omega)) (n_int (i := 1))) (ev_name (.tail _ (.tail _ (.tail _ (.head _))))) (by simp [iL]; exact hlt) ?_ (by simp [iL]; omega)
      · rw [Int.toNat_natCast]; unfold iL; exact getD_map (fun (i : Nat) => D.int (i : Int)) _ _ 0 hlt
      · refine s_assign (d := .int ((0 : Nat) : Int)) [O "count" false (iL ((growTo s.1 s.2.1).set s.2.1 ((growTo s.1 s.2.1).getD s.2.1 0 + 1))), V "nt" (.int ((s.2.2.2 + 1 : Nat) : Int)), V "n" (.int ((s.2.2.1 + 1 : Nat) : Int)), V "S" (.str ⟨#[32]⟩), V "T" (.str ⟨#[9]⟩), V "self" (.obj x)] n_int ?_ (hm := ?_)
        · exact st_sub (by simp [F, wsF]) st_nil
        · simp [iL, List.map_set]
end
end
section
open PySem PySem.W PyProof.Rows PySem.Calls
set_option linter.unusedVariables false
set_option maxRecDepth 100000
theorem Rm.under {n : Nat} {A : Around} {C : Addr} {vs : List Value} (x : Rm (n + 1) A) : Rm n (A.under (.builtin "type.__call__" ⟨.ref C :: vs, []⟩)) :=
  ⟨x.hd, by have := x.dp; show A.depth + 1 + n ≤ 700; omega, by
    have := x.un
    have e : (Code.builtin "type.__call__" ⟨.ref C :: vs, []⟩).cUnits ≤ 10 := by
      have : (Code.builtin "type.__call__" ⟨.ref C :: vs, []⟩).cUnits = 1 := rfl
      omega
    show A.units + (Code.builtin "type.__call__" ⟨.ref C :: vs, []⟩).cUnits + 10 * n ≤ 5000
    omega⟩
section
variable {prog : Program} {w : World} {hb : Heap} {n : Nat} {sc : Scope} {ρ : Vars} {mg mb : Str → Option Value}
/-- a class is called: its arguments -/
theorem callWith_clsG {A : Around} {s : Shared} {pos : Pos} {C N : Addr} {mN : Str → Option Value} {trees : List (Bool × Sem Value)} {Q : Value → Shared → Prop} {E : Value → Shared → Prop}
    (h : wpAny (model prog w) A (evalArgs (.ref C) true trees []) (fun vs s₁ => vs.kw = [] ∧ ClsAt s₁.heap C N mN ∧ wpAny (model prog w) A (call (.ref C) vs.pos) Q E s₁) E s)
    (hst : (trees.any (·.1)) = false) : wpAny (model prog w) A (callWith pos (.ref C) [] trees []) Q E s := by
  have hst' : (trees.any (fun x => x.fst) || ([] : List (Option Str × Sem Value)).any fun x => x.fst.isNone) = false := by rw [hst]; rfl
  unfold callWith
  refine wpAny_bind (wpAny_holding (wpAny_mono h (fun vs s₁ h₁ => ?_) fun _ _ x => x))
  obtain ⟨hh, g, d, t, os⟩ := s₁
  obtain ⟨hkw, ⟨⟨nm, q, bs, sn, sub, col, dd, k0, k1, k2, k3, k5, hC⟩, _⟩, h₂⟩ := h₁
  have f1 := tc_lookup
  have hT : (⟨hh, g, d, t, os⟩ : Shared).TypeIs (.ref C) "type" := ⟨_, hC, rfl⟩
  refine wpAny_bind (wpAny_standAt ?_)
  show wpAny _ _ (keeperOf (.ref C) >>= _) _ _ _
  unfold keeperOf specialOf
  repeat (any_goals (first | assumption | with_reducible refine wpAny_loadPart_at hC ?_ | with_reducible refine wpAny_load' hC ?_ | wp_step))
  rw [if_pos (by rfl), hst']
  show wpAny _ _ (call (.ref C) ([] ++ vs.pos) vs.kw >>= fun r => do holding [r] point; pure r) _ _ _
  rw [hkw]
  exact wpAny_bind (wpAny_mono h₂ (fun r s' hr => wpAny_bind (wpAny_holding (wpAny_point (wpAny_pure hr)))) fun _ _ x => x)
/-- a class is called: its object is made -/
theorem make_ins {C N fI : Addr} {mN : Str → Option Value} (X : Kl hb C N mN) (hi : mN "__init__" = some (.ref fI)) (hfo : ∃ o, hb.get? fI = some o ∧ o.cls = .type "function") {A : Around} {s : Shared} {vs : List Value} {Q : Value → Shared → Prop} {E : Value → Shared → Prop} (g : G hb s.heap)
    (k : ∀ h' x dx, (∀ b o, s.heap.get? b = some o → h'.get? b = some o) → s.heap.get? x = none → s.heap.get? dx = none → InsAt h' x dx C (fun _ => none) →
      wpAny (model prog w) (A.under (.builtin "type.__call__" ⟨.ref C :: vs, []⟩)) (call (.ref fI) (.ref x :: vs)) (fun r s' => r = .none ∧ Q (.ref x) s') E { s with heap := h' }) : wpAny (model prog w) A (call (.ref C) vs) Q E s := by
  obtain ⟨hh, g', d, t, os⟩ := s
  obtain ⟨nm, q, bs, sn, sub, col, dd, k0, k1, k2, k3, k5, hC⟩ := (ClsAt.g X.at_ g).obj
  obtain ⟨oI, ho, hc⟩ := hfo
  refine wpAny_call_obj_init PySem.F.objNew hC (ClsAt.g X.at_ g).ns hi (g.old _ _ (tabLike_cls hc) ho) hc fun h' x dx Mk => ?_
  obtain ⟨ox, hx, hcx, hncx, hdx⟩ := Mk.inst
  have hdd := Mk.dict ox hx
  refine k h' x dx Mk.keeps Mk.newX Mk.newD ?_
  rcases hdx with ⟨hn0, _⟩ | ⟨d', hd', hne, hns'⟩
  · rw [hn0] at hdd; cases hdd
  · obtain rfl := Option.some.inj (hd'.symm.trans hdd)
    exact ⟨ox, hx, hcx, hncx, hd', hne, hns'⟩
end
end
section
open PySem PySem.W PyProof.Rows PySem.Calls
set_option linter.unusedVariables false
set_option maxRecDepth 100000
theorem noFree {names : List (Str × NameKind)} (h : (names.all fun y => !(y.2 == .free)) = true) (x : Str) : names.lookup x ≠ some .free := fun e => by
  have := List.all_eq_true.mp h _ (mem_of_lookup e)
  cases this
theorem noAttr_object (name : Str) (h : typeLookup (.type "object") name = pure none) : typeLookup (.type "object") name = pure none := h
/-- what is known of Whitespace -/
structure WsD (hb : Heap) (mg mb : Str → Option Value) (mN : Str → Option Value) : Prop where
  X : Kl hb wsC 148 mN
  ini : mN "__init__" = some (.ref 104)
  eql : mN "equal" = some (.ref 125)
  raw : mN "raw" = none
  n : mN "n" = none
  nt : mN "nt" = none
  norm : mN "norm" = none
  sim : mN "is_simple" = none
  f104 : ∃ o, hb.get? 104 = some o ∧ o.cls = .type "function"
  f125 : ∃ o, hb.get? 125 = some o ∧ o.cls = .type "function"
  S : ∃ t, ClsRd hb wsC (Str.ofString "S") (.str ⟨#[32]⟩ t)
  T : ∃ t, ClsRd hb wsC (Str.ofString "T") (.str ⟨#[9]⟩ t)
  g : mg (Str.ofString "Whitespace") = some (.ref wsC)
  tu : mg "tuple" = none ∧ mb "tuple" = some (.type "tuple")
section
variable {prog : Program} {w : World} {hb : Heap} {n : Nat} {sc : Scope} {ρ : Vars} {mg mb mN : Str → Option Value}
theorem Act.unpl {env : Env} {h₀ hs h : Heap} {Y Z : List Addr} {x : Str} {ds : List D} {ρ' : Vars} (a : Act hb env h₀ hs Y Z h ρ) (hx : (x, Slot.own true ds) ∈ ρ) (hm : ∀ p ∈ ρ', p ∈ ρ) : Act hb env h₀ hs Y Z h ((x, .own false ds) :: ρ') := by
  obtain ⟨l, items, v, lo, r⟩ := a.rel.own x true ds hx
  refine ⟨⟨a.rel.g, a.rel.kind, a.rel.glob, a.rel.blt, a.rel.live, fun y d m => ?_, fun y pl es m => ?_⟩, a.g₀, a.kept, a.kb, a.fresh, a.st, a.apart, a.noL, fun y pl es m => ?_, a.yz⟩
  · rcases List.mem_cons.mp m with e | m
    · cases e
    · exact a.rel.val y d (hm _ m)
  · rcases List.mem_cons.mp m with e | m
    · cases e; exact ⟨l, items, v, ⟨lo.1, fun q => nomatch q⟩, r⟩
    · exact a.rel.own y pl es (hm _ m)
  · rcases List.mem_cons.mp m with e | m
    · cases e; exact a.own x true ds hx
    · exact a.own y pl es (hm _ m)
theorem ws_init (B : Base hb mg mb) (T : Blt mg mb) (W : WsD hb mg mb mN) {nm : Str} {doc pm : Value} {ann : Option Addr} {cd ct : Value} (F : FnAt' hb 104 (fdSt (mth 13 1) (Str.ofString "Whitespace.__init__") nm doc pm ann cd ct)) (xs : List Nat) (hlen : xs.length ≤ 5000) (hxs : ∀ c ∈ xs, c = 32 ∨ c = 9) (hb0 : (wsOf xs).2.1 = 0)
    {A : Around} {Z : List Addr} {h₀ : Heap} {s : Shared} {x dx : Addr} {u : Tok} {Q : Value → Shared → Prop} {E : Value → Shared → Prop} (hA : Rm (n + 1) A) (hg : G hb s.heap) (g₀ : G hb h₀) (kept : Ext hb h₀ s.heap) (hx0 : h₀.get? x = none) (hdx0 : h₀.get? dx = none) (hI : InsAt s.heap x dx wsC (fun _ => none))
    (hZ : ∀ a ∈ Z, ∃ o, s.heap.get? a = some o ∧ tabLike o = false)
    (k : ∀ h' tk vn, Ext hb h₀ h' → (∃ mA, InsAt h' x dx wsC mA ∧ mA "norm" = some vn ∧ mA "equal" = none) → Rep h' (x :: dx :: Z) (dNorm (wsOf xs).1) vn → Q .none { s with heap := h', toks := tk }) :
    wpAny (model prog w) A (call (.ref 104) [.ref x, .str ⟨xs.toArray⟩ u]) Q E s := by
  obtain ⟨lx, ldx⟩ := hI.live
  obtain ⟨tS, RS⟩ := W.S
  obtain ⟨tT, RT⟩ := W.T
  refine call_raw (Z := x :: dx :: Z) (P := fun _ => True) (vals := [.ref x, .str ⟨xs.toArray⟩ u]) (ds := [.obj x, .str ⟨xs.toArray⟩]) B [Str.ofString "self", Str.ofString "ws"] rfl rfl (by decide +kernel) (fun y hy => ?_) (noCell rfl) rfl rfl rfl hA (F.fno hg) hg g₀ kept (fun a m => ?_) (fun Qb Eb kb => ?_) fun A' env h₁ h₂ tk E' hA' he _ dead _ _ _ a => ?_
  · simp only [List.mem_cons, List.not_mem_nil, or_false] at hy
    rcases hy with rfl | rfl <;> rfl
  · simp only [List.mem_cons] at m
    rcases m with rfl | rfl | m
    · exact lx
    · exact ldx
    · exact hZ a m
  · have e : bindArgs (fdSt (mth 13 1) (Str.ofString "Whitespace.__init__") nm doc pm ann cd ct) ⟨[.ref x, .str ⟨xs.toArray⟩ u], []⟩ = pure [(Str.ofString "self", .ref x), (Str.ofString "ws", .str ⟨xs.toArray⟩ u)] := by rfl
    rw [e]
    exact wpAny_pure (kb s.heap s.toks (fun _ _ e => e) trivial (Reps.cons (by rw [Rep]) (Reps.cons (rep_of_str _ _ _ _) Reps.nil)))
  · have nXY : ∀ {Y : List Addr} {hs h : Heap} {ρ : Vars}, Act hb env h₀ hs Y (x :: dx :: Z) h ρ → x ∉ Y ∧ dx ∉ Y := fun a => ⟨fun m => a.yz _ m (by simp), fun m => a.yz _ m (by simp)⟩
    have hfree : ∀ y, env.kindOf y ≠ some .free := fun y => by
      show env.scope.names.lookup y ≠ _
      rw [he]; exact noFree (by rfl) y
    have a₀ : Act hb env h₀ s.heap [env.locals] (x :: dx :: Z) h₂ [V "self" (.obj x), V "ws" (.str ⟨xs.toArray⟩)] := a
    have I₀ := hI.kb a₀.kb (nXY a₀).1 (nXY a₀).2
    have w0 : Within (fun _ : Str => (none : Option Value)) [] := Within.nil
    refine wpAny_execs_cons (x_setattr hA' he W.X a₀ I₀ (.head _) (ev_name (.tail _ (.head _))) W.raw (by rw [typeLookup_type, builtinLookup_eq_fast]; kernel_rfl) hx0 hdx0 w0 (by decide) hfree fun h₃ tk₃ v₃ r₃ a₃ I₃ _ => ?_)
    have w1 := Within.cons (Str.ofString "raw") v₃ w0
    refine wpAny_execs_cons (x_swap2 hA' he (d₁ := .str ⟨#[32]⟩) (d₂ := .str ⟨#[9]⟩) [V "self" (.obj x)] [V "T" (.str ⟨#[9]⟩), V "self" (.obj x)] a₃ (ev_tuple (evs_cons (ev_clsStr RS (gl_glob B rfl W.g)) (evs_cons (ev_clsStr RT (gl_glob B rfl W.g)) evs_nil)) (show 2 ≤ sizeLine by decide)) (.inl rfl) (.inl rfl) (ne_of_all (by kernel_rfl) (by simp)) (ne_of_all (by kernel_rfl) (by simp)) (fun h₄ tk₄ a₄ => ?_) (by rfl)
      (by unfold swappedStores; simp only [Env.blockKind, Env.kindOf, he]; rfl))
    refine x_own hA' he (ds := []) [V "S" (.str ⟨#[32]⟩), V "T" (.str ⟨#[9]⟩), V "self" (.obj x)] a₄ (evF_list evs_nil (by decide)) (.inl rfl) (ne_of_all (by kernel_rfl) (by simp)) (fun l h₅ tk₅ _ a₅ => ?_) (by unfold swapsWith; rfl)
    refine wpAny_execs_cons (x_three hA' he (i := ((0 : Nat) : Int)) [O "count" true [], V "S" (.str ⟨#[32]⟩), V "T" (.str ⟨#[9]⟩), V "self" (.obj x)] a₅ n_int (.inl rfl) (.inl rfl) (.inl rfl) (ne_of_all (by kernel_rfl) (by simp)) (ne_of_all (by kernel_rfl) (by simp)) (ne_of_all (by kernel_rfl) (by simp)) fun h₆ tk₆ a₆ => ?_)
    have I₆ := I₃.kb a₆.kb (nXY a₆).1 (nXY a₆).2
    have a₇ := a₆.unpl (ρ' := [V "nt" (.int ((0 : Nat) : Int)), V "n" (.int ((0 : Nat) : Int)), V "b" (.int ((0 : Nat) : Int)), V "S" (.str ⟨#[32]⟩), V "T" (.str ⟨#[9]⟩), V "self" (.obj x)]) (.tail _ (.tail _ (.tail _ (.head _)))) (by simp)
    refine for_ins hA' he (ds := xs.map fun c => D.str ⟨#[c]⟩) a₇ I₆ (wsI xs x) (fun Q' E' kk => ?_) (fun p hp => ?_) (.inl rfl) (fun i _ p hp => (ne_of_all (ρ := wsI xs x i) (by kernel_rfl) (fun _ h => h) p hp).2) (ws_turn B T xs x hlen hxs rfl _ ((bodyOf (mth 13 1)).take 4) ((bodyOf (mth 13 1)).drop 5) _ _ _ rfl rfl) (fun Y' h₈ tk₈ a₈ I₈ => ?_)
    · refine Attribute_any_ (ev_name (.tail _ (.tail _ (.tail _ (.tail _ (.tail _ (.tail _ (.head _))))))) (by decide) A' env _ _ _ _ hA' he a₇.rel fun v s₁ hv k₁ => ?_)
      rw [Rep] at hv; subst hv
      obtain ⟨h₁', tk₁', rfl, e₁⟩ := k₁
      obtain ⟨t3, e3⟩ := rep_str r₃
      subst e3
      refine x_attr (s := { s with heap := h₁', toks := tk₁' }) W.X (a₇.ext e₁).rel.g (I₆.ext e₁) (v := .str ⟨xs.toArray⟩ t3) (by rfl) W.raw (by rw [typeLookup_type, builtinLookup_eq_fast]; kernel_rfl) rfl ?_
      refine iter_str (h₀ := h₆) ?_ e₁ (fun b m => let ⟨o, ho, _⟩ := (a₇.ext e₁).rel.live b m; ⟨o, ho⟩) fun Ia fp wr P St s' k' it => kk Ia fp wr P St s' ?_ ?_
      · rw [Array.all_eq_true_iff_forall_mem]
        intro c hc
        rcases hxs c (by simpa using hc) with rfl | rfl <;> decide
      · obtain ⟨h₂', tk₂', rfl, e₂⟩ := k'
        exact ⟨h₂', tk₂', rfl, e₁.trans e₂⟩
      · exact it
    · simp [wsI, wsOf, iL] at hp ⊢
      rcases hp with h | h | h | h | h | h | h <;> simp [h]
    · rw [List.length_map] at a₈
      have hbd := ws_bound xs ([], 0, 0, 0) 0 (by simp) (by simp)
      have hL : (iL (wsOf xs).1).length ≤ 5000 := by simp [iL]; unfold wsOf; omega
      unfold wsI at a₈
      rw [List.take_length] at a₈
      refine wpAny_execs_cons (x_setattr hA' he W.X a₈ I₈ (.tail _ (.tail _ (.tail _ (.tail _ (.tail _ (.tail _ (.head _))))))) (ev_name (.tail _ (.tail _ (.head _)))) W.n (by rw [typeLookup_type, builtinLookup_eq_fast]; kernel_rfl) hx0 hdx0 w1 (by simp) hfree fun h₉ tk₉ v₉ _ a₉ I₉ _ => ?_)
      have w2 := Within.cons (Str.ofString "n") v₉ w1
      refine wpAny_execs_cons (x_setattr hA' he W.X a₉ I₉ (.tail _ (.tail _ (.tail _ (.tail _ (.tail _ (.tail _ (.head _))))))) (ev_name (.tail _ (.tail _ (.tail _ (.head _))))) W.nt (by rw [typeLookup_type, builtinLookup_eq_fast]; kernel_rfl) hx0 hdx0 w2 (by simp) hfree fun hA tkA vA _ aA IA _ => ?_)
      have w3 := Within.cons (Str.ofString "nt") vA w2
      refine wpAny_execs_cons (x_setattr (d := dNorm (wsOf xs).1) hA' he W.X aA IA (.tail _ (.tail _ (.tail _ (.tail _ (.tail _ (.tail _ (.head _))))))) (ev_eq (by unfold dNorm; rw [hb0]; rfl) (ev_tuple (evs_cons (ev_tupleL (gl_blt B rfl W.tu.1 W.tu.2) (ev_own (.head _)) (by unfold sizeLine; omega)) (evs_cons (ev_name (.tail _ (.head _))) evs_nil)) (show 2 ≤ sizeLine by decide))) W.norm (by rw [typeLookup_type, builtinLookup_eq_fast]; kernel_rfl) hx0 hdx0 w3 (by simp) hfree fun hB tkB vB rB aB IB _ => ?_)
      have w4 := Within.cons (Str.ofString "norm") vB w3
      refine wpAny_execs_cons (x_setattr hA' he W.X aB IB (.tail _ (.tail _ (.tail _ (.tail _ (.tail _ (.tail _ (.head _))))))) (ev_cmpInt (c := decide ((((wsOf xs).1.length : Nat) : Int) ≤ 1)) (n_len (k := (wsOf xs).1.length) (gl_blt B rfl T.len.1 T.len.2) (ev_own (.head _)) (by simp [iL]) (by omega)) ev_int rfl) W.sim (by rw [typeLookup_type, builtinLookup_eq_fast]; kernel_rfl) hx0 hdx0 w4 (by simp) hfree fun hC tkC vC _ aC IC kbC => ?_)
      refine wpAny_execs_nil (k hC tkC vB aC.kept ⟨_, IC, rfl, rfl⟩ ?_)
      have := rB.kb kbC fun b m => List.mem_append_right _ (by
        simp only [List.mem_cons, List.not_mem_nil, or_false] at m
        rcases m with rfl | rfl <;> simp)
      exact this.less
end
end
section
open PySem PySem.W PyProof.Rows PySem.Calls
set_option linter.unusedVariables false
set_option maxRecDepth 100000
noncomputable def leadText (ps : List (Str × Str)) : List Nat := (ps.map fixPair).flatMap fun p => p.1.cps.toList
theorem join_chars : ∀ ys : List Str, Str.join ⟨#[]⟩ ys = ⟨(ys.flatMap fun y => y.cps.toList).toArray⟩
  | [] => rfl
  | y :: r => by
    rw [PyProof.Rows.join_nil_cons, join_chars r, List.flatMap_cons]
    obtain ⟨cps⟩ := y
    show (⟨cps ++ _⟩ : Str) = _
    congr 1
    simp
theorem lead_join (ps : List (Str × Str)) : Txt.join ⟨#[]⟩ ((ps.map fixPair).map (·.1)) = ⟨(leadText ps).toArray⟩ := by
  unfold Txt.join
  rw [StrLaws.glued_eq_join, join_chars, List.flatMap_map]; rfl
section
variable {prog : Program} {w : World} {hb : Heap} {n : Nat} {sc : Scope} {ρ : Vars} {mg mb mN : Str → Option Value}
/-- a Whitespace is made -/
theorem ev_newWs (B : Base hb mg mb) (T : Blt mg mb) (W : WsD hb mg mb mN) {nm : Str} {doc pm : Value} {ann : Option Addr} {cd ct : Value} (F : FnAt' hb 104 (fdSt (mth 13 1) (Str.ofString "Whitespace.__init__") nm doc pm ann cd ct)) (xs : List Nat) (hlen : xs.length ≤ 5000) (hxs : ∀ c ∈ xs, c = 32 ∨ c = 9) (hb0 : (wsOf xs).2.1 = 0)
    {e : Expr} {p pos : Pos} (hk : sc.names.lookup (Str.ofString "Whitespace") = some .globalImplicit) (ev : Ev prog w hb (n + 2) sc ρ e (.str ⟨xs.toArray⟩)) (hs : ∀ env, starEach [e] env = [(false, eval e env)] := by intro _; rfl) :
    Ev prog w hb (n + 2) sc ρ (.Call (.Name (Str.ofString "Whitespace") p) [e] [] pos) (.ws (dNorm (wsOf xs).1)) := fun A env Z s Q E hA he rl k => by
  refine Call_ (gl_glob B hk W.g (by decide) p A env Z s _ E hA he rl ?_)
  rw [hs]
  refine callWith_clsG (C := wsC) (N := 148) (mN := mN) ?_ rfl
  refine Calls.evalArgs_plain (spliced_cons (ev A env Z s _ E hA he rl fun u s₁ hu k₁ => spliced_nil ⟨rfl, ClsAt.g W.X.at_ (rl.ext k₁.ext).g, ?_⟩))
  obtain ⟨t, rfl⟩ := rep_str hu
  have r₁ := rl.ext k₁.ext
  refine make_ins W.X W.ini W.f104 r₁.g fun h' x dx full nx ndx hI => ?_
  have ex : Ext hb s₁.heap h' := Ext.full full
  refine ws_init (s := { s₁ with heap := h' }) (h₀ := s₁.heap) (Z := Z) (n := n) B T W F xs hlen hxs hb0 hA.under (ex.g r₁.g) r₁.g ex nx ndx hI (fun a m => let ⟨o, ho, t⟩ := r₁.live a m; ⟨o, full _ _ ho, t⟩) fun h'' tk vn e₂ hm hr => ⟨rfl, k _ _ ?_ (k₁.trans (.of' e₂))⟩
  rw [Rep]
  obtain ⟨mA, hi, h1, h2⟩ := hm
  exact ⟨x, dx, vn, rfl, r₁.fresh nx, r₁.fresh ndx, ⟨mA, hi, h1, h2⟩, hr.less (W := [x, dx])⟩
theorem ct_equal (B : Base hb mg mb) (W : WsD hb mg mb mN) {nm : Str} {doc pm : Value} {ann : Option Addr} {cd ct : Value} (F : FnAt' hb 125 (fdSt (mth 13 4) (Str.ofString "Whitespace.equal") nm doc pm ann cd ct)) (cs : List Nat) :
    Ct prog w hb 125 (n + 1) [.ws (dNorm cs), .ws (dNorm cs)] (.bool true) := by
  refine ct_intro B F [Str.ofString "self", Str.ofString "other"] rfl (fun vals hv => ?_) rfl (by decide +kernel) (fun x hx => ?_) ?_
  · match vals, hv with | [a, b], _ => rfl
  · simp only [List.mem_cons, List.not_mem_nil, or_false] at hx
    rcases hx with rfl | rfl <;> (left; rfl)
  · show St _ _ _ _ _ _ [V "self" (.ws (dNorm cs)), V "other" (.ws (dNorm cs))] _ _
    exact st_ret (ev_eqNorm (ev_norm W.X W.norm (ev_name (.head _))) (ev_norm W.X W.norm (ev_name (.tail _ (.head _)))))
/-- `x.equal(e) is not True` -/
theorem evB_equal (B : Base hb mg mb) (W : WsD hb mg mb mN) {nm : Str} {doc pm : Value} {ann : Option Addr} {cd ct : Value} (F : FnAt' hb 125 (fdSt (mth 13 4) (Str.ofString "Whitespace.equal") nm doc pm ann cd ct)) (cs : List Nat) {x : Str} {px ap pos cp kp : Pos} {e : Expr} {kk : Nat}
    (hx : (x, Slot.val (.ws (dNorm cs))) ∈ ρ) (hok : okName x = true) (ev : Ev prog w hb (n + 1) sc ρ e (.ws (dNorm cs))) (hs : ∀ env, starEach [e] env = [(false, eval e env)] := by intro _; rfl)
    (hE : ∀ env, ∃ pl, eval (.Call (.Attribute (.Name x px) (Str.ofString "equal") ap) [e] [] pos) env = (do
      let ov ← eval (.Name x px) env
      standAt ap.atName
      let (f, first) ← holding [ov] (getMethod ov (Str.ofString "equal") pl)
      callWith pos f first (backTo pos (starEach [e] env)) []) := by intro _; exact ⟨_, rfl⟩) :
    EvB prog w hb (n + 1) sc ρ (.Compare (.Call (.Attribute (.Name x px) (Str.ofString "equal") ap) [e] [] pos) [.IsNot] [.Constant (.bool true) kk kp] cp) false :=
  evB_cmp (ev_meth (ev_name hx hok) (meth_ws (y := none) W.X W.eql W.f125 (by rw [typeLookup_type, builtinLookup_eq_fast]; kernel_rfl) _) F (evs_cons ev evs_nil (fun env => by rw [hs]; rfl)) (ct_equal (n := n) B W F cs) (Nat.le_refl _) (fun env => by rw [hs]; rfl) hE) ev_bool (fun A Z s u v Q E hA hu hv k => by
    rw [rep_bool hu, rep_bool hv]
    exact wpAny_isNot_self (by rfl) (k _ (.refl _ _))) rfl
theorem ct_lead (B : Base hb mg mb) (T : Blt mg mb) (W : WsD hb mg mb mN) {nm nm' nm2 : Str} {doc pm doc' pm' doc2 pm2 : Value} {ann ann' ann2 : Option Addr} {cd ct cd' ct' cd2 ct2 : Value} (F : FnAt' hb 104 (fdSt (mth 13 1) (Str.ofString "Whitespace.__init__") nm doc pm ann cd ct))
    (F' : FnAt' hb 323 (fdSt (stN 24) (Str.ofString "_law_lead") nm' doc' pm' ann' cd' ct')) (F2 : FnAt' hb 87 (fdSt (stN 11) (Str.ofString "_post_parse_validation") nm2 doc2 pm2 ann2 cd2 ct2)) (g2 : mg (Str.ofString "_post_parse_validation") = some (.ref 87))
    (ps : List (Str × Str)) (hps : ps.length ≤ 10000) (hlen : (leadText ps).length ≤ 5000) (hxs : ∀ c ∈ leadText ps, c = 32 ∨ c = 9) (hb0 : (wsOf (leadText ps)).2.1 = 0) : Ct prog w hb 323 (n + 3) [.lst (ps.map dPair)] (.ws (dNorm (wsOf (leadText ps)).1)) := by
  refine ct_intro B F' [Str.ofString "pairs"] rfl (fun vals hv => ?_) rfl (by decide +kernel) (fun x hx => ?_) ?_
  · match vals, hv with | [a], _ => rfl
  · simp only [List.mem_cons, List.not_mem_nil, or_false] at hx
    subst hx; left; rfl
  · show St _ _ _ _ _ _ [V "pairs" (.lst (ps.map dPair))] _ _
    have hcp : (((ps.map fixPair).map (·.1)).map (·.length)).sum = (leadText ps).length := by
      unfold leadText
      rw [List.length_flatMap, List.map_map]
      rfl
    refine st_ret (ev_newWs (n := n) B T W F (leadText ps) hlen hxs hb0 rfl (ev_eq (congrArg D.str (lead_join ps)) (ev_joinL (ys := (ps.map fixPair).map (·.1)) ev_str ?_ (by decide) (by rw [hcp]; simp; omega))))
    refine EvF.evL (evF_eq ?_ (evF_compM (ps.map fixPair) dPair dPair_inj (fun _ => true) (fun p => .str p.1) [] (it_list (ev_call (gl_glob B rfl g2) F2 (evs_cons (ev_name (.head _)) evs_nil) (ct_post (n := n + 1) B F2 ps hps) (Nat.le_refl _))) (fun _ _ => tst_nil) (fun p _ _ => ev_itemT (i := ((0 : Nat) : Int)) (ev_name (.head _)) n_int (by omega) rfl (show 2 ≤ sizeLine by decide)) (by simp; unfold sizeLine; omega)))
    rw [filter_true]; simp only [List.map_map]; rfl
end
end
section
open PySem PySem.W PyProof.Rows PySem.Calls
set_option linter.unusedVariables false
set_option maxRecDepth 100000
theorem any_peek {α : Type} {K : Frag} {M : Model} {A : Around} {Q : α → Shared → Prop} {E : Value → Shared → Prop} {s : Shared} {t : Sem α} {a : α} (X : K.In s.heap) (e : peek K ⟨M.prog, M.w.params⟩ t = some a) (q : Q a s) : wpAny M A t Q E s := fun Γ p hΓ =>
  wp_of_peek (K := K) X q t e
theorem any_peekA {α : Type} {M : Model} {A : Around} {Q : α → Shared → Prop} {E : Value → Shared → Prop} {s : Shared} {o : Obj} (hf : o.isFreed = false) :
    ∀ (t : Sem α) (g : Addr → Sem α), peekA [] ⟨M.prog, M.w.params⟩ t = some (o, g) → wpAny M A (g s.heap.objs.size) Q E { s with heap := s.heap.push o } → wpAny M A t Q E s := by
  intro t
  induction t with
  | rule _ k ih => intro g e q Γ p hΓ; exact ih () g e q Γ p hΓ
  | point _ k ih => intro g e q Γ p hΓ; exact ih () g e q Γ p hΓ
  | ask k ih => intro g e q Γ p hΓ; exact ih _ g e q Γ p hΓ
  | load a _ k ih => intro g e; cases e
  | alloc o' k ih => intro g e q; cases e; exact nd_alloc q
  | _ => intro g e; cases e
theorem any_peek1 {α : Type} {M : Model} {A : Around} {Q : α → Shared → Prop} {E : Value → Shared → Prop} {s : Shared} {o : Obj} {t : Sem α} {a : α} (hf : o.isFreed = false) (ho : (peekA [] ⟨M.prog, M.w.params⟩ t).map (·.1) = some o)
    (e : (match peekA [] ⟨M.prog, M.w.params⟩ t with | some x => peek [] ⟨M.prog, M.w.params⟩ (x.2 s.heap.objs.size) | none => none) = some a) (q : Q a { s with heap := s.heap.push o }) : wpAny M A t Q E s := by
  cases h : peekA [] ⟨M.prog, M.w.params⟩ t with
  | none => rw [h] at ho; cases ho
  | some x =>
    obtain ⟨o', g⟩ := x
    rw [h] at ho e
    cases ho
    exact any_peekA hf t g h (any_peek (K := []) (fun a o e => by cases e) e q)
end
section
open PySem PySem.W PyProof.Rows PySem.Calls
set_option linter.unusedVariables false
set_option maxRecDepth 100000
section
variable {prog : Program} {w : World} {hb : Heap} {t : Bool} {n : Nat} {sc : Scope} {ρ ρ' : Vars} {R : Out} {rest : List Stmt} {mg mb : Str → Option Value}
/-- a loop over nothing -/
theorem for_none {A : Around} {env : Env} {s : Shared} {target iter : Expr} {body : List Stmt} {pos : Pos} {l : Addr} {Q : Flow → Shared → Prop} {E : Value → Shared → Prop} (hh : A.handled = none)
    (hev : ∀ (Q' : Value → Shared → Prop) (E' : Value → Shared → Prop), Q' (.ref l) s → wpAny (model prog w) A (eval iter env) Q' E' s) (hl : s.heap.IsList l #[])
    (k : ∀ h' tk, (∀ b o, s.heap.get? b = some o → h'.get? b = some o) → wpAny (model prog w) A (execs rest env) Q E { s with heap := h', toks := tk })
    (hs₁ : ∀ x, foldedSetIterable iter env x = pure x := by intro _; rfl) : wpAny (model prog w) A (execs (.For target iter body [] pos :: rest) env) Q E s := by
  have hne : l ≠ s.heap.objs.size := by obtain ⟨o, ho, _⟩ := id hl; exact Nat.ne_of_lt (Heap.lt_size ho)
  refine wpAny_execs_cons (wpAny_For (hev _ _ (wpAny_pyIter_list hl ?_)) hs₁)
  have W := Walks.list (prog := prog) (w := w) (A := A) hh s.heap.objs.size l hne #[]
  refine codeAny_forLoop_any (fun _ s' => s' = _) (fun m s' e => ?_) 0 rfl
  subst e
  refine W.done _ _ _ ⟨⟨_, Heap.get?_push_size _ rfl, rfl, rfl⟩, hl.at fun o e => Heap.get?_push_of_some _ e⟩ fun h₂ tk₂ k₂ => wpAny_execs_nil ?_
  refine k h₂ tk₂ fun b o e => k₂ b o (fun m => ?_) (Heap.get?_push_of_some _ e)
  simp only [List.mem_singleton] at m
  exact Nat.ne_of_lt (Heap.lt_size e) m
/-- a loop over the items of an empty dict -/
theorem for_noItems {A : Around} {env : Env} {s : Shared} {target o : Expr} {apos cpos pos : Pos} {body : List Stmt} {d : Addr} {Q : Flow → Shared → Prop} {E : Value → Shared → Prop} (hh : A.handled = none) (hd : d ≠ sysModules)
    (hm : s.heap.get? d = some { cls := .type "dict", data := .dict #[] })
    (ho : ∀ (Q' : Value → Shared → Prop) (E' : Value → Shared → Prop), Q' (.ref d) s → wpAny (model prog w) A (eval o env) Q' E' s)
    (k : ∀ h' tk, (∀ b o, s.heap.get? b = some o → h'.get? b = some o) → wpAny (model prog w) A (execs rest env) Q E { s with heap := h', toks := tk })
    (hbase : attributeBase o "items" env (eval o env) = eval o env := by rfl) (hline : (apos.endLine == cpos.line) = true := by rfl)
    (hs : ∀ x, foldedSetIterable (.Call (.Attribute o "items" apos) [] [] cpos) env x = pure x := by intro _; rfl) :
    wpAny (model prog w) A (execs (.For target (.Call (.Attribute o "items" apos) [] [] cpos) body [] pos :: rest) env) Q E s := by
  have hdS : (d == sysModules) = false := beq_eq_false_iff_ne.mpr hd
  have hA : s.heap.DictAt (strKind prog w) d [] 0 := ⟨_, #[], hm, ⟨rfl, rfl, rfl⟩, rfl, by
    intro e he; simp at he, .nil, List.nodup_nil⟩
  refine wpAny_execs_cons (wpAny_For (wpAny_Call_items (knd := strKind prog w) (d := d) (kvs := []) hdS hA.dictOf hbase hline (fun Q' q => ho Q' _ q) ?_) hs)
  have hsz : (s.heap.push { cls := .type "dict_items", data := .fields #[.ref d] }).objs.size = s.heap.objs.size + 1 := Heap.size_push ..
  refine wpAny_pyIter_items (knd := strKind prog w) (d := d) (kvs := []) (ep := 0) ⟨_, Heap.get?_push_size _ rfl, rfl, rfl⟩ (hA.push _) ?_
  refine codeAny_forLoop_any (fun _ s' => s' = _) (fun m s' e => ?_) 0 rfl
  subst e
  refine wpAny_pyNext_items_end (knd := strKind prog w) hh (Heap.get?_push_size _ rfl) ((hA.push _).push _) rfl fun h' ex => wpAny_execs_nil ?_
  refine k h' _ fun b o e => ex b o ?_ (Heap.get?_push_of_some _ (Heap.get?_push_of_some _ e))
  show b ≠ (s.heap.push _).objs.size
  rw [hsz]; exact Nat.ne_of_lt (Nat.lt_succ_of_lt (Heap.lt_size e))
/-- `if __debug__` -/
theorem evB_debug {p : Pos} (he : ∀ env whole, PySem.isTrue (.Name (Str.ofString "__debug__") p) env whole = (do let v ← whole; standAt (Expr.pos (.Name (Str.ofString "__debug__") p)); holding [v] (truthy v)) := by intro _ _; rfl) : EvB prog w hb n sc ρ (.Name (Str.ofString "__debug__") p) true := fun A env Z s Q E hA h2 rl k => by
  refine isTrue_plain ?_ (he _ _)
  show wpAny (model prog w) A (do standAt p; (do rule "name.__debug__"; pure (Value.bool true) : Sem Value)) _ _ _
  exact wpAny_bind (wpAny_standAt (wpAny_bind (wpAny_rule (wpAny_pure (wpAny_truthy_bool (k _ (.refl _ _)))))))
/-- my own list under its place -/
theorem Act.reown {env : Env} {h₀ hs h : Heap} {Y Z : List Addr} {x : Str} {ds : List D} {ρ' : Vars} (a : Act hb env h₀ hs Y Z h ρ) (hx : (x, Slot.own true ds) ∈ ρ) (hm : ∀ p ∈ ρ', p ∈ ρ) : ∃ l items, l ∈ Y ∧ h.PlainList l items ∧ Reps h (Y ++ Z) ds items.toList ∧ Act hb env h₀ hs Y Z h ((x, .val (.obj l)) :: ρ') := by
  obtain ⟨l, items, v, lo, r⟩ := a.rel.own x true ds hx
  obtain ⟨b, mY, vb⟩ := a.own x true ds hx
  have e : l = b := Value.ref.inj (v.fn vb)
  subst e
  refine ⟨l, items, mY, lo.2 rfl, r, ⟨⟨a.rel.g, a.rel.kind, a.rel.glob, a.rel.blt, a.rel.live, fun y d m => ?_, fun y pl es m => ?_⟩, a.g₀, a.kept, a.kb, a.fresh, a.st, a.apart, a.noL, fun y pl es m => ?_, a.yz⟩⟩
  · rcases List.mem_cons.mp m with e | m
    · cases e; exact ⟨_, v, by rw [Rep]⟩
    · exact a.rel.val y d (hm _ m)
  · rcases List.mem_cons.mp m with e | m
    · cases e
    · exact a.rel.own y pl es (hm _ m)
  · rcases List.mem_cons.mp m with e | m
    · cases e
    · exact a.own y pl es (hm _ m)
end
end
section
open PySem PySem.W PyProof.Rows PySem.Calls
set_option linter.unusedVariables false
set_option maxRecDepth 100000
noncomputable def fdDf (st : Stmt) (q nm : Str) (dv doc pm : Value) (ann : Option Addr) (cd ct : Value) : FuncData := match st with
  | .FunctionDef _ params body _ _ _ scope _ _ _ => ⟨nm, q, params, .stmts body, scope, mainGlobals, [], dv, .none, doc, pm, ann, cd, ct, builtinsNs⟩
  | _ => default
noncomputable def fd191 (nm : Str) (doc pm : Value) (ann : Option Addr) (cd ct : Value) : FuncData := fdDf (mth 19 0) (Str.ofString "Headers.__init__") nm (.ref 184) doc pm ann cd ct
noncomputable def fd294 (nm : Str) (doc pm : Value) (ann : Option Addr) (cd ct : Value) : FuncData := fdSt (mth 19 16) (Str.ofString "Headers.add_header") nm doc pm ann cd ct
/-- what is known of Headers -/
structure HdD (hb : Heap) (mg mb : Str → Option Value) (mN : Str → Option Value) : Prop where
  X : Kl hb hdC 296 mN
  ini : mN "__init__" = some (.ref 191)
  cnv : mN (Str.ofString "_convert_string_type") = some (.ref 198)
  add : mN (Str.ofString "add_header") = some (.ref 294)
  get : mN (Str.ofString "get_all") = some (.ref 236)
  hdr : mN "_headers" = none
  f191 : ∃ o, hb.get? 191 = some o ∧ o.cls = .type "function"
  f198 : ∃ o, hb.get? 198 = some o ∧ o.cls = .type "function"
  f294 : ∃ o, hb.get? 294 = some o ∧ o.cls = .type "function"
  f236 : ∃ o, hb.get? 236 = some o ∧ o.cls = .type "function"
  dfl : hb.get? 184 = some { cls := .type "tuple", data := .seq #[.none] }
  g : mg (Str.ofString "Headers") = some (.ref hdC)
  V : Cv hb mg mb
  F191 : ∃ nm doc pm ann cd ct, FnAt' hb 191 (fd191 nm doc pm ann cd ct)
  F198 : ∃ nm doc pm ann cd ct, FnAt' hb 198 (fdSt (mth 19 1) (Str.ofString "Headers._convert_string_type") nm doc pm ann cd ct)
  F294 : ∃ nm doc pm ann cd ct, FnAt' hb 294 (fd294 nm doc pm ann cd ct)
  F236 : ∃ nm doc pm ann cd ct, FnAt' hb 236 (fdSt (mth 19 7) (Str.ofString "Headers.get_all") nm doc pm ann cd ct)
/-- what the dict of a Headers holds -/
noncomputable def hdM (L : Addr) : Str → Option Value := fun y => if y = Str.ofString "_headers" then some (.ref L) else none
section
variable {prog : Program} {w : World} {hb : Heap} {n : Nat} {sc : Scope} {ρ : Vars} {mg mb mN : Str → Option Value}
theorem bind191 {nm : Str} {doc pm : Value} {ann : Option Addr} {cd ct : Value} {A : Around} {s : Shared} {x : Addr} {Q : List (Str × Value) → Shared → Prop} {E : Value → Shared → Prop} (h : s.heap.get? 184 = some { cls := .type "tuple", data := .seq #[.none] })
    (q : Q [(Str.ofString "self", .ref x), (Str.ofString "headers", .none)] s) : wpAny (model prog w) A (bindArgs (fd191 nm doc pm ann cd ct) ⟨[.ref x], []⟩) Q E s := by
  refine any_peek (K := [(184, { cls := .type "tuple", data := .seq #[.none] })]) (fun a o e => ?_) (by kernel_rfl) q
  rw [List.lookup_cons] at e
  split at e
  · rename_i hb; cases e; rw [eq_of_beq hb]; exact h
  · cases e
theorem bind294 {nm : Str} {doc pm : Value} {ann : Option Addr} {cd ct : Value} {A : Around} {s : Shared} {x : Addr} {u v : Value} {Q : List (Str × Value) → Shared → Prop} {E : Value → Shared → Prop}
    (q : Q [(Str.ofString "self", .ref x), (Str.ofString "_name", u), (Str.ofString "_value", v), (Str.ofString "_params", .ref s.heap.objs.size)] { s with heap := s.heap.push { cls := .type "dict", data := .dict #[] } }) : wpAny (model prog w) A (bindArgs (fd294 nm doc pm ann cd ct) ⟨[.ref x, u, v], []⟩) Q E s :=
  any_peek1 (o := { cls := .type "dict", data := .dict #[] }) rfl (by kernel_rfl) (by kernel_rfl) q
theorem plain_nice {h : Heap} {l : Addr} {items : Array Value} (x : h.PlainList l items) : Nice h l := nice_list x.isList
/-- Headers.__init__ -/
theorem hd_init (B : Base hb mg mb) (Hd : HdD hb mg mb mN)
    {A : Around} {Z : List Addr} {h₀ : Heap} {s : Shared} {x dx : Addr} {Q : Value → Shared → Prop} {E : Value → Shared → Prop} (hA : Rm (n + 1) A) (hg : G hb s.heap) (g₀ : G hb h₀) (kept : Ext hb h₀ s.heap) (hx0 : h₀.get? x = none) (hdx0 : h₀.get? dx = none) (hI : InsAt s.heap x dx hdC (fun _ => none))
    (hZ : ∀ a ∈ Z, ∃ o, s.heap.get? a = some o ∧ tabLike o = false)
    (k : ∀ h' tk L, Ext hb h₀ h' → h₀.get? L = none → L ≠ x → L ≠ dx → InsAt h' x dx hdC (hdM L) → h'.PlainList L #[] → Q .none { s with heap := h', toks := tk }) :
    wpAny (model prog w) A (call (.ref 191) [.ref x]) Q E s := by
  obtain ⟨lx, ldx⟩ := hI.live
  obtain ⟨nm, doc, pm, ann, cd, ct, F⟩ := Hd.F191
  refine call_raw (Z := x :: dx :: Z) (P := fun _ => True) (vals := [.ref x, .none]) (ds := [.obj x, .none]) B [Str.ofString "self", Str.ofString "headers"] rfl rfl (by decide +kernel) (fun y hy => ?_) (noCell rfl) rfl rfl rfl hA (F.fno hg) hg g₀ kept (fun a m => ?_) (fun Qb Eb kb => ?_) fun A' env h₁ h₂ tk E' hA' he _ dead _ _ _ a => ?_
  · simp only [List.mem_cons, List.not_mem_nil, or_false] at hy
    rcases hy with rfl | rfl <;> rfl
  · simp only [List.mem_cons] at m
    rcases m with rfl | rfl | m
    · exact lx
    · exact ldx
    · exact hZ a m
  · exact bind191 (hg.old _ _ rfl Hd.dfl) (kb s.heap s.toks (fun _ _ e => e) trivial (Reps.cons (by rw [Rep]) (Reps.cons (by rw [Rep]) Reps.nil)))
  · have nXY : ∀ {Y : List Addr} {hs h : Heap} {ρ : Vars}, Act hb env h₀ hs Y (x :: dx :: Z) h ρ → x ∉ Y ∧ dx ∉ Y := fun a => ⟨fun m => a.yz _ m (by simp), fun m => a.yz _ m (by simp)⟩
    have hfree : ∀ y, env.kindOf y ≠ some .free := fun y => by
      show env.scope.names.lookup y ≠ _
      rw [he]; exact noFree (by rfl) y
    have a₀ : Act hb env h₀ s.heap [env.locals] (x :: dx :: Z) h₂ [V "self" (.obj x), V "headers" .none] := a
    refine x_own hA' he (ds := []) [V "self" (.obj x)] a₀ (evF_ite (evB_isNone (ev_name (.tail _ (.head _)))) (fun e => nomatch e) (fun _ => evF_list evs_nil (by decide))) (.inl rfl) (ne_of_all (by kernel_rfl) (by simp)) (fun l h₃ tk₃ _ a₃ => ?_) (by unfold swapsWith; rfl)
    refine wpAny_execs_cons (wpAny_If (evB_notList (gl_blt B rfl Hd.V.ty.1 Hd.V.ty.2) (gl_blt B rfl Hd.V.ls.1 Hd.V.ls.2) (ev_own (.head _)) (fun _ => rfl) A' env _ _ _ _ hA' he a₃.rel fun s₁ k₁ => ?_))
    obtain ⟨h₄, tk₄, rfl, e₄⟩ := k₁
    simp only [Bool.false_eq_true, if_false]
    refine wpAny_execs_nil ?_
    obtain ⟨L, items, mY, hpl, hr, a₅⟩ := (a₃.ext e₄).reown (ρ' := [V "self" (.obj x)]) (.head _) (fun p hp => .tail _ hp)
    rw [Reps] at hr
    have hit : items = #[] := Array.toList_eq_nil_iff.mp hr
    subst hit
    have I₅ := hI.kb a₅.kb (nXY a₅).1 (nXY a₅).2
    have nL : L ≠ x ∧ L ≠ dx := ⟨fun e => a₅.yz L mY (by simp [e]), fun e => a₅.yz L mY (by simp [e])⟩
    refine wpAny_execs_cons (x_setattr hA' he Hd.X a₅ I₅ (.tail _ (.head _)) (ev_name (.head _)) Hd.hdr (by rw [typeLookup_type, builtinLookup_eq_fast]; kernel_rfl) hx0 hdx0 Within.nil (by decide) hfree fun h₆ tk₆ v₆ r₆ a₆ I₆ kb₆ => ?_)
    rw [Rep] at r₆
    subst r₆
    have pl₆ : h₆.PlainList L #[] := PlainList.off hpl fun o t e => kb₆.keep L o (by simp [nL.1, nL.2]) t e
    refine wpAny_execs_cons (wpAny_If (evB_truthBool ev_bool (fun _ _ => rfl) A' env _ _ _ _ hA' he a₆.rel fun s₁ k₁ => ?_))
    obtain ⟨h₇, tk₇, rfl, e₇⟩ := k₁
    simp only [if_true]
    have a₇ := a₆.ext e₇
    have pl₇ : h₇.PlainList L #[] := PlainList.off pl₆ fun o => e₇.keep _ o
    refine for_none hA'.hd (l := L) (fun Q' E' q => ?_) pl₇.isList (fun h₈ tk₈ full => ?_)
    · obtain ⟨v, va, rv⟩ := a₇.rel.val _ _ (.head _)
      rw [Rep] at rv; subst rv
      exact wpAny_Name (ld_var (s := { s with heap := h₇, toks := tk₇ }) a₇.rel.kind va (by decide) q) (by decide)
    · have e₈ : Ext hb h₇ h₈ := Ext.full full
      refine wpAny_execs_nil (wpAny_execs_nil (k h₈ tk₈ L ((a₇.ext e₈).kept) (a₇.fresh L mY) nL.1 nL.2 ((I₆.ext e₇).ext e₈) (PlainList.off pl₇ fun o => e₈.keep _ o)))
end
end
section
open PySem PySem.W PyProof.Rows PySem.Calls
set_option maxRecDepth 100000
noncomputable def stP (p : Program) (i : Nat) : Stmt := (p.main.body[i]?).getD (.Pass default)
noncomputable def mtP (p : Program) (i j : Nat) : Stmt := (classBody (stP p i)).getD j (.Pass default)
noncomputable def fnO (fd : FuncData) : Obj := { cls := .type "function", data := .func fd }
noncomputable def obP45 (p : Program) : Obj := fnO (fdSt (stP p 4) (Str.ofString "_div2n1n") (Str.ofString "_div2n1n") (.none) (.str (Str.ofString "cpy313._pylong") 289) none (.ref 44) (.none))
noncomputable def ob45 : Obj := obP45 Challenge.pw_tp0059_01
noncomputable def ob44 : Obj := ⟨.type "code", none, .fields #[.str (Str.ofString "_div2n1n") 293, .str (Str.ofString "_div2n1n") 294, .str (Str.ofString "/claim/cut.py") 295, .int (7) 0, .int (3) 0, .int (0) 0, .int (0) 0, .int (3) 0, .ref 39, .bool true, .int (276) 0, .ref 40, .none, .ref 41, .ref 42, .ref 43, .int (307) 0, .int (7) 0, .str (Str.ofString "/claim/cut.py") 308], #[]⟩
noncomputable def obP59 (p : Program) : Obj := fnO (fdSt (stP p 6) (Str.ofString "_int2digits") (Str.ofString "_int2digits") (.none) (.str (Str.ofString "cpy313._pylong") 289) none (.ref 58) (.none))
noncomputable def ob59 : Obj := obP59 Challenge.pw_tp0059_01
noncomputable def ob58 : Obj := ⟨.type "code", none, .fields #[.str (Str.ofString "_int2digits") 324, .str (Str.ofString "_int2digits") 325, .str (Str.ofString "/claim/cut.py") 326, .int (33) 0, .int (2) 0, .int (0) 0, .int (0) 0, .int (3) 0, .ref 53, .bool true, .int (276) 0, .ref 54, .none, .ref 55, .ref 56, .ref 57, .int (332) 0, .int (33) 0, .str (Str.ofString "/claim/cut.py") 333], #[]⟩
noncomputable def obP66 (p : Program) : Obj := fnO (fdSt (stP p 7) (Str.ofString "_digits2int") (Str.ofString "_digits2int") (.none) (.str (Str.ofString "cpy313._pylong") 289) none (.ref 65) (.none))
noncomputable def ob66 : Obj := obP66 Challenge.pw_tp0059_01
noncomputable def ob65 : Obj := ⟨.type "code", none, .fields #[.str (Str.ofString "_digits2int") 335, .str (Str.ofString "_digits2int") 336, .str (Str.ofString "/claim/cut.py") 337, .int (49) 0, .int (2) 0, .int (0) 0, .int (0) 0, .int (3) 0, .ref 60, .bool true, .int (276) 0, .ref 61, .none, .ref 62, .ref 63, .ref 64, .int (343) 0, .int (49) 0, .str (Str.ofString "/claim/cut.py") 344], #[]⟩
noncomputable def obP73 (p : Program) : Obj := fnO (fdSt (stP p 8) (Str.ofString "_divmod_pos") (Str.ofString "_divmod_pos") (.none) (.str (Str.ofString "cpy313._pylong") 289) none (.ref 72) (.none))
noncomputable def ob73 : Obj := obP73 Challenge.pw_tp0059_01
noncomputable def ob72 : Obj := ⟨.type "code", none, .fields #[.str (Str.ofString "_divmod_pos") 346, .str (Str.ofString "_divmod_pos") 347, .str (Str.ofString "/claim/cut.py") 348, .int (58) 0, .int (2) 0, .int (0) 0, .int (0) 0, .int (3) 0, .ref 67, .bool true, .int (276) 0, .ref 68, .none, .ref 69, .ref 70, .ref 71, .int (358) 0, .int (58) 0, .str (Str.ofString "/claim/cut.py") 359], #[]⟩
noncomputable def obP80 (p : Program) : Obj := fnO (fdSt (stP p 9) (Str.ofString "int_divmod") (Str.ofString "int_divmod") (.none) (.str (Str.ofString "cpy313._pylong") 289) none (.ref 79) (.none))
noncomputable def ob80 : Obj := obP80 Challenge.pw_tp0059_01
noncomputable def ob79 : Obj := ⟨.type "code", none, .fields #[.str (Str.ofString "int_divmod") 361, .str (Str.ofString "int_divmod") 362, .str (Str.ofString "/claim/cut.py") 363, .int (69) 0, .int (2) 0, .int (0) 0, .int (0) 0, .int (3) 0, .ref 74, .bool true, .int (276) 0, .ref 75, .none, .ref 76, .ref 77, .ref 78, .int (368) 0, .int (69) 0, .str (Str.ofString "/claim/cut.py") 369], #[]⟩
noncomputable def obP87 (p : Program) : Obj := fnO (fdSt (stP p 11) (Str.ofString "_post_parse_validation") (Str.ofString "_post_parse_validation") (.none) (.str (Str.ofString "cpy313.email.utils") 371) none (.ref 86) (.none))
noncomputable def ob87 : Obj := obP87 Challenge.pw_tp0059_01
noncomputable def ob86 : Obj := ⟨.type "code", none, .fields #[.str (Str.ofString "_post_parse_validation") 373, .str (Str.ofString "_post_parse_validation") 374, .str (Str.ofString "/claim/cut.py") 375, .int (81) 0, .int (1) 0, .int (0) 0, .int (0) 0, .int (3) 0, .ref 81, .bool true, .int (276) 0, .ref 82, .none, .ref 83, .ref 84, .ref 85, .int (379) 0, .int (81) 0, .str (Str.ofString "/claim/cut.py") 380], #[]⟩
noncomputable def obP308 (p : Program) : Obj := fnO (fdSt (stP p 21) (Str.ofString "_law_ties") (Str.ofString "_law_ties") (.none) (.str (Str.ofString "law_tp0059_01") 739) none (.ref 307) (.none))
noncomputable def ob308 : Obj := obP308 Challenge.pw_tp0059_01
noncomputable def ob307 : Obj := ⟨.type "code", none, .fields #[.str (Str.ofString "_law_ties") 741, .str (Str.ofString "_law_ties") 742, .str (Str.ofString "/claim/cut.py") 743, .int (228) 0, .int (2) 0, .int (0) 0, .int (0) 0, .int (3) 0, .ref 302, .bool true, .int (276) 0, .ref 303, .none, .ref 304, .ref 305, .ref 306, .int (751) 0, .int (228) 0, .str (Str.ofString "/claim/cut.py") 752], #[]⟩
noncomputable def obP313 (p : Program) : Obj := fnO (fdSt (stP p 22) (Str.ofString "_law_near") (Str.ofString "_law_near") (.none) (.str (Str.ofString "law_tp0059_01") 739) none (.ref 312) (.none))
noncomputable def ob313 : Obj := obP313 Challenge.pw_tp0059_01
noncomputable def ob312 : Obj := ⟨.type "code", none, .fields #[.str (Str.ofString "_law_near") 754, .str (Str.ofString "_law_near") 755, .str (Str.ofString "/claim/cut.py") 756, .int (239) 0, .int (1) 0, .int (0) 0, .int (0) 0, .int (3) 0, .ref 309, .bool true, .int (276) 0, .ref 310, .none, .none, .none, .ref 311, .int (757) 0, .int (239) 0, .str (Str.ofString "/claim/cut.py") 758], #[]⟩
noncomputable def obP318 (p : Program) : Obj := fnO (fdSt (stP p 23) (Str.ofString "_law_again") (Str.ofString "_law_again") (.none) (.str (Str.ofString "law_tp0059_01") 739) none (.ref 317) (.none))
noncomputable def ob318 : Obj := obP318 Challenge.pw_tp0059_01
noncomputable def ob317 : Obj := ⟨.type "code", none, .fields #[.str (Str.ofString "_law_again") 760, .str (Str.ofString "_law_again") 761, .str (Str.ofString "/claim/cut.py") 762, .int (245) 0, .int (2) 0, .int (0) 0, .int (0) 0, .int (3) 0, .ref 314, .bool true, .int (276) 0, .ref 315, .none, .none, .none, .ref 316, .int (763) 0, .int (245) 0, .str (Str.ofString "/claim/cut.py") 764], #[]⟩
noncomputable def obP323 (p : Program) : Obj := fnO (fdSt (stP p 24) (Str.ofString "_law_lead") (Str.ofString "_law_lead") (.none) (.str (Str.ofString "law_tp0059_01") 739) none (.ref 322) (.none))
noncomputable def ob323 : Obj := obP323 Challenge.pw_tp0059_01
noncomputable def ob322 : Obj := ⟨.type "code", none, .fields #[.str (Str.ofString "_law_lead") 766, .str (Str.ofString "_law_lead") 767, .str (Str.ofString "/claim/cut.py") 768, .int (255) 0, .int (1) 0, .int (0) 0, .int (0) 0, .int (3) 0, .ref 319, .bool true, .int (276) 0, .ref 320, .none, .none, .none, .ref 321, .int (769) 0, .int (255) 0, .str (Str.ofString "/claim/cut.py") 770], #[]⟩
noncomputable def obP328 (p : Program) : Obj := fnO (fdSt (stP p 25) (Str.ofString "_law_sand") (Str.ofString "_law_sand") (.none) (.str (Str.ofString "law_tp0059_01") 739) none (.ref 327) (.none))
noncomputable def ob328 : Obj := obP328 Challenge.pw_tp0059_01
noncomputable def ob327 : Obj := ⟨.type "code", none, .fields #[.str (Str.ofString "_law_sand") 772, .str (Str.ofString "_law_sand") 773, .str (Str.ofString "/claim/cut.py") 774, .int (257) 0, .int (2) 0, .int (0) 0, .int (0) 0, .int (3) 0, .ref 324, .bool true, .int (276) 0, .ref 325, .none, .none, .none, .ref 326, .int (775) 0, .int (257) 0, .str (Str.ofString "/claim/cut.py") 776], #[]⟩
noncomputable def obP333 (p : Program) : Obj := fnO (fdSt (stP p 26) (Str.ofString "_law_cuts") (Str.ofString "_law_cuts") (.none) (.str (Str.ofString "law_tp0059_01") 739) none (.ref 332) (.none))
noncomputable def ob333 : Obj := obP333 Challenge.pw_tp0059_01
noncomputable def ob332 : Obj := ⟨.type "code", none, .fields #[.str (Str.ofString "_law_cuts") 778, .str (Str.ofString "_law_cuts") 779, .str (Str.ofString "/claim/cut.py") 780, .int (267) 0, .int (1) 0, .int (0) 0, .int (0) 0, .int (3) 0, .ref 329, .bool true, .int (276) 0, .ref 330, .none, .none, .none, .ref 331, .int (781) 0, .int (267) 0, .str (Str.ofString "/claim/cut.py") 782], #[]⟩
noncomputable def obP338 (p : Program) : Obj := fnO (fdSt (stP p 27) (Str.ofString "_law_outer") (Str.ofString "_law_outer") (.none) (.str (Str.ofString "law_tp0059_01") 739) none (.ref 337) (.none))
noncomputable def ob338 : Obj := obP338 Challenge.pw_tp0059_01
noncomputable def ob337 : Obj := ⟨.type "code", none, .fields #[.str (Str.ofString "_law_outer") 784, .str (Str.ofString "_law_outer") 785, .str (Str.ofString "/claim/cut.py") 786, .int (270) 0, .int (3) 0, .int (0) 0, .int (0) 0, .int (3) 0, .ref 334, .bool true, .int (276) 0, .ref 335, .none, .none, .none, .ref 336, .int (787) 0, .int (270) 0, .str (Str.ofString "/claim/cut.py") 788], #[]⟩
noncomputable def obP345 (p : Program) : Obj := fnO (fdSt (stP p 28) (Str.ofString "_law_ones") (Str.ofString "_law_ones") (.none) (.str (Str.ofString "law_tp0059_01") 739) none (.ref 344) (.none))
noncomputable def ob345 : Obj := obP345 Challenge.pw_tp0059_01
noncomputable def ob344 : Obj := ⟨.type "code", none, .fields #[.str (Str.ofString "_law_ones") 790, .str (Str.ofString "_law_ones") 791, .str (Str.ofString "/claim/cut.py") 792, .int (278) 0, .int (1) 0, .int (0) 0, .int (0) 0, .int (3) 0, .ref 339, .bool true, .int (276) 0, .ref 340, .none, .ref 341, .ref 342, .ref 343, .int (795) 0, .int (278) 0, .str (Str.ofString "/claim/cut.py") 796], #[]⟩
noncomputable def obP352 (p : Program) : Obj := fnO (fdSt (stP p 29) (Str.ofString "_law_rests") (Str.ofString "_law_rests") (.none) (.str (Str.ofString "law_tp0059_01") 739) none (.ref 351) (.none))
noncomputable def ob352 : Obj := obP352 Challenge.pw_tp0059_01
noncomputable def ob351 : Obj := ⟨.type "code", none, .fields #[.str (Str.ofString "_law_rests") 798, .str (Str.ofString "_law_rests") 799, .str (Str.ofString "/claim/cut.py") 800, .int (284) 0, .int (3) 0, .int (0) 0, .int (0) 0, .int (3) 0, .ref 346, .bool true, .int (276) 0, .ref 347, .none, .ref 348, .ref 349, .ref 350, .int (807) 0, .int (284) 0, .str (Str.ofString "/claim/cut.py") 808], #[]⟩
noncomputable def obP357 (p : Program) : Obj := fnO (fdSt (stP p 30) (Str.ofString "law") (Str.ofString "law") (.none) (.str (Str.ofString "law_tp0059_01") 739) none (.ref 356) (.none))
noncomputable def ob357 : Obj := obP357 Challenge.pw_tp0059_01
noncomputable def ob356 : Obj := ⟨.type "code", none, .fields #[.str (Str.ofString "law") 810, .str (Str.ofString "law") 811, .str (Str.ofString "/claim/cut.py") 812, .int (290) 0, .int (1) 0, .int (0) 0, .int (0) 0, .int (3) 0, .ref 353, .bool true, .int (276) 0, .ref 354, .none, .none, .none, .ref 355, .int (813) 0, .int (290) 0, .str (Str.ofString "/claim/cut.py") 814], #[]⟩
noncomputable def obP104 (p : Program) : Obj := fnO (fdSt (mtP p 13 1) (Str.ofString "Whitespace.__init__") (Str.ofString "__init__") (.none) (.str (Str.ofString "cpy313.tabnanny") 382) none (.ref 103) (.none))
noncomputable def ob104 : Obj := obP104 Challenge.pw_tp0059_01
noncomputable def ob103 : Obj := ⟨.type "code", none, .fields #[.str (Str.ofString "__init__") 401, .str (Str.ofString "Whitespace.__init__") 402, .str (Str.ofString "/claim/cut.py") 403, .int (92) 0, .int (2) 0, .int (0) 0, .int (0) 0, .int (3) 0, .ref 98, .bool true, .int (276) 0, .ref 99, .none, .ref 100, .ref 101, .ref 102, .int (413) 0, .int (92) 0, .str (Str.ofString "/claim/cut.py") 414], #[]⟩
noncomputable def obP125 (p : Program) : Obj := fnO (fdSt (mtP p 13 4) (Str.ofString "Whitespace.equal") (Str.ofString "equal") (.none) (.str (Str.ofString "cpy313.tabnanny") 382) none (.ref 124) (.none))
noncomputable def ob125 : Obj := obP125 Challenge.pw_tp0059_01
noncomputable def ob124 : Obj := ⟨.type "code", none, .fields #[.str (Str.ofString "equal") 431, .str (Str.ofString "Whitespace.equal") 432, .str (Str.ofString "/claim/cut.py") 433, .int (121) 0, .int (2) 0, .int (0) 0, .int (0) 0, .int (3) 0, .ref 119, .bool true, .int (276) 0, .ref 120, .none, .ref 121, .ref 122, .ref 123, .int (436) 0, .int (121) 0, .str (Str.ofString "/claim/cut.py") 437], #[]⟩
noncomputable def obP191 (p : Program) : Obj := fnO (fdDf (mtP p 19 0) (Str.ofString "Headers.__init__") (Str.ofString "__init__") (.ref 184) (.none) (.str (Str.ofString "cpy313.wsgiref.headers") 476) none (.ref 190) (.none))
noncomputable def ob191 : Obj := obP191 Challenge.pw_tp0059_01
noncomputable def ob190 : Obj := ⟨.type "code", none, .fields #[.str (Str.ofString "__init__") 594, .str (Str.ofString "Headers.__init__") 595, .str (Str.ofString "/claim/cut.py") 596, .int (147) 0, .int (2) 0, .int (0) 0, .int (0) 0, .int (3) 0, .ref 185, .bool true, .int (276) 0, .ref 186, .none, .ref 187, .ref 188, .ref 189, .int (601) 0, .int (147) 0, .str (Str.ofString "/claim/cut.py") 602], #[]⟩
noncomputable def obP198 (p : Program) : Obj := fnO (fdSt (mtP p 19 1) (Str.ofString "Headers._convert_string_type") (Str.ofString "_convert_string_type") (.none) (.str (Str.ofString "cpy313.wsgiref.headers") 476) none (.ref 197) (.none))
noncomputable def ob198 : Obj := obP198 Challenge.pw_tp0059_01
noncomputable def ob197 : Obj := ⟨.type "code", none, .fields #[.str (Str.ofString "_convert_string_type") 604, .str (Str.ofString "Headers._convert_string_type") 605, .str (Str.ofString "/claim/cut.py") 606, .int (157) 0, .int (2) 0, .int (0) 0, .int (1) 0, .int (3) 0, .ref 192, .bool true, .int (276) 0, .ref 193, .none, .ref 194, .ref 195, .ref 196, .int (611) 0, .int (157) 0, .str (Str.ofString "/claim/cut.py") 612], #[]⟩
noncomputable def obP236 (p : Program) : Obj := fnO (fdSt (mtP p 19 7) (Str.ofString "Headers.get_all") (Str.ofString "get_all") (.none) (.str (Str.ofString "cpy313.wsgiref.headers") 476) none (.ref 235) (.none))
noncomputable def ob236 : Obj := obP236 Challenge.pw_tp0059_01
noncomputable def ob235 : Obj := ⟨.type "code", none, .fields #[.str (Str.ofString "get_all") 652, .str (Str.ofString "Headers.get_all") 653, .str (Str.ofString "/claim/cut.py") 654, .int (182) 0, .int (2) 0, .int (0) 0, .int (0) 0, .int (3) 0, .ref 232, .bool true, .int (276) 0, .ref 233, .none, .none, .none, .ref 234, .int (655) 0, .int (182) 0, .str (Str.ofString "/claim/cut.py") 656], #[]⟩
noncomputable def obP294 (p : Program) : Obj := fnO (fdSt (mtP p 19 16) (Str.ofString "Headers.add_header") (Str.ofString "add_header") (.none) (.str (Str.ofString "cpy313.wsgiref.headers") 476) none (.ref 293) (.none))
noncomputable def ob294 : Obj := obP294 Challenge.pw_tp0059_01
noncomputable def ob293 : Obj := ⟨.type "code", none, .fields #[.str (Str.ofString "add_header") 717, .str (Str.ofString "Headers.add_header") 718, .str (Str.ofString "/claim/cut.py") 719, .int (214) 0, .int (3) 0, .int (0) 0, .int (0) 0, .int (11) 0, .ref 288, .bool true, .int (276) 0, .ref 289, .none, .ref 290, .ref 291, .ref 292, .int (727) 0, .int (214) 0, .str (Str.ofString "/claim/cut.py") 728], #[]⟩
noncomputable def ob2 (P : Params) : Obj := ⟨.none, none, .dict #[⟨PyData.keyHash P (Str.ofString "\x69mport.loaded._sre"), .str (Str.ofString "\x69mport.loaded._sre") 183, .bool true⟩, ⟨PyData.keyHash P (Str.ofString "class._frozen_importlib.BuiltinImporter"), .str (Str.ofString "class._frozen_importlib.BuiltinImporter") 185, .ref 14⟩, ⟨PyData.keyHash P (Str.ofString "watched.\x69mport"), .str (Str.ofString "watched.\x69mport") 206, .ref 18⟩, ⟨PyData.keyHash P (Str.ofString "class._frozen_importlib.ModuleSpec"), .str (Str.ofString "class._frozen_importlib.ModuleSpec") 216, .ref 22⟩, ⟨PyData.keyHash P (Str.ofString "sys.modules.booked-epoch"), .str (Str.ofString "sys.modules.booked-epoch") 245, .int (3) 0⟩, ⟨PyData.keyHash P (Str.ofString "\x69mport.later-laid._sre"), .str (Str.ofString "\x69mport.later-laid._sre") 270, .bool true⟩, ⟨PyData.keyHash P (Str.ofString "watched.library"), .str (Str.ofString "watched.library") 272, .ref 27⟩, ⟨PyData.keyHash P (Str.ofString "watched.library-objects"), .str (Str.ofString "watched.library-objects") 0, .str (Str.ofString "\x0c") 0⟩, ⟨PyData.keyHash P (Str.ofString "watched.library-deep._sre"), .str (Str.ofString "watched.library-deep._sre") 273, .str (Str.ofString "\x04\x00\x00\x0b\x04\x00\x00\x0b\x04\x00\x00\x03\x04\x00\x00\x0b\x08\x04dict\x02") 0⟩] 9, #[]⟩
noncomputable def ob148 (P : Params) : Obj := ⟨.type "dict", none, .dict #[⟨PyData.keyHash P (Str.ofString "__module__"), .str (Str.ofString "__module__") 391, .str (Str.ofString "cpy313.tabnanny") 382⟩, ⟨PyData.keyHash P (Str.ofString "__firstlineno__"), .str (Str.ofString "__firstlineno__") 395, .int (89) 394⟩, ⟨PyData.keyHash P (Str.ofString "S"), .str (Str.ofString "S") 399, .str (Str.ofString " ") 397⟩, ⟨PyData.keyHash P (Str.ofString "T"), .str (Str.ofString "T") 400, .str (Str.ofString "\t") 398⟩, ⟨PyData.keyHash P (Str.ofString "__init__"), .str (Str.ofString "__init__") 415, .ref 104⟩, ⟨PyData.keyHash P (Str.ofString "longest_run_of_spaces"), .str (Str.ofString "longest_run_of_spaces") 422, .ref 111⟩, ⟨PyData.keyHash P (Str.ofString "indent_level"), .str (Str.ofString "indent_level") 430, .ref 118⟩, ⟨PyData.keyHash P (Str.ofString "equal"), .str (Str.ofString "equal") 438, .ref 125⟩, ⟨PyData.keyHash P (Str.ofString "not_equal_witness"), .str (Str.ofString "not_equal_witness") 446, .ref 132⟩, ⟨PyData.keyHash P (Str.ofString "less"), .str (Str.ofString "less") 454, .ref 139⟩, ⟨PyData.keyHash P (Str.ofString "not_less_witness"), .str (Str.ofString "not_less_witness") 462, .ref 146⟩, ⟨PyData.keyHash P (Str.ofString "__static_attributes__"), .str (Str.ofString "__static_attributes__") 468, .ref 147⟩, ⟨PyData.keyHash P (Str.ofString "__dict__"), .str (Str.ofString "__dict__") 470, .ref 150⟩, ⟨PyData.keyHash P (Str.ofString "__weakref__"), .str (Str.ofString "__weakref__") 472, .ref 151⟩, ⟨PyData.keyHash P (Str.ofString "__doc__"), .str (Str.ofString "__doc__") 473, .none⟩] 4, #[]⟩
noncomputable def ob149 : Obj := ⟨.type "type", none, .cls ⟨(Str.ofString "Whitespace"), [.type "object"], [.ref 149, .type "object"], 148, (Str.ofString "Whitespace"), true, [], [], false, none, false⟩, #[none, none, (some (.str (Str.ofString "Whitespace") 384)), (some (.str (Str.ofString "Whitespace") 392)), (some (.builtin "object.__new__")), (some (.bool true))]⟩
noncomputable def ob296 (P : Params) : Obj := ⟨.type "dict", none, .dict #[⟨PyData.keyHash P (Str.ofString "__module__"), .str (Str.ofString "__module__") 589, .str (Str.ofString "cpy313.wsgiref.headers") 476⟩, ⟨PyData.keyHash P (Str.ofString "__firstlineno__"), .str (Str.ofString "__firstlineno__") 593, .int (145) 592⟩, ⟨PyData.keyHash P (Str.ofString "__init__"), .str (Str.ofString "__init__") 603, .ref 191⟩, ⟨PyData.keyHash P (Str.ofString "_convert_string_type"), .str (Str.ofString "_convert_string_type") 613, .ref 198⟩, ⟨PyData.keyHash P (Str.ofString "__len__"), .str (Str.ofString "__len__") 620, .ref 205⟩, ⟨PyData.keyHash P (Str.ofString "__setitem__"), .str (Str.ofString "__setitem__") 629, .ref 212⟩, ⟨PyData.keyHash P (Str.ofString "__delitem__"), .str (Str.ofString "__delitem__") 635, .ref 217⟩, ⟨PyData.keyHash P (Str.ofString "__getitem__"), .str (Str.ofString "__getitem__") 643, .ref 224⟩, ⟨PyData.keyHash P (Str.ofString "__contains__"), .str (Str.ofString "__contains__") 651, .ref 231⟩, ⟨PyData.keyHash P (Str.ofString "get_all"), .str (Str.ofString "get_all") 657, .ref 236⟩, ⟨PyData.keyHash P (Str.ofString "get"), .str (Str.ofString "get") 668, .ref 244⟩, ⟨PyData.keyHash P (Str.ofString "keys"), .str (Str.ofString "keys") 674, .ref 249⟩, ⟨PyData.keyHash P (Str.ofString "values"), .str (Str.ofString "values") 680, .ref 254⟩, ⟨PyData.keyHash P (Str.ofString "items"), .str (Str.ofString "items") 687, .ref 261⟩, ⟨PyData.keyHash P (Str.ofString "__repr__"), .str (Str.ofString "__repr__") 694, .ref 268⟩, ⟨PyData.keyHash P (Str.ofString "__str__"), .str (Str.ofString "__str__") 700, .ref 273⟩, ⟨PyData.keyHash P (Str.ofString "__bytes__"), .str (Str.ofString "__bytes__") 707, .ref 280⟩, ⟨PyData.keyHash P (Str.ofString "setdefault"), .str (Str.ofString "setdefault") 716, .ref 287⟩, ⟨PyData.keyHash P (Str.ofString "add_header"), .str (Str.ofString "add_header") 729, .ref 294⟩, ⟨PyData.keyHash P (Str.ofString "__static_attributes__"), .str (Str.ofString "__static_attributes__") 731, .ref 295⟩, ⟨PyData.keyHash P (Str.ofString "__dict__"), .str (Str.ofString "__dict__") 733, .ref 298⟩, ⟨PyData.keyHash P (Str.ofString "__weakref__"), .str (Str.ofString "__weakref__") 735, .ref 299⟩, ⟨PyData.keyHash P (Str.ofString "__doc__"), .str (Str.ofString "__doc__") 736, .none⟩] 4, #[]⟩
noncomputable def ob297 : Obj := ⟨.type "type", none, .cls ⟨(Str.ofString "Headers"), [.type "object"], [.ref 297, .type "object"], 296, (Str.ofString "Headers"), true, [], [], false, none, false⟩, #[none, none, (some (.str (Str.ofString "Headers") 582)), (some (.str (Str.ofString "Headers") 590)), (some (.builtin "object.__new__")), (some (.bool true))]⟩
noncomputable def ob162 : Obj := ⟨.type "tuple", none, .seq #[.int (14) 0, .int (10) 0, .int (4) 0, .int (1) 0, .int (1) 0, .int (22) 0, .int (0) 0, .int (31) 0, .int (16) 0, .int (127) 0, .int (0) 0, .int (13) 0, .int (7) 0, .int (22) 0, .int (0) 0, .int (31) 0, .int (16) 0, .int (127) 0, .int (0) 0, .int (1) 0] 0, #[]⟩
noncomputable def ob163 : Obj := ⟨.type "re.Pattern", none, .fields #[.str (Str.ofString "[\\x00-\\x1F\\x7F]") 513, .int (32) 536, .int (0) 0, .none, .none, .ref 162, .int (0) 0], #[]⟩
noncomputable def ob167 : Obj := ⟨.type "tuple", none, .seq #[.int (14) 0, .int (14) 0, .int (4) 0, .int (1) 0, .int (1) 0, .int (9) 0, .int (4294966783) 0, .int (0) 0, .int (0) 0, .int (2147483648) 0, .int (0) 0, .int (0) 0, .int (0) 0, .int (0) 0, .int (0) 0, .int (13) 0, .int (11) 0, .int (9) 0, .int (4294966783) 0, .int (0) 0, .int (0) 0, .int (2147483648) 0, .int (0) 0, .int (0) 0, .int (0) 0, .int (0) 0, .int (0) 0, .int (1) 0] 0, #[]⟩
noncomputable def ob168 : Obj := ⟨.type "re.Pattern", none, .fields #[.str (Str.ofString "[\\x00-\\x08\\x0A-\\x1F\\x7F]") 539, .int (32) 570, .int (0) 0, .none, .none, .ref 167, .int (0) 0], #[]⟩
noncomputable def ob184 : Obj := ⟨.type "tuple", none, .seq #[.none] 0, #[]⟩
noncomputable def ob54 : Obj := ⟨.none, none, .fields #[], #[]⟩
noncomputable def ob61 : Obj := ⟨.none, none, .fields #[], #[]⟩
noncomputable def watchedP (p : Program) (P : Params) : List (Addr × Obj) := [(45, obP45 p), (44, ob44), (59, obP59 p), (58, ob58), (66, obP66 p), (65, ob65), (73, obP73 p), (72, ob72), (80, obP80 p), (79, ob79), (87, obP87 p), (86, ob86), (308, obP308 p), (307, ob307), (313, obP313 p), (312, ob312), (318, obP318 p), (317, ob317), (323, obP323 p), (322, ob322), (328, obP328 p), (327, ob327), (333, obP333 p), (332, ob332), (338, obP338 p), (337, ob337), (345, obP345 p), (344, ob344), (352, obP352 p), (351, ob351), (357, obP357 p), (356, ob356), (104, obP104 p), (103, ob103), (125, obP125 p), (124, ob124), (191, obP191 p), (190, ob190), (198, obP198 p), (197, ob197), (236, obP236 p), (235, ob235), (294, obP294 p), (293, ob293), (2, ob2 P), (148, ob148 P), (149, ob149), (296, ob296 P), (297, ob297), (162, ob162), (163, ob163), (167, ob167), (168, ob168), (184, ob184), (54, ob54), (61, ob61)]
noncomputable def watched (P : Params) : List (Addr × Obj) := watchedP Challenge.pw_tp0059_01 P
noncomputable def named : List (Str × Option Value) := [(Str.ofString "_DIV_LIMIT", (some (.int (4000) 291))), (Str.ofString "_div2n1n", (some (.ref 45))), (Str.ofString "_int2digits", (some (.ref 59))), (Str.ofString "_digits2int", (some (.ref 66))), (Str.ofString "_divmod_pos", (some (.ref 73))), (Str.ofString "int_divmod", (some (.ref 80))), (Str.ofString "_post_parse_validation", (some (.ref 87))), (Str.ofString "Whitespace", (some (.ref 149))), (Str.ofString "Headers", (some (.ref 297))), (Str.ofString "_name_disallowed_re", (some (.ref 163))), (Str.ofString "_value_disallowed_re", (some (.ref 168))), (Str.ofString "_law_ties", (some (.ref 308))), (Str.ofString "_law_near", (some (.ref 313))), (Str.ofString "_law_again", (some (.ref 318))), (Str.ofString "_law_lead", (some (.ref 323))), (Str.ofString "_law_sand", (some (.ref 328))), (Str.ofString "_law_cuts", (some (.ref 333))), (Str.ofString "_law_outer", (some (.ref 338))), (Str.ofString "_law_ones", (some (.ref 345))), (Str.ofString "_law_rests", (some (.ref 352))), (Str.ofString "law", (some (.ref 357))), (Str.ofString "len", none), (Str.ofString "range", none), (Str.ofString "sum", none), (Str.ofString "divmod", none), (Str.ofString "reversed", none), (Str.ofString "type", none), (Str.ofString "str", none), (Str.ofString "list", none), (Str.ofString "tuple", none)]
end
section
open PySem PySem.W PyProof.Rows PySem.Calls
set_option maxRecDepth 100000
set_option maxHeartbeats 8000000
noncomputable def qvP (p : Program) : Program := { p with main := { p.main with body := p.main.body.take 1 ++ p.main.body.drop 30 } }
noncomputable def qv : Program := qvP Challenge.pw_tp0059_01
noncomputable def looseP (p : Program) : List Str := (p.main.scope.names.map (·.1)).filter fun x => !(x == Str.ofString "law" || x == Str.ofString "_sre" || x == Str.ofString "__name__")
noncomputable def loose : List Str := looseP Challenge.pw_tp0059_01
noncomputable def xtP (p : Program) (R : WRecords) (s : Shared) : Bool := xlAt (qvP p) [] s && recOk R s
noncomputable def xt (s : Shared) : Bool := xtP Challenge.pw_tp0059_01 (RowW.records Challenge.rw_tp0059_01.row.toRowW) s
noncomputable def spots : List Addr := [45, 44, 59, 58, 66, 65, 73, 72, 80, 79, 87, 86, 308, 307, 313, 312, 318, 317, 323, 322, 328, 327, 333, 332, 338, 337, 345, 344, 352, 351, 357, 356, 104, 103, 125, 124, 191, 190, 198, 197, 236, 235, 294, 293, 2, 148, 149, 296, 297, 162, 163, 167, 168, 184, 54, 61]
noncomputable def obsF (s : Shared) : List (Option Obj) × Bool × List (Option Value) := (spots.map s.heap.get?, s.heap.isNs mainGlobals, named.map fun p => s.heap.nsMap mainGlobals p.1)
noncomputable def valP (p : Program) (w : World) : List (Option Obj) × Bool × List (Option Value) := ((watchedP p w.params).map fun q => some q.2, true, named.map fun q => q.2)
noncomputable def valF (w : World) : List (Option Obj) × Bool × List (Option Value) := valP Challenge.pw_tp0059_01 w
noncomputable def lhsV (p : Program) (R : WRecords) (b : Bool) (w : World) := (wholeT p (w.withFollow "special-get-raises" b) 4300).map fun s => (openSeen (qvP p) (looseP p) (importedModules p.main.body) (xtP p R) true s, obsF s)
noncomputable def rhsV (p : Program) (b : Bool) (w : World) := some (openGood (qvP p) (looseP p), valP p (w.withFollow "special-get-raises" b))
lay_quick Mine.lhsV Mine.rhsV
end
section
open PySem PySem.W PyProof.Rows PySem.Calls
set_option maxRecDepth 100000
set_option maxHeartbeats 8000000
theorem side0 (w : World) : lhsV Challenge.pw_tp0059_01 (RowW.records Challenge.rw_tp0059_01.row.toRowW) false w = rhsV Challenge.pw_tp0059_01 false w := by
  rw [PySem.W.Fast.te3674015769839404128, PySem.W.Fast.te5160540115937194951]
  kernel_rfl
end
section
open PySem PySem.W PyProof.Rows PySem.Calls
set_option maxRecDepth 100000
set_option maxHeartbeats 8000000
theorem side1 (w : World) : lhsV Challenge.pw_tp0059_01 (RowW.records Challenge.rw_tp0059_01.row.toRowW) true w = rhsV Challenge.pw_tp0059_01 true w := by
  rw [PySem.W.Fast.te3674015769839404128, PySem.W.Fast.te5160540115937194951]
  kernel_rfl
end
section
open PySem PySem.W PyProof.Rows PySem.Calls
set_option linter.unusedVariables false
set_option maxRecDepth 100000
noncomputable def lo (c : Nat) : Nat := if c < 97 then c + 32 else c
noncomputable def hdPair (p : Nat × Nat) : D := dPair (⟨#[p.1]⟩, ⟨#[p.2]⟩)
theorem hdPair_inj (a b : Nat × Nat) (h : hdPair a = hdPair b) : a = b := by
  have := dPair_inj _ _ h
  simp at this
  exact Prod.ext this.1 this.2
theorem lower_letters : ∀ c ∈ letters, Txt.lower ⟨#[c]⟩ = ⟨#[lo c]⟩ ∧ Builtin.Str.tooLong (Txt.lower ⟨#[c]⟩).length = false := by
  have : (letters.all fun c => Txt.lower ⟨#[c]⟩ == ⟨#[lo c]⟩ && !Builtin.Str.tooLong (Txt.lower ⟨#[c]⟩).length) = true := by decide +kernel
  intro c hc
  have := List.all_eq_true.mp this c hc
  simp only [Bool.and_eq_true, beq_iff_eq, Bool.not_eq_true'] at this
  exact this
theorem lo_letters : ∀ c ∈ letters, lo c ∈ letters := by decide
section
variable {prog : Program} {w : World} {hb : Heap} {n : Nat} {sc : Scope} {ρ : Vars} {mg mb mN : Str → Option Value}
theorem lookup_conv : typeLookup (.type "object") (Str.ofString "_convert_string_type") = pure none := by rw [typeLookup_type, builtinLookup_eq_fast]; kernel_rfl
theorem ct_getall (B : Base hb mg mb) (Hd : HdD hb mg mb mN) (ps : List (Nat × Nat)) (hps : ∀ p ∈ ps, p.1 ∈ letters ∧ p.2 ∈ letters) (hlen : ps.length ≤ 1000) (c : Nat) (hc : c ∈ letters) :
    Ct prog w hb 236 (n + 2) [.hd (ps.map hdPair), .str ⟨#[c]⟩] (.lst ((ps.filter fun p => lo p.1 == lo c).map fun p => .str ⟨#[p.2]⟩)) := by
  obtain ⟨nm, doc, pm, ann, cd, ct, F⟩ := Hd.F236
  obtain ⟨nm', doc', pm', ann', cd', ct', F'⟩ := Hd.F198
  refine ct_intro B F [Str.ofString "self", Str.ofString "name"] rfl (fun vals hv => ?_) rfl (by decide +kernel) (fun x hx => ?_) ?_
  · match vals, hv with | [a, b], _ => rfl
  · simp only [List.mem_cons, List.not_mem_nil, or_false] at hx
    rcases hx with rfl | rfl
    · left; rfl
    · right; rfl
  · show St _ _ _ _ _ _ [V "self" (.hd (ps.map hdPair)), V "name" (.str ⟨#[c]⟩)] _ _
    obtain ⟨l1, l2⟩ := lower_letters c hc
    refine s_assign (d := .str ⟨#[lo c]⟩) [V "self" (.hd (ps.map hdPair))] (ev_methK (ev_name (.head _)) (meth_hd Hd.X (by decide) Hd.cnv Hd.f198 lookup_conv _) F' (ev_lower (ev_name (.tail _ (.head _))) l1 l2) (ct_conv (n := n) B Hd.V F' _ _ _ (lo_letters c hc)) (Nat.le_refl _)) ?_
    refine st_ret (EvF.ev (evF_compM ps hdPair hdPair_inj (fun p => lo p.1 == lo c) (fun p => .str ⟨#[p.2]⟩) [V "name" (.str ⟨#[lo c]⟩)] (it_list (ev_hdrs Hd.X Hd.hdr (ev_name (.tail _ (.head _))))) (fun p hp => ?_) (fun p _ _ => ev_itemT (i := ((1 : Nat) : Int)) (ev_name (.head _)) n_int (by omega) rfl (show 2 ≤ sizeLine by decide)) (by unfold sizeLine; omega)))
    obtain ⟨m1, m2⟩ := lower_letters p.1 (hps p hp).1
    have e : (lo p.1 == lo c) = ((⟨#[lo p.1]⟩ : Str) == ⟨#[lo c]⟩) := by
      rw [Bool.eq_iff_iff, beq_iff_eq, beq_iff_eq]; simp
    rw [e]
    exact tst_one (evB_eqStr (ev_lower (ev_itemT (i := ((0 : Nat) : Int)) (ev_name (.head _)) n_int (by omega) rfl (show 2 ≤ sizeLine by decide)) m1 m2) (ev_name (.tail _ (.head _))))
end
end
section
open PySem PySem.W PyProof.Rows PySem.Calls
set_option linter.unusedVariables false
set_option maxRecDepth 100000
section
variable {prog : Program} {w : World} {hb : Heap} {n : Nat} {sc : Scope} {ρ : Vars} {mg mb mN : Str → Option Value}
theorem hdM_at (L : Addr) : hdM L "_headers" = some (.ref L) ∧ ∀ y : Str, y ≠ "_headers" → hdM L y = none := ⟨by unfold hdM; rw [if_pos rfl], fun y h => by unfold hdM; rw [if_neg h]⟩
/-- the same name bears another datum too -/
theorem Act.also {env : Env} {h₀ hs h : Heap} {Y Z : List Addr} {x : Str} {o : Addr} {d : D} (a : Act hb env h₀ hs Y Z h ρ) (hx : (x, Slot.val (.obj o)) ∈ ρ) (hr : Rep h (Y ++ Z) d (.ref o)) : Act hb env h₀ hs Y Z h ((x, .val d) :: ρ) := by
  refine ⟨⟨a.rel.g, a.rel.kind, a.rel.glob, a.rel.blt, a.rel.live, fun y d' m => ?_, fun y pl es m => ?_⟩, a.g₀, a.kept, a.kb, a.fresh, a.st, a.apart, a.noL, fun y pl es m => ?_, a.yz⟩
  · rcases List.mem_cons.mp m with e | m
    · cases e
      obtain ⟨v, va, rv⟩ := a.rel.val _ _ hx
      rw [Rep] at rv; subst rv
      exact ⟨_, va, hr⟩
    · exact a.rel.val y d' m
  · rcases List.mem_cons.mp m with e | m
    · cases e
    · exact a.rel.own y pl es m
  · rcases List.mem_cons.mp m with e | m
    · cases e
    · exact a.own y pl es m
/-- net.add_header(a, b) -/
theorem hd_add (B : Base hb mg mb) (Hd : HdD hb mg mb mN) {A : Around} {Z : List Addr} {s : Shared} {x dx L : Addr} {items : Array Value} {c1 c2 : Nat} {t u : Tok} {ps : List (Nat × Nat)} {Q : Value → Shared → Prop} {E : Value → Shared → Prop} (hA : Rm (n + 3) A) (hg : G hb s.heap)
    (hZ : ∀ a ∈ Z, ∃ o, s.heap.get? a = some o ∧ tabLike o = false) (hI : InsAt s.heap x dx hdC (hdM L)) (hl : s.heap.PlainList L items) (hr : Reps s.heap (L :: Z) (ps.map hdPair) items.toList) (hxZ : x ∉ Z) (hdZ : dx ∉ Z) (hLZ : L ∉ Z) (hL0 : hb.get? L = none) (hlen : ps.length ≤ 1000)
    (h1 : c1 ∈ letters) (h2 : c2 ∈ letters)
    (k : ∀ h' tk items', Kb hb [L] s.heap h' → h'.PlainList L items' → Reps h' (L :: Z) ((ps ++ [(c1, c2)]).map hdPair) items'.toList → Q .none { s with heap := h', toks := tk }) :
    wpAny (model prog w) A (call (.ref 294) [.ref x, .str ⟨#[c1]⟩ t, .str ⟨#[c2]⟩ u]) Q E s := by
  obtain ⟨nm, doc, pm, ann, cd, ct, F⟩ := Hd.F294
  obtain ⟨nm', doc', pm', ann', cd', ct', F'⟩ := Hd.F198
  obtain ⟨⟨ox, ex, tx⟩, odx, edx, tdx⟩ := hI.live
  have fr : s.heap.get? s.heap.objs.size = none := Heap.get?_none_of_le (Nat.le_refl _)
  refine call_raw (n := n + 2) (Z := Z) (P := fun h => h.get? s.heap.objs.size = some { cls := .type "dict", data := .dict #[] }) (vals := [.ref x, .str ⟨#[c1]⟩ t, .str ⟨#[c2]⟩ u, .ref s.heap.objs.size]) (ds := [.obj x, .str ⟨#[c1]⟩, .str ⟨#[c2]⟩, .obj s.heap.objs.size]) B [Str.ofString "self", Str.ofString "_name", Str.ofString "_value", Str.ofString "_params"] rfl rfl (by decide +kernel) (fun y hy => ?_) (noCell rfl) rfl rfl rfl hA (F.fno hg) hg hg (.refl _ _) hZ (fun Qb Eb kb => ?_) fun A' env h₁ h₂ tk E' hA' he _ dead hP dead₁ full₂ a => ?_
  · simp only [List.mem_cons, List.not_mem_nil, or_false] at hy
    rcases hy with rfl | rfl | rfl | rfl <;> rfl
  · refine bind294 (kb _ s.toks (fun _ _ e => Heap.get?_push_of_some _ e) (Heap.get?_push_size _ rfl) ?_)
    exact Reps.cons (by rw [Rep]) (Reps.cons (rep_of_str _ _ _ _) (Reps.cons (rep_of_str _ _ _ _) (Reps.cons (by rw [Rep]) Reps.nil)))
  · have hD₂ := full₂ _ _ hP
    have a₀ : Act hb env s.heap h₂ [env.locals] Z h₂ [V "self" (.obj x), V "_name" (.str ⟨#[c1]⟩), V "_value" (.str ⟨#[c2]⟩), V "_params" (.obj s.heap.objs.size)] := Act.rebase a
    have yx : ∀ b o, s.heap.get? b = some o → b ∉ Z → b ∉ [env.locals] ++ Z := fun b o e hz m => by
      simp only [List.mem_append, List.mem_singleton] at m
      rcases m with rfl | m
      · rw [dead] at e; cases e
      · exact hz m
    have hrep : Rep h₂ ([env.locals] ++ Z) (.hd (ps.map hdPair)) (.ref x) := by
      rw [Rep]
      obtain ⟨oL, eL, _⟩ := id hl.isList
      exact ⟨x, dx, L, items, rfl, yx _ _ ex hxZ, yx _ _ edx hdZ, yx _ _ eL hLZ, ⟨hdM L, hI.ext a.kept, hdM_at L⟩, IsList.off hl.isList fun o => a.kept.keep _ o, ((hr.less (W := [L])).more (W := [env.locals]) fun b m => by simp at m; subst m; exact dead).ext a.kept⟩
    have a₀ := a₀.also (.head _) hrep
    have nD : s.heap.objs.size ≠ env.locals := fun e => by rw [e, dead₁] at hP; cases hP
    have old₂ : ∀ b o, s.heap.get? b = some o → ∃ o', h₂.get? b = some o' := fun b o e => a.kept.live b o e
    refine x_own hA' he (ds := []) [V "self" (.hd (ps.map hdPair)), V "self" (.obj x), V "_name" (.str ⟨#[c1]⟩), V "_value" (.str ⟨#[c2]⟩), V "_params" (.obj s.heap.objs.size)] a₀ (evF_list evs_nil (by decide)) (.inl rfl) (ne_of_all (by kernel_rfl) (by simp)) (fun l h₃ tk₃ hl₃ a₃ => ?_) (by unfold swapsWith; rfl)
    refine wpAny_execs_cons (wpAny_If (evB_notNone (ev_name (.tail _ (.tail _ (.tail _ (.tail _ (.head _)))))) A' env _ _ _ _ hA' he a₃.rel fun s₁ k₁ => ?_))
    obtain ⟨h₄, tk₄, rfl, e₄⟩ := k₁
    simp only [if_true]
    have a₄ := a₃.ext e₄
    let F₅ : Vars := [O "parts" true [.str ⟨#[c2]⟩], V "self" (.hd (ps.map hdPair)), V "self" (.obj x), V "_name" (.str ⟨#[c1]⟩), V "_params" (.obj s.heap.objs.size)]
    refine (show St prog w hb false (n + 2) _ _ _ (.next F₅) from ?_) A' env s.heap h₂ (l :: [env.locals]) Z _ _ _ hA' he (fun q => nomatch q) a₄ fun Y₅ h₅ tk₅ a₅ m₅ _ => ?_
    · refine s_assign (d := .str ⟨#[c2]⟩) [O "parts" true [], V "self" (.hd (ps.map hdPair)), V "self" (.obj x), V "_name" (.str ⟨#[c1]⟩), V "_params" (.obj s.heap.objs.size)] (ev_methK (ev_name (.tail _ (.head _))) (meth_hd Hd.X (by decide) Hd.cnv Hd.f198 lookup_conv _) F' (ev_name (.tail _ (.tail _ (.tail _ (.tail _ (.head _)))))) (ct_conv (n := n) B Hd.V F' _ _ _ h2) (by omega)) ?_
      exact s_append (d := .str ⟨#[c2]⟩) [V "self" (.hd (ps.map hdPair)), V "self" (.obj x), V "_name" (.str ⟨#[c1]⟩), V "_params" (.obj s.heap.objs.size)] (.tail _ (.head _)) (ev_name (.head _)) (st_sub (by simp [F₅]) st_nil) (by simp)
    · have dY₅ : ∀ b ∈ Y₅, b = env.locals ∨ h₂.get? b = none := fun b mb => by
        rcases m₅ b mb with m | m
        · simp only [List.mem_cons, List.not_mem_nil, or_false] at m
          rcases m with rfl | rfl
          · exact .inr hl₃
          · exact .inl rfl
        · exact .inr m
      have nY₅ : ∀ b o, s.heap.get? b = some o → b ∉ Y₅ := fun b o e mb => by
        rcases dY₅ b mb with q | q
        · rw [q, dead] at e; cases e
        · obtain ⟨o', ho'⟩ := old₂ b o e
          rw [ho'] at q; cases q
      have hD₅ : h₅.get? s.heap.objs.size = some { cls := .type "dict", data := .dict #[] } := a₅.kb.keep _ _ (fun mb => by
        rcases dY₅ _ mb with q | q
        · exact nD q
        · rw [hD₂] at q; cases q) rfl hD₂
      refine for_noItems hA'.hd (d := s.heap.objs.size) ?_ hD₅ (fun Q' E' q => ?_) fun h₆ tk₆ full₆ => ?_
      · intro e
        obtain ⟨mc, ns, _⟩ := B.lim
        have := ntab_ns ns hg.old
        have lt : cStatics < s.heap.objs.size := this.lt
        rw [e] at lt
        exact absurd lt (by decide)
      · obtain ⟨v, va, rv⟩ := a₅.rel.val _ _ (.tail _ (.tail _ (.tail _ (.tail _ (.head _)))))
        rw [Rep] at rv; subst rv
        exact wpAny_Name (ld_var (s := { s with heap := h₅, toks := tk₅ }) a₅.rel.kind va (by decide) q) (by decide)
      · have e₆ : Ext hb h₅ h₆ := Ext.full full₆
        have a₆ := a₅.ext e₆
        have I₆ : InsAt h₆ x dx hdC (hdM L) := (hI.ext a₆.kept)
        have l₆ : h₆.PlainList L items := PlainList.off hl fun o => a₆.kept.keep _ o
        refine wpAny_execs_cons (wpAny_Expr (wpAny_Call_append rfl rfl rfl rfl ?_) (by simp only [interactive, he]; rfl))
        refine Attribute_any_ ?_ rfl
        refine wpAny_Name ?_ (by decide)
        obtain ⟨v, va, rv⟩ := a₆.rel.val _ _ (.tail _ (.tail _ (.head _)))
        rw [Rep] at rv; subst rv
        refine ld_var (s := { s with heap := h₆, toks := tk₆ }) a₆.rel.kind va (by decide) ?_
        refine x_attr (s := { s with heap := h₆, toks := tk₆ }) Hd.X a₆.rel.g I₆ (hdM_at L).1 Hd.hdr (by rw [typeLookup_type, builtinLookup_eq_fast]; kernel_rfl) rfl ?_
        obtain ⟨m₆, hm₆⟩ := l₆
        refine ⟨L, items, rfl, ⟨_, m₆, hm₆, rfl, rfl, rfl⟩, ?_⟩
        have r₆ : Rel hb env (Y₅ ++ Z) h₆ F₅ := a₆.rel
        refine ev_tuple (evs_cons (ev_methK (ev_name (.tail _ (.head _))) (meth_hd Hd.X (by decide) Hd.cnv Hd.f198 lookup_conv _) F' (ev_name (.tail _ (.tail _ (.tail _ (.head _))))) (ct_conv (n := n) B Hd.V F' _ _ _ h1) (by omega)) (evs_cons (ev_joinL (ys := [⟨#[c2]⟩]) ev_str (ev_own (.head _)) (by decide) (show 1 + 0 + 1 ≤ 1048576 by decide)) evs_nil)) (show 2 ≤ sizeLine by decide) A' env (Y₅ ++ Z) _ _ _ hA' he r₆ fun y s₇ hy k₇ => ?_
        obtain ⟨h₇, tk₇, rfl, e₇⟩ := k₇
        dsimp only at hy e₇ ⊢
        have l₇ : h₇.PlainList L items := PlainList.off ⟨m₆, hm₆⟩ fun o => e₇.keep _ o
        have hlen' := hr.length
        simp only [Array.length_toList, List.length_map] at hlen'
        refine wpAny_list_append_plain (s := { s with heap := h₇, toks := tk₇ }) l₇ (fun h₈ hl₈ hs₈ => ?_) (by rw [hlen']; unfold sizeLine; omega)
        have kb₈ : Kb hb [L] h₇ h₈ := Kb.same hs₈ (plain_nice l₇) hL0
        have ex₇ : Ext hb s.heap h₇ := a₆.kept.trans e₇
        refine wpAny_execs_nil (k h₈ tk₇ _ ((Kb.ext ex₇).trans kb₈) hl₈ ?_)
        rw [List.map_append, Array.toList_push]
        refine Reps.append ((hr.ext ex₇).kb kb₈ fun b m => by simp at m; subst m; exact List.mem_cons_self) (Reps.cons ?_ Reps.nil)
        have ej : Txt.join (Str.ofString "; ") [⟨#[c2]⟩] = ⟨#[c2]⟩ := by unfold Txt.join; rw [StrLaws.glued_eq_join]; rfl
        rw [ej] at hy
        have hy' : Rep h₇ Z (hdPair (c1, c2)) y := hy.less (W := Y₅)
        unfold hdPair dPair at hy' ⊢
        rw [Rep] at hy' ⊢
        obtain ⟨a', its, rfl, ha', ⟨o', ho', hc', n', hd'⟩, hr'⟩ := hy'
        have hne : a' ≠ L := fun e => by
          obtain ⟨m₇, hm₇⟩ := l₇
          rw [e, hm₇] at ho'; cases ho'; exact absurd hc' (by simp)
        refine ⟨a', its, rfl, fun m => ?_, ⟨o', kb₈.keep a' o' (by simpa using hne) (tabLike_cls hc') ho', hc', n', hd'⟩, ?_⟩
        · rcases List.mem_cons.mp m with m | m
          · exact hne m
          · exact ha' m
        · rw [Reps] at hr' ⊢
          obtain ⟨v1, r1, e1, hv1, hr'⟩ := hr'
          rw [Reps] at hr'
          obtain ⟨v2, r2, rfl, hv2, hr'⟩ := hr'
          rw [Reps] at hr'
          subst hr'
          obtain ⟨t1, rfl⟩ := rep_str hv1
          obtain ⟨t2, rfl⟩ := rep_str hv2
          exact ⟨_, _, e1, rep_of_str _ _ _ _, Reps.cons (rep_of_str _ _ _ _) Reps.nil⟩
end
end
section
open PySem PySem.W PyProof.Rows PySem.Calls
set_option linter.unusedVariables false
set_option maxRecDepth 100000
section
variable {prog : Program} {w : World} {hb : Heap} {t : Bool} {n : Nat} {sc : Scope} {ρ ρ' : Vars} {R : Out} {rest : List Stmt} {mg mb : Str → Option Value}
/-- a list of mine without a name turns -/
theorem Act.turnL {env : Env} {h₀ hs h h' : Heap} {Y Z : List Addr} {L : Addr} {items items' : Array Value} (a : Act hb env h₀ hs Y Z h ρ) (mL : L ∈ Y) (lo : h.IsList L items) (kb : Kb hb [L] h h') (lo' : h'.IsList L items') (hv : ∀ p ∈ ρ, ∃ d, p.2 = .val d) : Act hb env h₀ hs Y Z h' ρ := by
  have mY : ∀ b ∈ [L], b ∈ Y := fun b m => by simp at m; subst m; exact mL
  have mYZ : ∀ b ∈ [L], b ∈ Y ++ Z := fun b m => List.mem_append_left _ (mY b m)
  have va : ∀ y u, VarAt env h y u → VarAt env h' y u := fun y u v => v.kb lo kb
  refine ⟨Rel.of_slots (kb.g a.rel.g) a.rel.kind a.rel.glob a.rel.blt (fun b m => ?_) (fun y sl m => ?_), a.g₀, kb.toExt a.kept fun b m => by simp at m; subst m; exact a.fresh _ mL, a.kb.trans (kb.more mY), a.fresh,
    fun y hy => ?_, a.apart, a.noL, fun y pl es hm => ?_, a.yz⟩
  · by_cases e : b = L
    · subst e; exact (nice_list lo').ntab
    · obtain ⟨o, ho', t⟩ := a.rel.live b m
      exact ⟨o, kb.keep b o (by simpa using e) t ho', t⟩
  · obtain ⟨d, e⟩ := hv _ m
    refine (a.rel.slot m).kb kb mYZ (va y) fun pl ds e' => ?_
    simp only at e; rw [e] at e'; cases e'
  · obtain ⟨q, m, s⟩ := a.st y hy
    exact ⟨q, m, s.off fun o t e => kb.keep _ o (by simp; exact fun e => list_ne_store s _ _ lo e.symm) t e⟩
  · obtain ⟨d, e⟩ := hv _ hm
    simp only at e; cases e
/-- a list of mine without a name is given up -/
theorem Act.dropY {env : Env} {h₀ h : Heap} {Y Z : List Addr} {L : Addr} {items : Array Value} (a : Act hb env h₀ h₀ Y Z h ρ) (mL : L ∈ Y) (lo : h.IsList L items) (hv : ∀ p ∈ ρ, ∃ d, p.2 = .val d) : Act hb env h₀ h₀ (Y.filter fun b => b ≠ L) Z h ρ := by
  have sub : ∀ b, b ∈ Y.filter (fun b => b ≠ L) → b ∈ Y ∧ b ≠ L := fun b m => by simpa using m
  have big : ∀ b, b ∈ Y.filter (fun b => b ≠ L) ++ Z → b ∈ Y ++ Z := fun b m => by
    rcases List.mem_append.mp m with m | m
    · exact List.mem_append_left _ (sub b m).1
    · exact List.mem_append_right _ m
  refine ⟨⟨a.rel.g, a.rel.kind, a.rel.glob, a.rel.blt, fun b m => a.rel.live b (big b m), fun y d m => ?_, fun y pl es m => ?_⟩, a.g₀, a.kept, ⟨fun b o m t e => ?_, fun b o m e => ?_, a.kb.g⟩, fun b m => a.fresh b (sub b m).1, fun x hx => ?_, a.apart, a.noL, fun y pl es m => ?_, fun b m => a.yz b (sub b m).1⟩
  · obtain ⟨v, p, r⟩ := a.rel.val y d m
    exact ⟨v, p, Rep.mono (fun b o hn t e => ⟨e, fun q => hn (big b q)⟩) _ _ r⟩
  · obtain ⟨d, e⟩ := hv _ m
    simp only at e; cases e
  · by_cases q : b ∈ Y
    · rw [a.fresh b q] at e; cases e
    · exact a.kb.keep b o q t e
  · by_cases q : b ∈ Y
    · rw [a.fresh b q] at e; cases e
    · exact a.kb.live b o q e
  · obtain ⟨q, m, s⟩ := a.st x hx
    exact ⟨q, by simp only [List.mem_filter]; exact ⟨m, by simpa using fun e => list_ne_store s _ _ lo e.symm⟩, s⟩
  · obtain ⟨d, e⟩ := hv _ m
    simp only at e; cases e
/-- the target of a loop over pairs -/
theorem x_assign2 {A : Around} {env : Env} (hA : Rm n A) (he : env.scope = sc) {h₀ hs : Heap} {Y Z : List Addr} {s : Shared} {x y : Str} {px py tpos : Pos} {kk : Nat} {d₁ d₂ : D} {v : Value} {Q : Unit → Shared → Prop} {E : Value → Shared → Prop} (ρ₁ ρ₂ : Vars)
    (a : Act hb env h₀ hs Y Z s.heap ρ) (hv : Rep s.heap (Y ++ Z) (.tup [d₁, d₂]) v) (hx : sc.names.lookup x = some .local ∨ sc.names.lookup x = some .cell) (hy : sc.names.lookup y = some .local ∨ sc.names.lookup y = some .cell)
    (h₁ : ∀ p ∈ ρ₁, p ∈ ρ ∧ p.1 ≠ x) (h₂ : ∀ p ∈ ρ₂, p ∈ (x, Slot.val d₁) :: ρ₁ ∧ p.1 ≠ y)
    (k : ∀ h' tk, Act hb env h₀ hs Y Z h' ((y, .val d₂) :: ρ₂) → Kb hb Y s.heap h' → (∀ l items, s.heap.PlainList l items → h'.PlainList l items) → Q () { s with heap := h', toks := tk })
    (ha : ∀ env, (assignEach [.Name x px, .Name y py] env).map (·.2) = [assign (.Name x px) env, assign (.Name y py) env] ∧ (assignEach [.Name x px, .Name y py] env).length = 2 ∧ (assignEach [.Name x px, .Name y py] env).findIdx? (·.1) = none := by intro _; exact ⟨rfl, rfl, rfl⟩) :
    wpAny (model prog w) A (assign (.Tuple [.Name x px, .Name y py] kk tpos) env v) Q E s := by
  rw [Rep] at hv
  obtain ⟨u, items, rfl, hu, hl, hr⟩ := hv
  have hsz : items.size = 2 := by have := hr.length; simpa using this
  refine wpAny_assign_Tuple hA.hd hl (by rw [(ha env).2.1, hsz]) (ha env).2.2 fun h₂' hx₂ => ?_
  rw [(ha env).1]
  have full : ∀ b o, s.heap.get? b = some o → h₂'.get? b = some o := fun b o e => hx₂ b o (Nat.ne_of_lt (Heap.lt_size e)) e
  have e₂ : Ext hb s.heap h₂' := Ext.full full
  have a₂ := a.ext e₂
  rw [Reps] at hr
  obtain ⟨v₁, r₁, e3, hv₁, hr⟩ := hr
  rw [Reps] at hr
  obtain ⟨v₂, r₂, rfl, hv₂, hr⟩ := hr
  rw [Reps] at hr
  subst hr
  rw [e3]
  have mYZ : ∀ {q}, q ∈ Y → ∀ b ∈ [q], b ∈ Y ++ Z := fun {q} m b mb => by simp at mb; subst mb; exact List.mem_append_left _ m
  obtain ⟨q₁, m₁, sa₁⟩ := a₂.st x (by show env.scope.names.lookup x = _ ∨ env.scope.names.lookup x = _; rw [he]; exact hx)
  refine wpAny_bind (wpAny_holding (wpAny_assign_Name (store_var (s := { s with heap := h₂' }) a₂.rel.kind sa₁ (a₂.hap sa₁) fun h₃ tk₃ hs₃ sa₃ va₃ vo₃ => ?_)))
  have a₃ := a₂.bind (ρ' := ρ₁) m₁ sa₁ hs₃ sa₃ va₃ (hv₁.ext e₂) vo₃ h₁
  have kb₃ : Kb hb [q₁] h₂' h₃ := Kb.same hs₃ sa₁.nice (a₂.hbfr m₁)
  obtain ⟨q₂, m₂, sa₂⟩ := a₃.st y (by show env.scope.names.lookup y = _ ∨ env.scope.names.lookup y = _; rw [he]; exact hy)
  refine wpAny_bind (wpAny_holding (wpAny_assign_Name (store_var (s := { s with heap := h₃, toks := tk₃ }) a₃.rel.kind sa₂ (a₃.hap sa₂) fun h₄ tk₄ hs₄ sa₄ va₄ vo₄ => ?_)))
  have a₄ := a₃.bind (ρ' := ρ₂) m₂ sa₂ hs₄ sa₄ va₄ ((hv₂.ext e₂).kb kb₃ (mYZ m₁)) vo₄ h₂
  have kb₄ : Kb hb [q₂] h₃ h₄ := Kb.same hs₄ sa₂.nice (a₃.hbfr m₂)
  refine wpAny_pure (k h₄ tk₄ a₄ ((Kb.ext e₂).trans ((kb₃.more fun b m => by simp at m; subst m; exact m₁).trans (kb₄.more fun b m => by simp at m; subst m; exact m₂))) fun l its hl => ?_)
  obtain ⟨m, hm⟩ := hl
  have h2 := full _ _ hm
  have h3 := kb₃.keep l _ (by simp; exact list_ne_store sa₁ _ _ ⟨_, h2, rfl, m, rfl⟩) rfl h2
  exact ⟨m, kb₄.keep l _ (by simp; exact list_ne_store sa₂ _ _ ⟨_, h3, rfl, m, rfl⟩) rfl h3⟩
/-- a sign of a str -/
theorem ev_sign {value slice : Expr} {pos : Pos} {x : Str} {i c : Nat} (ev : Ev prog w hb n sc ρ value (.str x)) (y : Ev prog w hb n sc ρ slice (.int (i : Nat))) (hc : (seqIndex? (i : Nat) x.length).bind (x.cps[·]?) = some c) (hi : i < 1000000)
    (hs : ∀ a u t, subscripted slice false (.str a u) (.int (i : Nat) t) = operate [.str a u, .int (i : Nat) t] (getItem (.str a u) (.int (i : Nat) t)) := by intro _ _ _; rfl) : Ev prog w hb n sc ρ (.Subscript value slice pos) (.str ⟨#[c]⟩) := fun A env Z s Q E hA he rl k =>
  Subscript_ (ev A env Z s _ E hA he rl fun v s₁ hv k₁ => y A env Z s₁ _ E hA he (rl.ext k₁.ext) fun u s₂ hu k₂ => by
    obtain ⟨t, rfl⟩ := rep_str hv
    obtain ⟨t', rfl⟩ := rep_int hu
    refine tail_any (typeIs_str _ _ _) PySem.F.slot_str_getitem.lookup (P.getItem_str ?_ hc (k _ _ (rep_of_str _ _ _ _) ((k₁.trans k₂).trans (.tok _ _ _)))) (hs x t t')
    rw [Bool.or_eq_false_iff]; exact ⟨decide_eq_false (by omega), decide_eq_false (by omega)⟩)
/-- a list is walked by pairs -/
theorem it_listL {e : Expr} {ds : List D} {elts : List Expr} {kk : Nat} {tpos : Pos} (x : Ev prog w hb n sc ρ e (.lst ds)) {A : Around} {env : Env} {Z : List Addr} {s : Shared} {Q : Value → Shared → Prop} {E : Value → Shared → Prop} (hA : Rm n A) (he : env.scope = sc) (rl : Rel hb env Z s.heap ρ)
    (k : ∀ I fp wr P St s', Kp hb s s' → Iter prog w hb s.heap Z ds I fp wr P St s'.heap → LetGo prog w (.Tuple elts kk tpos) I St → Q (.ref I) s') : wpAny (model prog w) A (eval e env) (fun xv s₁ => wpAny (model prog w) A (pyIter xv) Q E s₁) E s := x A env Z s _ E hA he rl fun v s₁ hv k₁ => by
  rw [Rep] at hv
  obtain ⟨a, items, rfl, ha, hl, hr⟩ := hv
  refine wpAny_pyIter_list hl ?_
  have ex : Ext hb s₁.heap (s₁.heap.push { cls := .type "list_iterator", data := .fields #[.ref a, .int 0 0] }) := Ext.push _
  have hne : a ≠ s₁.heap.objs.size := by obtain ⟨o, ho, _⟩ := id hl; exact Nat.ne_of_lt (Heap.lt_size ho)
  have hsz : items.size = ds.length := by have := hr.length; simpa using this
  have fr : s₁.heap.get? s₁.heap.objs.size = none := Heap.get?_none_of_le (Nat.le_refl _)
  have lg : LetGo prog w (.Tuple elts kk tpos) s₁.heap.objs.size (fun i h => h.IsListIter s₁.heap.objs.size a i ∧ h.IsList a items) := fun A i s v Q E st q => by
    cases v with
    | ref T => exact wpAny_letOwnedTupleGo_listiter st.1 q
    | _ => exact wpAny_pure q
  refine k _ [s₁.heap.objs.size, a] [s₁.heap.objs.size] (fun i v => items[i]? = some v) (fun i h => h.IsListIter s₁.heap.objs.size a i ∧ h.IsList a items) _ (k₁.trans (.of ex)) ⟨fun A' h' => hsz ▸ Walks.list h' _ a hne items,
    ⟨⟨_, Heap.get?_push_size _ rfl, rfl, rfl⟩, IsList.off hl fun o => ex.keep _ o⟩, ?_, ?_, ?_, ?_, fun i h' hh b hb' => by simp at hb'; subst hb'; exact isF_listiter hh.1, ?_⟩ lg
  · intro b hb'
    obtain ⟨o, ho, _⟩ := id hl
    have lt := Heap.lt_size ho
    simp only [Heap.size_push]
    rcases List.mem_cons.mp hb' with rfl | hb'
    · exact Nat.lt_succ_self _
    · simp at hb'; subst hb'; exact Nat.lt_succ_of_lt lt
  · intro b hb'; simp at hb'; subst hb'; exact k₁.ext.none fr
  · intro b hb'
    rcases List.mem_cons.mp hb' with rfl | hb'
    · exact (rl.ext k₁.ext).fresh fr
    · simp at hb'; subst hb'; exact ha
  · rintro i h' ⟨h1, h2⟩ b hb'
    rcases List.mem_cons.mp hb' with rfl | hb'
    · exact (isF_listiter h1).nice
    · simp at hb'; subst hb'; exact nice_list h2
  · intro i v hv
    obtain ⟨d, e1, e2⟩ := hr.get' (i := i) (v := v) (by simpa using hv)
    exact ⟨d, e1, (e2.more fun a' h => by simp at h; subst h; exact fr).ext ex⟩
end
end
section
open PySem PySem.W PyProof.Rows PySem.Calls
set_option linter.unusedVariables false
set_option maxRecDepth 100000
noncomputable def hds (ts : List (Nat × Nat)) : List (Nat × Nat) := ts.flatMap fun p => [(97 + p.1, 65 + p.2), (65 + p.2, 97 + p.1)]
noncomputable def nearOf (ts : List (Nat × Nat)) : List (List Nat) := [65, 98, 67, 100].map fun c => ((hds ts).filter fun p => lo p.1 == lo c).map fun p => lo p.2 - 97
theorem lowA (i : Nat) (h : i < 4) : 97 + i ∈ letters := by
  match i, h with | 0, _ => decide | 1, _ => decide | 2, _ => decide | 3, _ => decide
theorem upA (i : Nat) (h : i < 4) : 65 + i ∈ letters := by
  match i, h with | 0, _ => decide | 1, _ => decide | 2, _ => decide | 3, _ => decide
theorem hds_letters (ts : List (Nat × Nat)) (h : ∀ p ∈ ts, p.1 < 4 ∧ p.2 < 4) : ∀ p ∈ hds ts, p.1 ∈ letters ∧ p.2 ∈ letters := fun p hp => by
  obtain ⟨q, hq, hp⟩ := List.mem_flatMap.mp hp
  obtain ⟨h1, h2⟩ := h q hq
  simp only [List.mem_cons, List.not_mem_nil, or_false] at hp
  rcases hp with rfl | rfl
  · exact ⟨lowA _ h1, upA _ h2⟩
  · exact ⟨upA _ h2, lowA _ h1⟩
theorem hds_length (ts : List (Nat × Nat)) : (hds ts).length = 2 * ts.length := by
  induction ts with
  | nil => rfl
  | cons p ts ih =>
    have : hds (p :: ts) = [(97 + p.1, 65 + p.2), (65 + p.2, 97 + p.1)] ++ hds ts := by simp [hds]
    rw [this, List.length_append, ih]; simp; omega
theorem hds_snoc (ts : List (Nat × Nat)) (p : Nat × Nat) : hds (ts ++ [p]) = hds ts ++ [(97 + p.1, 65 + p.2)] ++ [(65 + p.2, 97 + p.1)] := by simp [hds]
theorem occ_letters : ∀ c ∈ letters, ∃ r, Builtin.Str.occurrences (Str.ofString "abcd") ⟨#[lo c]⟩ 0 (Str.ofString "abcd").length 1 = (lo c - 97) :: r := by
  have : (letters.all fun c => Builtin.Str.occurrences (Str.ofString "abcd") ⟨#[lo c]⟩ 0 (Str.ofString "abcd").length 1 == [lo c - 97]) = true := by decide +kernel
  intro c hc
  have := List.all_eq_true.mp this c hc
  exact ⟨[], beq_iff_eq.mp this⟩
theorem sign_low (i : Nat) (h : i < 4) : (seqIndex? (i : Nat) (Str.ofString "abcd").length).bind ((Str.ofString "abcd").cps[·]?) = some (97 + i) := by
  match i, h with | 0, _ => rfl | 1, _ => rfl | 2, _ => rfl | 3, _ => rfl
theorem sign_up (i : Nat) (h : i < 4) : (seqIndex? (i : Nat) (Str.ofString "ABCD").length).bind ((Str.ofString "ABCD").cps[·]?) = some (65 + i) := by
  match i, h with | 0, _ => rfl | 1, _ => rfl | 2, _ => rfl | 3, _ => rfl
theorem strD_inj (a b : Nat) (h : D.str ⟨#[a]⟩ = D.str ⟨#[b]⟩) : a = b := by
  injection h with h; simp at h; exact h
section
variable {prog : Program} {w : World} {hb : Heap} {n : Nat} {sc : Scope} {ρ : Vars} {mg mb mN : Str → Option Value}
/-- the fact of the heap beside the loop -/
noncomputable def HdJ (hb : Heap) (x dx L : Addr) (ps : List (Nat × Nat)) (Y Z : List Addr) (h : Heap) : Prop :=
  InsAt h x dx hdC (hdM L) ∧ x ∉ Y ++ Z ∧ dx ∉ Y ++ Z ∧ L ∈ Y ∧ ∃ items, h.PlainList L items ∧ Reps h (Y ++ Z) (ps.map hdPair) items.toList
/-- one `net.add_header(e, f)` -/
theorem add_stmt (B : Base hb mg mb) (Hd : HdD hb mg mb mN) {A : Around} {env : Env} (hA : Rm (n + 3) A) (he : env.scope = sc) {h₀ hs : Heap} {Y Z : List Addr} {s : Shared} {x dx L : Addr} {ps : List (Nat × Nat)} {c1 c2 : Nat} {e₁ e₂ : Expr} {np ap pos : Pos} {Q : Value → Shared → Prop} {E : Value → Shared → Prop}
    (a : Act hb env h₀ hs Y Z s.heap ρ) (J : HdJ hb x dx L ps Y Z s.heap) (hx : (Str.ofString "net", Slot.val (.obj x)) ∈ ρ) (hv : ∀ p ∈ ρ, ∃ d, p.2 = .val d) (ev₁ : Ev prog w hb (n + 3) sc ρ e₁ (.str ⟨#[c1]⟩)) (ev₂ : Ev prog w hb (n + 3) sc ρ e₂ (.str ⟨#[c2]⟩)) (h1 : c1 ∈ letters) (h2 : c2 ∈ letters) (hlen : ps.length ≤ 1000)
    (k : ∀ h' tk, Act hb env h₀ hs Y Z h' ρ → HdJ hb x dx L (ps ++ [(c1, c2)]) Y Z h' → Kb hb Y s.heap h' → Q .none { s with heap := h', toks := tk })
    (hs₁ : starEach [e₁, e₂] env = [(false, eval e₁ env), (false, eval e₂ env)])
    (hE : ∃ pl, eval (.Call (.Attribute (.Name (Str.ofString "net") np) (Str.ofString "add_header") ap) [e₁, e₂] [] pos) env = (do
      let ov ← eval (.Name (Str.ofString "net") np) env
      standAt ap.atName
      let (f, first) ← holding [ov] (getMethod ov (Str.ofString "add_header") pl)
      callWith pos f first (backTo pos (starEach [e₁, e₂] env)) [])) :
    wpAny (model prog w) A (eval (.Call (.Attribute (.Name (Str.ofString "net") np) (Str.ofString "add_header") ap) [e₁, e₂] [] pos) env) Q E s := by
  obtain ⟨pl, hE⟩ := hE
  obtain ⟨hI, nx, ndx, mL, items, hl, hr⟩ := J
  refine MethodCall_ (pl := pl) (ev_name hx (by decide) A env (Y ++ Z) s _ E hA he a.rel fun v s₁ hv₁ k₁ => ?_) hE
  rw [Rep] at hv₁; subst hv₁
  obtain ⟨h₁, tk₁, rfl, e₁'⟩ := k₁
  have a₁ := a.ext e₁'
  have I₁ := hI.ext e₁'
  obtain ⟨nm, doc, pm, ann, cd, ct, F⟩ := Hd.F294
  refine x_method (s := { s with heap := h₁, toks := tk₁ }) (y := none) Hd.X a₁.rel.g I₁ Hd.add Hd.f294 ((hdM_at L).2 _ (by decide)) (by rw [typeLookup_type, builtinLookup_eq_fast]; kernel_rfl) ?_
  obtain ⟨o, ho, hd⟩ := F.at_
  rw [hs₁]
  refine Calls.callWith_function (o := o) (fd := fd294 nm doc pm ann cd ct) (Calls.evalArgs_plain (spliced_cons (ev₁ A env (Y ++ Z) _ _ E hA he a₁.rel fun u s₂ hu k₂ => spliced_cons (ev₂ A env (Y ++ Z) s₂ _ E hA he (a₁.rel.ext k₂.ext) fun v s₃ hv₃ k₃ => spliced_nil ?_))))
  obtain ⟨t1, rfl⟩ := rep_str hu
  obtain ⟨t2, rfl⟩ := rep_str hv₃
  obtain ⟨h₃, tk₃, rfl, e₃⟩ := k₂.trans k₃
  have a₃ := a₁.ext e₃
  have e13 := e₁'.trans e₃
  refine ⟨⟨a₃.rel.g.old _ _ (tab_func hd) ho, hd⟩, ?_⟩
  let Zc := (Y ++ Z).filter fun b => b ≠ L
  have inZ : ∀ b, b ∈ Zc → b ∈ Y ++ Z := fun b m => (List.mem_filter.mp m).1
  have toL : ∀ b, b ∈ L :: Zc → b ∈ Y ++ Z := fun b m => by
    rcases List.mem_cons.mp m with rfl | m
    · exact List.mem_append_left _ mL
    · exact inZ b m
  have ofL : ∀ b, b ∈ Y ++ Z → b ∈ L :: Zc := fun b m => by
    by_cases q : b = L
    · subst q; exact List.mem_cons_self
    · exact List.mem_cons_of_mem _ (List.mem_filter.mpr ⟨m, by simpa using q⟩)
  have l₃ : h₃.PlainList L items := PlainList.off hl fun o => e13.keep _ o
  refine hd_add (n := n) (Z := Zc) (s := { s with heap := h₃, toks := tk₃ }) B Hd hA a₃.rel.g (fun b m => a₃.rel.live b (inZ b m)) (hI.ext e13) l₃ (Reps.mono (fun b o hn t e => ⟨e13.keep b o t e, fun m => hn (toL b m)⟩) _ _ hr) (fun m => nx (inZ _ m)) (fun m => ndx (inZ _ m)) (fun m => by simpa using (List.mem_filter.mp m).2) (a.hbfr mL) hlen h1 h2 fun h₄ tk₄ items' kb₄ hl₄ hr₄ => ?_
  have hrr : Reps h₄ (Y ++ Z) ((ps ++ [(c1, c2)]).map hdPair) items'.toList := Reps.mono (fun b o hn t e => ⟨e, fun m => hn (ofL b m)⟩) _ _ hr₄
  have xL : x ∉ [L] ∧ dx ∉ [L] := ⟨fun m => nx (by simp at m; rw [m]; exact List.mem_append_left _ mL), fun m => ndx (by simp at m; rw [m]; exact List.mem_append_left _ mL)⟩
  exact k h₄ tk₄ (a₃.turnL mL l₃.isList kb₄ hl₄.isList hv) ⟨(hI.ext e13).kb kb₄ xL.1 xL.2, nx, ndx, mL, items', hl₄, hrr⟩ ((Kb.ext e13).trans (kb₄.more fun b m => by simp at m; subst m; exact mL))
end
end
section
open PySem PySem.W PyProof.Rows PySem.Calls
set_option linter.unusedVariables false
set_option maxRecDepth 100000
section
variable {prog : Program} {w : World} {hb : Heap} {n : Nat} {sc : Scope} {ρ : Vars} {mg mb mN : Str → Option Value}
theorem ct_near (B : Base hb mg mb) (Hd : HdD hb mg mb mN) {nm : Str} {doc pm : Value} {ann : Option Addr} {cd ct : Value} (F : FnAt' hb 313 (fdSt (stN 22) (Str.ofString "_law_near") nm doc pm ann cd ct)) (ts : List (Nat × Nat)) (hts : ∀ p ∈ ts, p.1 < 4 ∧ p.2 < 4) (hlen : ts.length ≤ 100) :
    Ct prog w hb 313 (n + 4) [.lst (ts.map dTie)] (dNear (nearOf ts)) := by
  refine ct_raw B F [Str.ofString "ties"] rfl (fun vals hv => ?_) rfl (by decide +kernel) (fun x hx => ?_) (fun A env h₀ Y Z s Q E hA he hcode hqual act kq => ?_)
  · match vals, hv with | [a], _ => rfl
  · simp only [List.mem_cons, List.not_mem_nil, or_false] at hx
    subst hx; left; rfl
  · have a₀ : Act hb env h₀ h₀ Y Z s.heap [V "ties" (.lst (ts.map dTie))] := act
    refine wpAny_execs_cons (wpAny_Assign_Name (Call_Name0 (gl_glob B rfl Hd.g (by decide) _ A env (Y ++ Z) s _ E hA he a₀.rel (callWith_clsG (C := hdC) (N := 296) (mN := mN) (PySem.evalArgs_none ⟨rfl, ClsAt.g Hd.X.at_ a₀.rel.g, ?_⟩) rfl))) (by unfold swapsWith; rfl))
    refine make_ins Hd.X Hd.ini Hd.f191 a₀.rel.g fun h' x dx full nx ndx hI => ?_
    have ex : Ext hb s.heap h' := Ext.full full
    refine hd_init (n := n + 1) (s := { s with heap := h' }) (h₀ := s.heap) (Z := Y ++ Z) B Hd (Rm.under (n := n + 2) hA) (ex.g a₀.rel.g) a₀.rel.g ex nx ndx hI (fun b m => let ⟨o, ho, t⟩ := a₀.rel.live b m; ⟨o, full _ _ ho, t⟩) fun h₁ tk₁ L e₁ hL0 nLx nLdx I₁ pl₁ => ⟨rfl, ?_⟩
    -- the name is bound
    have a₁ := a₀.grow e₁ hL0 (plain_nice pl₁)
    have nxY : x ∉ (L :: Y) ++ Z := fun m => by
      simp only [List.cons_append, List.mem_cons] at m
      rcases m with e | m
      · exact nLx e.symm
      · exact a₀.rel.fresh nx m
    have ndxY : dx ∉ (L :: Y) ++ Z := fun m => by
      simp only [List.cons_append, List.mem_cons] at m
      rcases m with e | m
      · exact nLdx e.symm
      · exact a₀.rel.fresh ndx m
    obtain ⟨q, hq, sa⟩ := a₁.st (Str.ofString "net") (.inr (by show env.scope.names.lookup _ = _; rw [he]; rfl))
    refine store_var (s := { s with heap := h₁, toks := tk₁ }) a₁.rel.kind sa (a₁.hap sa) fun h₂ tk₂ hs₂ sa₂ va₂ vo₂ => ?_
    have a₂ : Act hb env h₀ h₀ (L :: Y) Z h₂ [V "net" (.obj x), V "ties" (.lst (ts.map dTie))] := a₁.bind hq sa hs₂ sa₂ va₂ (by rw [Rep]) vo₂ (ne_of_all (by kernel_rfl) (by simp))
    have kb₂ : Kb hb [q] h₁ h₂ := Kb.same hs₂ sa.nice (a₁.hbfr hq)
    have I₂ : InsAt h₂ x dx hdC (hdM L) := I₁.kb kb₂ (fun m => nxY (by simp at m; rw [m]; exact List.mem_append_left _ hq)) (fun m => ndxY (by simp at m; rw [m]; exact List.mem_append_left _ hq))
    have pl₂ : h₂.PlainList L #[] := PlainList.off pl₁ fun o t e => kb₂.keep L o (by simp; exact list_ne_store sa _ _ pl₁.isList) t e
    obtain ⟨⟨ox, eox, tox⟩, odx, eodx, todx⟩ := I₂.live
    obtain ⟨oL, eoL, _⟩ := pl₂.isList
    -- the loop
    refine for_core hA he (ds := ts.map dTie) a₂ (fun _ => [V "net" (.obj x)]) (fun i Y' Z' h => HdJ hb x dx L (hds (ts.take i)) Y' Z' h) (fun Q' E' kk => ?_) (by simp) (fun h₃ wr e₃ hwr => ?_) (fun j Y' Z' h h' W jj kb hW _ hWZ => ?_) (fun j d v Y' wr h₃ tk₃ Q' E' hd hwr a₃ jj hv k' => ?_) (fun Y' wr h₃ tk₃ a₃ jj hwr _ _ => ?_)
    · exact it_listL (ev_name (.tail _ (.head _))) hA he a₂.rel kk
    · refine ⟨I₂.ext e₃, fun m => ?_, fun m => ?_, List.mem_cons_self, #[], PlainList.off pl₂ fun o => e₃.keep _ o, Reps.nil⟩
      · rcases List.mem_append.mp m with m | m
        · exact nxY (List.mem_append_left _ m)
        · rcases List.mem_append.mp m with m | m
          · rw [hwr _ m] at eox; cases eox
          · exact nxY (List.mem_append_right _ m)
      · rcases List.mem_append.mp m with m | m
        · exact ndxY (List.mem_append_left _ m)
        · rcases List.mem_append.mp m with m | m
          · rw [hwr _ m] at eodx; cases eodx
          · exact ndxY (List.mem_append_right _ m)
    · obtain ⟨hi, n1, n2, mL, items, hl, hr⟩ := jj
      refine ⟨hi.kb kb (fun m => by rw [(hW _ m).1] at eox; cases eox) (fun m => by rw [(hW _ m).1] at eodx; cases eodx), n1, n2, mL, items, PlainList.off hl fun o t e => kb.keep _ o (fun m => by rw [(hW _ m).1] at eoL; cases eoL) t e, hr.kb kb fun b m => List.mem_append_right _ (hWZ b m)⟩
    · rw [List.getElem?_map, Option.map_eq_some_iff] at hd
      obtain ⟨p, hp, rfl⟩ := hd
      obtain ⟨p1, p2⟩ := hts p (List.mem_of_getElem? hp)
      have hj : j < ts.length := (List.getElem?_eq_some_iff.mp hp).1
      have hll : (hds (ts.take j)).length ≤ 300 := by rw [hds_length]; simp; omega
      refine x_assign2 (s := { s with heap := h₃, toks := tk₃ }) hA he (d₁ := .int (p.1 : Nat)) (d₂ := .int (p.2 : Nat)) [V "net" (.obj x)] [V "one" (.int (p.1 : Nat)), V "net" (.obj x)] a₃ hv (.inl rfl) (.inl rfl) (ne_of_all (by kernel_rfl) (by simp)) (ne_of_all (by kernel_rfl) (by simp)) fun h₄ tk₄ a₄ kb₄ pk => ?_
      obtain ⟨hi, n1, n2, mL, items, hl, hr⟩ := jj
      have J₄ : HdJ hb x dx L (hds (ts.take j)) Y' (wr ++ Z) h₄ := ⟨hi.kb kb₄ (fun m => n1 (List.mem_append_left _ m)) (fun m => n2 (List.mem_append_left _ m)), n1, n2, mL, items, pk _ _ hl, hr.kb kb₄ fun b m => List.mem_append_left _ m⟩
      refine wpAny_execs_cons (wpAny_Expr (add_stmt (n := n) (s := { s with heap := h₄, toks := tk₄ }) B Hd hA he a₄ J₄ (.tail _ (.tail _ (.head _))) (fun p hp => by simp at hp; rcases hp with rfl | rfl | rfl <;> exact ⟨_, rfl⟩) (ev_sign ev_str (ev_name (.tail _ (.head _))) (sign_low _ p1) (by omega)) (ev_sign ev_str (ev_name (.head _)) (sign_up _ p2) (by omega)) (lowA _ p1) (upA _ p2) (by omega) (fun h₅ tk₅ a₅ J₅ kb₅ => ?_) rfl ⟨_, rfl⟩) (by simp only [interactive, he]; rfl))
      refine wpAny_execs_cons (wpAny_Expr (add_stmt (n := n) (s := { s with heap := h₅, toks := tk₅ }) B Hd hA he a₅ J₅ (.tail _ (.tail _ (.head _))) (fun p hp => by simp at hp; rcases hp with rfl | rfl | rfl <;> exact ⟨_, rfl⟩) (ev_sign ev_str (ev_name (.head _)) (sign_up _ p2) (by omega)) (ev_sign ev_str (ev_name (.tail _ (.head _))) (sign_low _ p1) (by omega)) (upA _ p2) (lowA _ p1) (by simp; omega) (fun h₆ tk₆ a₆ J₆ kb₆ => ?_) rfl ⟨_, rfl⟩) (by simp only [interactive, he]; rfl))
      refine wpAny_execs_nil (k' Y' h₆ tk₆ (a₆.sub (by simp)) ?_ (fun b m => .inl m) (fun b m => m))
      have : hds (ts.take (j + 1)) = hds (ts.take j) ++ [(97 + p.1, 65 + p.2)] ++ [(65 + p.2, 97 + p.1)] := by rw [List.take_add_one, hp]; exact hds_snoc _ _
      rw [this]; exact J₆
    · -- what comes back
      rw [List.length_map, List.take_length] at jj
      obtain ⟨hi, n1, n2, mL, items, hl, hr⟩ := jj
      have hv : ∀ p ∈ [V "net" (.obj x)], ∃ d, p.2 = .val d := fun p hp => by simp at hp; subst hp; exact ⟨_, rfl⟩
      have a₄ := a₃.dropY mL hl.isList hv
      have sub : ∀ b, b ∈ (Y'.filter fun b => b ≠ L) ++ Z → b ∈ Y' ++ (wr ++ Z) := fun b m => by
        rcases List.mem_append.mp m with m | m
        · exact List.mem_append_left _ (List.mem_filter.mp m).1
        · exact List.mem_append_right _ (List.mem_append_right _ m)
      have a₅ := a₄.also (d := .hd ((hds ts).map hdPair)) (.head _) (by
        rw [Rep]
        refine ⟨x, dx, L, items, rfl, fun m => n1 (sub _ m), fun m => n2 (sub _ m), fun m => ?_, ⟨hdM L, hi, hdM_at L⟩, hl.isList, Reps.mono (fun b o hn t e => ⟨e, fun m => hn (sub b m)⟩) _ _ hr⟩
        rcases List.mem_append.mp m with m | m
        · simpa using (List.mem_filter.mp m).2
        · exact a₃.yz L mL m)
      obtain ⟨nm2, doc2, pm2, ann2, cd2, ct2, F2⟩ := Hd.F236
      refine St.run (ρ := [V "net" (.hd ((hds ts).map hdPair)), V "net" (.obj x)]) (st_ret (EvF.ev (evF_eq ?_ (evF_compM [65, 98, 67, 100] (fun c => .str ⟨#[c]⟩) strD_inj (fun _ => true) (fun c => .lst (((((hds ts).filter fun p => lo p.1 == lo c).map fun p => p.2).map fun c2 => .int ((lo c2 - 97 : Nat) : Int)))) [V "net" (.hd ((hds ts).map hdPair))] (it_str ev_str (by decide +kernel)) (fun _ _ => tst_nil) (fun c hc _ => ?_) (by decide))))) hA he a₅ fun v h₆ tk₆ r e₆ => kq v h₆ tk₆ r e₆
      · rw [filter_true]; unfold nearOf dInts; simp [List.map_map, Function.comp]
      · have hcl : c ∈ letters := by
          simp only [List.mem_cons, List.not_mem_nil, or_false] at hc
          rcases hc with rfl | rfl | rfl | rfl <;> decide
        have hps := hds_letters ts hts
        refine EvF.ev (evF_eq ?_ (evF_compM (((hds ts).filter fun p => lo p.1 == lo c).map fun p => p.2) (fun c => .str ⟨#[c]⟩) strD_inj (fun _ => true) (fun c2 => .int ((lo c2 - 97 : Nat) : Int)) [] (it_list (ev_eq ?_ (ev_meth (ev_name (.tail _ (.head _))) (meth_hd (y := none) Hd.X (by decide) Hd.get Hd.f236 (by rw [typeLookup_type, builtinLookup_eq_fast]; kernel_rfl) _) F2 (evs_cons (ev_name (.head _)) evs_nil) (ct_getall (n := n) B Hd (hds ts) hps (by rw [hds_length]; omega) c hcl) (by omega)))) (fun _ _ => tst_nil) (fun c2 hc2 _ => ?_) ?_))
        · rw [filter_true]
        · rw [List.map_map]; rfl
        · obtain ⟨p, hp, rfl⟩ := List.mem_map.mp hc2
          have hp2 := (hps p (List.mem_filter.mp hp).1).2
          obtain ⟨r, hr'⟩ := occ_letters p.2 hp2
          obtain ⟨m1, m2⟩ := lower_letters p.2 hp2
          exact ev_index ev_str (ev_lower (ev_name (.head _)) m1 m2) hr'
        · rw [List.length_map]
          have := List.length_filter_le (fun p => lo p.1 == lo c) (hds ts)
          rw [hds_length] at this
          unfold sizeLine; omega
end
end
section
open PySem PySem.W PyProof.Rows PySem.Calls
set_option linter.unusedVariables false
set_option maxRecDepth 100000
/-- what the head saw -/
noncomputable def Says (w : World) (h : Heap) : Prop := Frag.In (watched w.params) h ∧ ∃ m, h.Ns mainGlobals m ∧ ∀ p ∈ named, m p.1 = p.2
theorem Says.keeps {w : World} {h h' : Heap} (x : Says w h) (k : ∀ b o, h.get? b = some o → h'.get? b = some o) : Says w h' := ⟨Frag.In.keeps x.1 k, let ⟨m, a, b⟩ := x.2; ⟨m, a.keeps k, b⟩⟩
section
variable {w : World} {hb : Heap} {mg mb : Str → Option Value}
theorem saw {a : Addr} {o : Obj} (x : Says w hb) (e : (watched w.params).lookup a = some o) : hb.get? a = some o := x.1 a o e
theorem saw_name (x : Says w hb) (hg : hb.Ns mainGlobals mg) {n : Str} {v : Option Value} (e : (n, v) ∈ named) : mg n = v := by
  obtain ⟨m, a, b⟩ := x.2
  have := b _ e
  exact (Heap.Ns.agree hg a n).trans this
theorem fn_of (x : Says w hb) {a : Addr} {fd : FuncData} {vs : Array Value} {t : Tok} (h1 : (watched w.params).lookup a = some (fnO fd)) (h2 : (watched w.params).lookup (a - 1) = some ⟨.type "code", none, .fields vs, #[]⟩) (h3 : fd.code = .ref (a - 1)) (h4 : vs[1]? = some (.str fd.qualname t)) (h5 : fd.globals = mainGlobals) (h6 : fd.builtins = builtinsNs) (h7 : fd.closure = []) : FnAt' hb a fd :=
  ⟨⟨_, saw x h1, rfl⟩, ⟨a - 1, _, vs, t, h3, saw x h2, rfl, rfl, h4⟩, h5, h6, h7⟩
theorem F45 (x : Says w hb) : ∃ nm doc pm ann cd ct, FnAt' hb 45 (fdSt (stN 4) (Str.ofString "_div2n1n") nm doc pm ann cd ct) := ⟨_, _, _, _, _, _, fn_of x rfl rfl rfl rfl rfl rfl rfl⟩
theorem F59 (x : Says w hb) : ∃ nm doc pm ann ct, FnAt' hb 59 (fdSt (stN 6) (Str.ofString "_int2digits") nm doc pm ann (.ref 58) ct) := ⟨_, _, _, _, _, fn_of x rfl rfl rfl rfl rfl rfl rfl⟩
theorem F66 (x : Says w hb) : ∃ nm doc pm ann ct, FnAt' hb 66 (fdSt (stN 7) (Str.ofString "_digits2int") nm doc pm ann (.ref 65) ct) := ⟨_, _, _, _, _, fn_of x rfl rfl rfl rfl rfl rfl rfl⟩
theorem F73 (x : Says w hb) : ∃ nm doc pm ann cd ct, FnAt' hb 73 (fdSt (stN 8) (Str.ofString "_divmod_pos") nm doc pm ann cd ct) := ⟨_, _, _, _, _, _, fn_of x rfl rfl rfl rfl rfl rfl rfl⟩
theorem F80 (x : Says w hb) : ∃ nm doc pm ann cd ct, FnAt' hb 80 (fdSt (stN 9) (Str.ofString "int_divmod") nm doc pm ann cd ct) := ⟨_, _, _, _, _, _, fn_of x rfl rfl rfl rfl rfl rfl rfl⟩
theorem F87 (x : Says w hb) : ∃ nm doc pm ann cd ct, FnAt' hb 87 (fdSt (stN 11) (Str.ofString "_post_parse_validation") nm doc pm ann cd ct) := ⟨_, _, _, _, _, _, fn_of x rfl rfl rfl rfl rfl rfl rfl⟩
theorem F308 (x : Says w hb) : ∃ nm doc pm ann cd ct, FnAt' hb 308 (fdSt (stN 21) (Str.ofString "_law_ties") nm doc pm ann cd ct) := ⟨_, _, _, _, _, _, fn_of x rfl rfl rfl rfl rfl rfl rfl⟩
theorem F313 (x : Says w hb) : ∃ nm doc pm ann cd ct, FnAt' hb 313 (fdSt (stN 22) (Str.ofString "_law_near") nm doc pm ann cd ct) := ⟨_, _, _, _, _, _, fn_of x rfl rfl rfl rfl rfl rfl rfl⟩
theorem F318 (x : Says w hb) : ∃ nm doc pm ann cd ct, FnAt' hb 318 (fdSt (stN 23) (Str.ofString "_law_again") nm doc pm ann cd ct) := ⟨_, _, _, _, _, _, fn_of x rfl rfl rfl rfl rfl rfl rfl⟩
theorem F323 (x : Says w hb) : ∃ nm doc pm ann cd ct, FnAt' hb 323 (fdSt (stN 24) (Str.ofString "_law_lead") nm doc pm ann cd ct) := ⟨_, _, _, _, _, _, fn_of x rfl rfl rfl rfl rfl rfl rfl⟩
theorem F328 (x : Says w hb) : ∃ nm doc pm ann cd ct, FnAt' hb 328 (fdSt (stN 25) (Str.ofString "_law_sand") nm doc pm ann cd ct) := ⟨_, _, _, _, _, _, fn_of x rfl rfl rfl rfl rfl rfl rfl⟩
theorem F333 (x : Says w hb) : ∃ nm doc pm ann cd ct, FnAt' hb 333 (fdSt (stN 26) (Str.ofString "_law_cuts") nm doc pm ann cd ct) := ⟨_, _, _, _, _, _, fn_of x rfl rfl rfl rfl rfl rfl rfl⟩
theorem F338 (x : Says w hb) : ∃ nm doc pm ann cd ct, FnAt' hb 338 (fdSt (stN 27) (Str.ofString "_law_outer") nm doc pm ann cd ct) := ⟨_, _, _, _, _, _, fn_of x rfl rfl rfl rfl rfl rfl rfl⟩
theorem F345 (x : Says w hb) : ∃ nm doc pm ann cd ct, FnAt' hb 345 (fdSt (stN 28) (Str.ofString "_law_ones") nm doc pm ann cd ct) := ⟨_, _, _, _, _, _, fn_of x rfl rfl rfl rfl rfl rfl rfl⟩
theorem F352 (x : Says w hb) : ∃ nm doc pm ann cd ct, FnAt' hb 352 (fdSt (stN 29) (Str.ofString "_law_rests") nm doc pm ann cd ct) := ⟨_, _, _, _, _, _, fn_of x rfl rfl rfl rfl rfl rfl rfl⟩
theorem F357 (x : Says w hb) : ∃ nm doc pm ann cd ct, FnAt' hb 357 (fdSt (stN 30) (Str.ofString "law") nm doc pm ann cd ct) := ⟨_, _, _, _, _, _, fn_of x rfl rfl rfl rfl rfl rfl rfl⟩
theorem F104 (x : Says w hb) : ∃ nm doc pm ann cd ct, FnAt' hb 104 (fdSt (mth 13 1) (Str.ofString "Whitespace.__init__") nm doc pm ann cd ct) := ⟨_, _, _, _, _, _, fn_of x rfl rfl rfl rfl rfl rfl rfl⟩
theorem F125 (x : Says w hb) : ∃ nm doc pm ann cd ct, FnAt' hb 125 (fdSt (mth 13 4) (Str.ofString "Whitespace.equal") nm doc pm ann cd ct) := ⟨_, _, _, _, _, _, fn_of x rfl rfl rfl rfl rfl rfl rfl⟩
theorem F198 (x : Says w hb) : ∃ nm doc pm ann cd ct, FnAt' hb 198 (fdSt (mth 19 1) (Str.ofString "Headers._convert_string_type") nm doc pm ann cd ct) := ⟨_, _, _, _, _, _, fn_of x rfl rfl rfl rfl rfl rfl rfl⟩
theorem F236 (x : Says w hb) : ∃ nm doc pm ann cd ct, FnAt' hb 236 (fdSt (mth 19 7) (Str.ofString "Headers.get_all") nm doc pm ann cd ct) := ⟨_, _, _, _, _, _, fn_of x rfl rfl rfl rfl rfl rfl rfl⟩
theorem F191 (x : Says w hb) : ∃ nm doc pm ann cd ct, FnAt' hb 191 (fd191 nm doc pm ann cd ct) := ⟨_, _, _, _, _, _, fn_of x rfl rfl rfl rfl rfl rfl rfl⟩
theorem F294 (x : Says w hb) : ∃ nm doc pm ann cd ct, FnAt' hb 294 (fd294 nm doc pm ann cd ct) := ⟨_, _, _, _, _, _, fn_of x rfl rfl rfl rfl rfl rfl rfl⟩
noncomputable def esOf (o : Obj) : Array DictEntry := match o.data with
  | .dict es _ => es
  | _ => #[]
theorem strKeys_of {es : Array DictEntry} (h : (es.all fun e => match e.key with | .str _ _ => true | _ => false) = true) : StrKeys es := fun e he => by
  have := Array.all_eq_true_iff_forall_mem.mp h e he
  split at this
  · rename_i n t q; exact ⟨n, t, q⟩
  · cases this
theorem ns_of (x : Says w hb) {a : Addr} {o : Obj} (h1 : (watched w.params).lookup a = some o) (h2 : ∃ ep, o.data = .dict (esOf o) ep) (h3 : ((esOf o).all fun e => match e.key with | .str _ _ => true | _ => false) = true) : hb.Ns a (fun n => nsFind (esOf o) n) := by
  obtain ⟨ep, h2⟩ := h2
  exact ⟨o, esOf o, ep, saw x h1, h2, strKeys_of h3, fun _ => rfl⟩
noncomputable def mW (w : World) : Str → Option Value := fun n => nsFind (esOf (ob148 w.params)) n
noncomputable def mH (w : World) : Str → Option Value := fun n => nsFind (esOf (ob296 w.params)) n
theorem klW (x : Says w hb) : Kl hb wsC 148 (mW w) := ⟨⟨⟨_, _, _, _, _, _, _, _, _, _, _, _, saw x (o := ob149) rfl⟩, ns_of x rfl ⟨_, rfl⟩ (by kernel_rfl)⟩, by rfl, by rfl, by rfl⟩
theorem klH (x : Says w hb) : Kl hb hdC 296 (mH w) := ⟨⟨⟨_, _, _, _, _, _, _, _, _, _, _, _, saw x (o := ob297) rfl⟩, ns_of x rfl ⟨_, rfl⟩ (by kernel_rfl)⟩, by rfl, by rfl, by rfl⟩
theorem clsW (x : Says w hb) {name : Str} {v : Value} (h : findCls [(2, ob2 w.params), (149, ob149), (148, ob148 w.params)] (.ref wsC) (.type "type") name = some (.val v)) (hh : handedIn v = true) : ClsRd hb wsC name v := by
  refine ⟨[(2, ob2 w.params), (149, ob149), (148, ob148 w.params)], fun a o e => ?_, by rfl, by kernel_rfl, h, hh⟩
  rw [List.lookup_cons] at e
  split at e
  · rename_i q; cases e; rw [eq_of_beq q]; exact saw x rfl
  · rw [List.lookup_cons] at e
    split at e
    · rename_i q; cases e; rw [eq_of_beq q]; exact saw x rfl
    · rw [List.lookup_cons] at e
      split at e
      · rename_i q; cases e; rw [eq_of_beq q]; exact saw x rfl
      · cases e
theorem code58 (x : Says w hb) : CodeHd hb 58 54 := ⟨_, _, _, _, _, _, _, _, _, saw x (o := ob58) rfl, rfl, rfl, rfl, rfl, rfl, rfl, rfl, rfl, by decide⟩
theorem code65 (x : Says w hb) : CodeHd hb 65 61 := ⟨_, _, _, _, _, _, _, _, _, saw x (o := ob65) rfl, rfl, rfl, rfl, rfl, rfl, rfl, rfl, rfl, by decide⟩
theorem g_self (x : Says w hb) : G hb hb := ⟨fun _ _ _ e => e, fun _ o e => ⟨o, e⟩, ⟨.inl (saw x (o := ob54) rfl), .inl (saw x (o := ob61) rfl)⟩, fun _ _ _ _ e => e⟩
theorem cv_of (x : Says w hb) (hg : hb.Ns mainGlobals mg) (hm : ∀ y : Str, y ≠ "__name__" → mb y = bootBuiltins y) : Cv hb mg mb where
  p1 := ⟨_, code162, ⟨_, _, saw x (o := ob163) rfl⟩, saw x (o := ob162) rfl, by decide +kernel, fails162⟩
  p2 := ⟨_, code167, ⟨_, _, saw x (o := ob168) rfl⟩, saw x (o := ob167) rfl, by decide +kernel, fails167⟩
  g1 := saw_name x hg (List.mem_iff_getElem?.mpr ⟨9, rfl⟩)
  g2 := saw_name x hg (List.mem_iff_getElem?.mpr ⟨10, rfl⟩)
  ty := ⟨saw_name x hg (List.mem_iff_getElem?.mpr ⟨26, rfl⟩), (hm _ (by decide)).trans (by decide +kernel)⟩
  st := ⟨saw_name x hg (List.mem_iff_getElem?.mpr ⟨27, rfl⟩), (hm _ (by decide)).trans (by decide +kernel)⟩
  ls := ⟨saw_name x hg (List.mem_iff_getElem?.mpr ⟨28, rfl⟩), (hm _ (by decide)).trans (by decide +kernel)⟩
theorem blt_of (x : Says w hb) (hg : hb.Ns mainGlobals mg) (hm : ∀ y : Str, y ≠ "__name__" → mb y = bootBuiltins y) : Blt mg mb where
  len := ⟨saw_name x hg (List.mem_iff_getElem?.mpr ⟨21, rfl⟩), (hm _ (by decide)).trans (by decide +kernel)⟩
  ran := ⟨saw_name x hg (List.mem_iff_getElem?.mpr ⟨22, rfl⟩), (hm _ (by decide)).trans (by decide +kernel)⟩
  sum := ⟨saw_name x hg (List.mem_iff_getElem?.mpr ⟨23, rfl⟩), (hm _ (by decide)).trans (by decide +kernel)⟩
theorem blt2_of (x : Says w hb) (hg : hb.Ns mainGlobals mg) (hm : ∀ y : Str, y ≠ "__name__" → mb y = bootBuiltins y) : Blt2 mg mb where
  dm := ⟨saw_name x hg (List.mem_iff_getElem?.mpr ⟨24, rfl⟩), (hm _ (by decide)).trans (by decide +kernel)⟩
  rev := ⟨saw_name x hg (List.mem_iff_getElem?.mpr ⟨25, rfl⟩), (hm _ (by decide)).trans (by decide +kernel)⟩
  lim := ⟨_, saw_name x hg (List.mem_iff_getElem?.mpr ⟨0, rfl⟩)⟩
theorem wsd_of (x : Says w hb) (hg : hb.Ns mainGlobals mg) (hm : ∀ y : Str, y ≠ "__name__" → mb y = bootBuiltins y) : WsD hb mg mb (mW w) where
  X := klW x
  ini := by rfl
  eql := by rfl
  raw := by rfl
  n := by rfl
  nt := by rfl
  norm := by rfl
  sim := by rfl
  f104 := ⟨_, saw x (o := ob104) rfl, rfl⟩
  f125 := ⟨_, saw x (o := ob125) rfl, rfl⟩
  S := ⟨397, clsW x (by kernel_rfl) rfl⟩
  T := ⟨398, clsW x (by kernel_rfl) rfl⟩
  g := saw_name x hg (List.mem_iff_getElem?.mpr ⟨7, rfl⟩)
  tu := ⟨saw_name x hg (List.mem_iff_getElem?.mpr ⟨29, rfl⟩), (hm _ (by decide)).trans (by decide +kernel)⟩
theorem hdd_of (x : Says w hb) (hg : hb.Ns mainGlobals mg) (hm : ∀ y : Str, y ≠ "__name__" → mb y = bootBuiltins y) : HdD hb mg mb (mH w) where
  X := klH x
  ini := by rfl
  cnv := by rfl
  add := by rfl
  get := by rfl
  hdr := by rfl
  f191 := ⟨_, saw x (o := ob191) rfl, rfl⟩
  f198 := ⟨_, saw x (o := ob198) rfl, rfl⟩
  f294 := ⟨_, saw x (o := ob294) rfl, rfl⟩
  f236 := ⟨_, saw x (o := ob236) rfl, rfl⟩
  dfl := saw x (o := ob184) rfl
  g := saw_name x hg (List.mem_iff_getElem?.mpr ⟨8, rfl⟩)
  V := cv_of x hg hm
  F191 := F191 x
  F198 := F198 x
  F294 := F294 x
  F236 := F236 x
theorem bm_of (x : Says w hb) (hg : hb.Ns mainGlobals mg) (hbm : ∃ bm ob, mg "__builtins__" = some (.ref bm) ∧ bm ≠ builtinsNs ∧ hb.get? bm = some ob ∧ ob.cls = .type "module" ∧ ob.dict = some builtinsNs ∧ ob.data = .plain) {P : Addr} (hP : hb.get? P = some ⟨.none, none, .fields #[], #[]⟩) : hb.BuiltinsAt mg P := by
  obtain ⟨bm, ob, b1, b2, b3, b4, b5, b6⟩ := hbm
  refine ⟨bm, ob, b1, b2, fun e => ?_, fun e => ?_, b3, b4, b5, b6⟩
  · obtain ⟨o, es, ep, e1, e2, _⟩ := hg
    rw [e, e1] at b3; cases b3; rw [e2] at b6; cases b6
  · rw [e, hP] at b3; cases b3; cases b4
end
end
section
open PySem PySem.W PyProof.Rows PySem.Calls
set_option linter.unusedVariables false
set_option maxRecDepth 100000
/-! the lead side as a function of the columns alone -/
noncomputable def par (u v : Nat) : Nat := [0, 1, 1, 0, 1, 0, 0, 1].getD (u &&& v) 0
/-- the cut of a functional -/
noncomputable def cutU : List Nat → Nat → Nat
  | [], _ => 0
  | v :: r, u => par u v + 2 * cutU r u
noncomputable def us : List Nat := [1, 2, 3, 4, 5, 6, 7]
noncomputable def lackC (cs : List Nat) (S : Nat) : Nat := (cs.filter fun c => decide (S &&& c = 0)).length
noncomputable def threes (m : Nat) : List Nat := (List.range (2 ^ m)).filter fun S => decide (ones S = 3)
noncomputable def treesC (T3 : List Nat) (cs : List Nat) : List Nat := T3.filter fun S => decide (lackC cs S = 0)
noncomputable def levC (m : Nat) (trees : List Nat) : List Nat := trees.map fun T => outTo T trees m
noncomputable def conC (sets : List (Nat × Nat)) (cs : List Nat) : List Nat := (sets.filter fun S => decide (lackC cs S.1 = 0)).map (·.2)
noncomputable def pcs (m : Nat) : List (Nat × Nat) := ((List.range (2 ^ m)).filter fun S => decide (2 < ones S)).map fun S => (S, ones S)
/-- levels and connected sets agree -/
noncomputable def agree (m : Nat) (Ls Js : List Nat) : Bool :=
  Ls.all (fun l => decide (l ≤ m - 3)) && Js.all (fun j => decide (3 ≤ j ∧ j ≤ m)) && decide (Js.count 3 ≤ 60 ∧ Js.count 4 ≤ 60 ∧ Js.count 5 ≤ 60 ∧ Js.count 6 ≤ 60) &&
  decide (Js.count 3 = Ls.count 0 + Ls.count 1 + Ls.count 2 + Ls.count 3 ∧ Js.count 4 = Ls.count 1 + 2 * Ls.count 2 + 3 * Ls.count 3 ∧ Js.count 5 = Ls.count 2 + 3 * Ls.count 3 ∧ Js.count 6 = Ls.count 3)
noncomputable def checkC (m : Nat) (T3 : List Nat) (sets : List (Nat × Nat)) (cols : List Nat) : Bool := let cs := us.map (cutU cols); agree m (levC m (treesC T3 cs)) (conC sets cs)
noncomputable def chk3 (P : List Nat → Bool) : Nat → List Nat → Bool
  | 0, pre => P pre
  | n + 1, pre => us.all fun v => chk3 P n (pre ++ [v])
noncomputable def chk2 (P : List Nat → Bool) : Nat → List Nat → Bool
  | 0, _ => true
  | n + 1, pre => [1, 2, 3].all (fun v => chk2 P n (pre ++ [v])) && chk3 P n (pre ++ [4])
noncomputable def chk1 (P : List Nat → Bool) : Nat → List Nat → Bool
  | 0, _ => true
  | n + 1, pre => chk1 P n (pre ++ [1]) && chk2 P n (pre ++ [2])
noncomputable def t5 : List Nat := [7, 11, 13, 14, 19, 21, 22, 25, 26, 28]
noncomputable def t6 : List Nat := [7, 11, 13, 14, 19, 21, 22, 25, 26, 28, 35, 37, 38, 41, 42, 44, 49, 50, 52, 56]
noncomputable def p5 : List (Nat × Nat) := [(7, 3), (11, 3), (13, 3), (14, 3), (15, 4), (19, 3), (21, 3), (22, 3), (23, 4), (25, 3), (26, 3), (27, 4), (28, 3), (29, 4), (30, 4), (31, 5)]
noncomputable def p6 : List (Nat × Nat) := [(7, 3), (11, 3), (13, 3), (14, 3), (15, 4), (19, 3), (21, 3), (22, 3), (23, 4), (25, 3), (26, 3), (27, 4), (28, 3),
  (29, 4), (30, 4), (31, 5), (35, 3), (37, 3), (38, 3), (39, 4), (41, 3), (42, 3), (43, 4), (44, 3), (45, 4), (46, 4),
  (47, 5), (49, 3), (50, 3), (51, 4), (52, 3), (53, 4), (54, 4), (55, 5), (56, 3), (57, 4), (58, 4), (59, 5), (60, 4),
  (61, 5), (62, 5), (63, 6)]
theorem p5_is : pcs 5 = p5 := by decide +kernel
theorem p6_is : pcs 6 = p6 := by decide +kernel
theorem t5_is : threes 5 = t5 := by decide +kernel
theorem t6_is : threes 6 = t6 := by decide +kernel
/-! the same, quick in the kernel -/
noncomputable def memF (a : Nat) : List Nat → Bool
  | [] => false
  | b :: r => cond (Nat.beq a b) true (memF a r)
noncomputable def hitF (S : Nat) : List Nat → Bool
  | [] => true
  | c :: r => cond (Nat.beq (Nat.land S c) 0) false (hitF S r)
noncomputable def bitF (T i : Nat) : Bool := Nat.beq (Nat.land (Nat.shiftRight T i) 1) 1
noncomputable def ringF (T : Nat) (trees : List Nat) (e : Nat) : Nat → Bool
  | 0 => false
  | f + 1 => cond (cond (bitF T f) (memF (Nat.xor (Nat.xor T (Nat.pow 2 f)) (Nat.pow 2 e)) trees) false) true (ringF T trees e f)
noncomputable def outF (T : Nat) (trees : List Nat) : Nat → Nat
  | 0 => 0
  | e + 1 => cond (bitF T e) (outF T trees e) (cond (ringF T trees e e) (outF T trees e) (Nat.succ (outF T trees e)))
noncomputable def cntF (a : Nat) : List Nat → Nat
  | [] => 0
  | b :: r => cond (Nat.beq b a) (Nat.succ (cntF a r)) (cntF a r)
noncomputable def leF (k : Nat) : List Nat → Bool
  | [] => true
  | b :: r => cond (Nat.ble b k) (leF k r) false
noncomputable def geF (k : Nat) : List Nat → Bool
  | [] => true
  | b :: r => cond (Nat.ble k b) (geF k r) false
noncomputable def filF (cs : List Nat) : List Nat → List Nat
  | [] => []
  | S :: r => cond (hitF S cs) (S :: filF cs r) (filF cs r)
noncomputable def conF (cs : List Nat) : List (Nat × Nat) → List Nat
  | [] => []
  | S :: r => cond (hitF S.1 cs) (S.2 :: conF cs r) (conF cs r)
noncomputable def levF (m : Nat) (trees : List Nat) : List Nat → List Nat
  | [] => []
  | T :: r => outF T trees m :: levF m trees r
noncomputable def agreeF (m : Nat) (Ls Js : List Nat) : Bool :=
  cond (leF (m - 3) Ls) (cond (leF m Js) (cond (geF 3 Js)
    ((fun l0 l1 l2 l3 j3 j4 j5 j6 => cond (Nat.ble j3 60) (cond (Nat.ble j4 60) (cond (Nat.ble j5 60) (cond (Nat.ble j6 60)
      (cond (Nat.beq j3 (l0 + l1 + l2 + l3)) (cond (Nat.beq j4 (l1 + 2 * l2 + 3 * l3)) (cond (Nat.beq j5 (l2 + 3 * l3)) (Nat.beq j6 l3) false) false) false) false) false) false) false)
      (cntF 0 Ls) (cntF 1 Ls) (cntF 2 Ls) (cntF 3 Ls) (cntF 3 Js) (cntF 4 Js) (cntF 5 Js) (cntF 6 Js)) false) false) false
noncomputable def fast2 (m : Nat) (trees Js : List Nat) : Bool := agreeF m (levF m trees trees) Js
noncomputable def fast1 (m : Nat) (T3 : List Nat) (sets : List (Nat × Nat)) (cs : List Nat) : Bool := fast2 m (filF cs T3) (conF cs sets)
noncomputable def parT : List Nat := [0, 1, 1, 0, 1, 0, 0, 1]
noncomputable def cutF : List Nat → Nat → Nat
  | [], _ => 0
  | v :: r, u => parT.getD (Nat.land u v) 0 + 2 * cutF r u
noncomputable def fastC (m : Nat) (T3 : List Nat) (sets : List (Nat × Nat)) (cols : List Nat) : Bool := fast1 m T3 sets (us.map (cutF cols))
theorem memF_eq (a : Nat) : ∀ l : List Nat, memF a l = l.contains a
  | [] => rfl
  | b :: r => by
    rw [memF, memF_eq a r, List.contains_cons]
    by_cases h : a = b
    · subst h; simp
    · have : Nat.beq a b = false := by rw [Bool.eq_false_iff]; exact fun e => h (Nat.eq_of_beq_eq_true e)
      rw [this]; simp [h]
theorem hitF_eq (S : Nat) : ∀ cs : List Nat, hitF S cs = decide (lackC cs S = 0)
  | [] => rfl
  | c :: r => by
    rw [hitF, hitF_eq S r]
    unfold lackC
    rw [List.filter_cons]
    by_cases h : S &&& c = 0
    · have : Nat.beq (Nat.land S c) 0 = true := by show Nat.beq (S &&& c) 0 = true; rw [h]; rfl
      rw [this]; simp [h]
    · have : Nat.beq (Nat.land S c) 0 = false := by rw [Bool.eq_false_iff]; exact fun e => h (Nat.eq_of_beq_eq_true e)
      rw [this]; simp [h]
theorem bitF_eq (T i : Nat) : bitF T i = bit T i := by
  unfold bitF bit
  have e : Nat.land (Nat.shiftRight T i) 1 = T / 2 ^ i &&& 1 := by show (T >>> i) &&& 1 = _; rw [Nat.shiftRight_eq_div_pow]
  rw [e, Nat.and_one_is_mod]
  rcases Nat.mod_two_eq_zero_or_one (T / 2 ^ i) with h | h <;> rw [h] <;> rfl
theorem ringF_eq (T : Nat) (trees : List Nat) (e : Nat) : ∀ f, ringF T trees e f = !(((List.range f).filter fun f => bit T f && (trees.contains (T ^^^ (1 * 2 ^ f) ^^^ (1 * 2 ^ e)) && true)).isEmpty)
  | 0 => rfl
  | f + 1 => by
    rw [ringF, ringF_eq T trees e f, memF_eq, bitF_eq, List.range_succ, List.filter_append]
    have e1 : Nat.xor (Nat.xor T (Nat.pow 2 f)) (Nat.pow 2 e) = T ^^^ (1 * 2 ^ f) ^^^ (1 * 2 ^ e) := by rw [Nat.one_mul, Nat.one_mul]; rfl
    rw [e1]
    generalize hp : (fun f => bit T f && (trees.contains (T ^^^ (1 * 2 ^ f) ^^^ (1 * 2 ^ e)) && true)) = p
    have h : cond (bit T f) (trees.contains (T ^^^ (1 * 2 ^ f) ^^^ (1 * 2 ^ e))) false = p f := by rw [← hp]; show _ = (bit T f && (trees.contains _ && true)); rw [Bool.and_true]; cases bit T f <;> rfl
    rw [h, List.filter_cons, List.filter_nil]
    cases p f <;> simp
theorem outF_eq (T : Nat) (trees : List Nat) : ∀ e, outF T trees e = outTo T trees e
  | 0 => rfl
  | e + 1 => by
    rw [outF, outTo, outF_eq T trees e, bitF_eq, ringF_eq]
    unfold ringOf
    cases bit T e <;> simp
theorem cntF_eq (a : Nat) : ∀ l : List Nat, cntF a l = l.count a
  | [] => rfl
  | b :: r => by
    rw [cntF, cntF_eq a r, List.count_cons]
    by_cases h : b = a
    · subst h; simp
    · have : Nat.beq b a = false := by rw [Bool.eq_false_iff]; exact fun e => h (Nat.eq_of_beq_eq_true e)
      rw [this]; simp [h]
theorem leF_eq (k : Nat) : ∀ l : List Nat, leF k l = l.all fun b => decide (b ≤ k)
  | [] => rfl
  | b :: r => by
    rw [leF, leF_eq k r, List.all_cons]
    by_cases h : b ≤ k
    · rw [Nat.ble_eq_true_of_le h]; simp [h]
    · have : Nat.ble b k = false := by rw [Bool.eq_false_iff]; exact fun e => h (Nat.le_of_ble_eq_true e)
      rw [this]; simp [h]
theorem geF_eq (k : Nat) : ∀ l : List Nat, geF k l = l.all fun b => decide (k ≤ b)
  | [] => rfl
  | b :: r => by
    rw [geF, geF_eq k r, List.all_cons]
    by_cases h : k ≤ b
    · rw [Nat.ble_eq_true_of_le h]; simp [h]
    · have : Nat.ble k b = false := by rw [Bool.eq_false_iff]; exact fun e => h (Nat.le_of_ble_eq_true e)
      rw [this]; simp [h]
theorem filF_eq (cs : List Nat) : ∀ l : List Nat, filF cs l = l.filter fun S => decide (lackC cs S = 0)
  | [] => rfl
  | S :: r => by
    rw [filF, filF_eq cs r, hitF_eq, List.filter_cons]
    cases decide (lackC cs S = 0) <;> rfl
theorem conF_eq (cs : List Nat) : ∀ l : List (Nat × Nat), conF cs l = conC l cs
  | [] => rfl
  | S :: r => by
    rw [conF, conF_eq cs r, hitF_eq]
    unfold conC
    rw [List.filter_cons]
    cases decide (lackC cs S.1 = 0) <;> rfl
theorem levF_eq (m : Nat) (trees : List Nat) : ∀ l : List Nat, levF m trees l = l.map fun T => outTo T trees m
  | [] => rfl
  | T :: r => by rw [levF, levF_eq m trees r, outF_eq]; rfl
theorem cutF_eq : ∀ (cols : List Nat) (u : Nat), cutF cols u = cutU cols u
  | [], _ => rfl
  | v :: r, u => by rw [cutF, cutU, cutF_eq r u]; rfl
theorem agreeF_eq (m : Nat) (Ls Js : List Nat) (h : agreeF m Ls Js = true) : agree m Ls Js = true := by
  unfold agreeF at h
  rw [leF_eq, leF_eq, geF_eq, cntF_eq, cntF_eq, cntF_eq, cntF_eq, cntF_eq, cntF_eq, cntF_eq, cntF_eq] at h
  have cnd : ∀ {a b : Bool}, cond a b false = true → a = true ∧ b = true := fun {a b} h => by cases a <;> simp_all
  obtain ⟨h1, h⟩ := cnd h
  obtain ⟨h2, h⟩ := cnd h
  obtain ⟨h3, h⟩ := cnd h
  obtain ⟨h4, h⟩ := cnd h
  obtain ⟨h5, h⟩ := cnd h
  obtain ⟨h6, h⟩ := cnd h
  obtain ⟨h7, h⟩ := cnd h
  obtain ⟨h8, h⟩ := cnd h
  obtain ⟨h9, h⟩ := cnd h
  obtain ⟨h10, h⟩ := cnd h
  have a4 := Nat.le_of_ble_eq_true h4
  have a5 := Nat.le_of_ble_eq_true h5
  have a6 := Nat.le_of_ble_eq_true h6
  have a7 := Nat.le_of_ble_eq_true h7
  have b1 := Nat.eq_of_beq_eq_true h8
  have b2 := Nat.eq_of_beq_eq_true h9
  have b3 := Nat.eq_of_beq_eq_true h10
  have b4 := Nat.eq_of_beq_eq_true h
  unfold agree
  simp only [Bool.and_eq_true, decide_eq_true_eq]
  refine ⟨⟨⟨h1, ?_⟩, a4, a5, a6, a7⟩, b1, b2, b3, b4⟩
  rw [List.all_eq_true] at h2 h3 ⊢
  intro x hx
  have := h2 x hx
  have := h3 x hx
  simp_all
theorem fastC_eq {m : Nat} {T3 : List Nat} {sets : List (Nat × Nat)} {cols : List Nat} (h : fastC m T3 sets cols = true) : checkC m T3 sets cols = true := by
  unfold fastC fast1 fast2 at h
  unfold checkC levC treesC
  have e : us.map (cutF cols) = us.map (cutU cols) := by simp only [funext (cutF_eq cols)]
  rw [e, filF_eq, conF_eq, levF_eq] at h
  exact agreeF_eq _ _ _ h
theorem all5 : chk1 (fastC 5 t5 p5) 4 [1] = true := by decide +kernel
end
section
open PySem PySem.W PyProof.Rows PySem.Calls
set_option linter.unusedVariables false
set_option maxRecDepth 100000
noncomputable def mt (pl : Nat) (t : Nat × Nat) : Bool := pl == t.1 || pl == t.2
noncomputable def colOf (t : Nat × Nat) : Nat := (if mt 1 t then 1 else 0) + (if mt 2 t then 2 else 0) + (if mt 3 t then 4 else 0)
noncomputable def colsOf (ts : List (Nat × Nat)) : List Nat := ts.map colOf
theorem map_dbl (l : List Nat) : (l.map ((fun k => 1 * 2 ^ k) ∘ Nat.succ)).sum = 2 * (l.map fun k => 1 * 2 ^ k).sum := by
  induction l with
  | nil => rfl
  | cons a l ih => simp only [List.map_cons, List.sum_cons, ih, Function.comp, Nat.pow_succ]; omega
theorem cutOf_cons (t : Nat × Nat) (r : List (Nat × Nat)) (pl : Nat) : cutOf (t :: r) pl = (if mt pl t then 1 else 0) + 2 * cutOf r pl := by
  unfold cutOf
  rw [List.length_cons, List.range_succ_eq_map, List.filter_cons, List.filter_map]
  have e : (meets (t :: r) pl) ∘ Nat.succ = meets r pl := by funext k; simp [meets]
  have e0 : meets (t :: r) pl 0 = mt pl t := by simp [meets, mt]
  rw [e, e0]
  cases mt pl t
  · rw [if_neg (by decide), if_neg (by decide), List.map_map, map_dbl]; simp
  · rw [if_pos rfl, if_pos rfl, List.map_cons, List.map_map, List.sum_cons, map_dbl]
theorem cutOf_U (u pl : Nat) (h : ∀ t : Nat × Nat, par u (colOf t) = if mt pl t then 1 else 0) : ∀ ts : List (Nat × Nat), cutOf ts pl = cutU (colsOf ts) u
  | [] => rfl
  | t :: r => by
    rw [cutOf_cons, cutOf_U u pl h r]
    show _ = par u (colOf t) + 2 * cutU (colsOf r) u
    rw [h]
theorem par_col (u : Nat) (t : Nat × Nat) : par u (colOf t) = par u ((if mt 1 t then 1 else 0) + (if mt 2 t then 2 else 0) + (if mt 3 t then 4 else 0)) := rfl
theorem cutOf_1 (ts : List (Nat × Nat)) : cutOf ts 1 = cutU (colsOf ts) 1 := cutOf_U 1 1 (fun t => by rw [par_col]; cases mt 1 t <;> cases mt 2 t <;> cases mt 3 t <;> rfl) ts
theorem cutOf_2 (ts : List (Nat × Nat)) : cutOf ts 2 = cutU (colsOf ts) 2 := cutOf_U 2 2 (fun t => by rw [par_col]; cases mt 1 t <;> cases mt 2 t <;> cases mt 3 t <;> rfl) ts
theorem cutOf_3 (ts : List (Nat × Nat)) : cutOf ts 3 = cutU (colsOf ts) 4 := cutOf_U 4 3 (fun t => by rw [par_col]; cases mt 1 t <;> cases mt 2 t <;> cases mt 3 t <;> rfl) ts
theorem two_bit (p c i : Nat) (hp : p < 2) : (p + 2 * c).testBit (i + 1) = c.testBit i := by
  rw [Nat.testBit_succ, show (p + 2 * c) / 2 = c by omega]
theorem two_bit0 (p c : Nat) (hp : p < 2) : (p + 2 * c).testBit 0 = decide (p = 1) := by
  rw [Nat.testBit_zero, show (p + 2 * c) % 2 = p by omega]
theorem xor_two (p q c d : Nat) (hp : p < 2) (hq : q < 2) : (p + 2 * c) ^^^ (q + 2 * d) = (p ^^^ q) + 2 * (c ^^^ d) := by
  apply Nat.eq_of_testBit_eq
  intro i
  have hpq : p ^^^ q < 2 := by
    rcases (show p = 0 ∨ p = 1 by omega) with rfl | rfl <;> rcases (show q = 0 ∨ q = 1 by omega) with rfl | rfl <;> decide
  cases i with
  | zero =>
    rw [Nat.testBit_xor, two_bit0 _ _ hp, two_bit0 _ _ hq, two_bit0 _ _ hpq]
    rcases (show p = 0 ∨ p = 1 by omega) with rfl | rfl <;> rcases (show q = 0 ∨ q = 1 by omega) with rfl | rfl <;> decide
  | succ i => rw [Nat.testBit_xor, two_bit _ _ _ hp, two_bit _ _ _ hq, two_bit _ _ _ hpq, Nat.testBit_xor]
theorem and_two (p q c d : Nat) (hp : p < 2) (hq : q < 2) : (p + 2 * c) &&& (q + 2 * d) = (p &&& q) + 2 * (c &&& d) := by
  apply Nat.eq_of_testBit_eq
  intro i
  have hpq : p &&& q < 2 := Nat.lt_of_le_of_lt Nat.and_le_left hp
  cases i with
  | zero =>
    rw [Nat.testBit_and, two_bit0 _ _ hp, two_bit0 _ _ hq, two_bit0 _ _ hpq]
    rcases (show p = 0 ∨ p = 1 by omega) with rfl | rfl <;> rcases (show q = 0 ∨ q = 1 by omega) with rfl | rfl <;> decide
  | succ i => rw [Nat.testBit_and, two_bit _ _ _ hp, two_bit _ _ _ hq, two_bit _ _ _ hpq, Nat.testBit_and]
theorem par_lt (u v : Nat) : par u v < 2 := by
  unfold par
  have : ∀ k : Nat, [0, 1, 1, 0, 1, 0, 0, 1].getD k 0 < 2 := by
    intro k
    by_cases h : k < 8
    · revert h; revert k; decide
    · rw [List.getD_eq_getElem?_getD, List.getElem?_eq_none (by simp; omega)]; decide
  exact this _
theorem cutU_xor (u u' : Nat) (h : ∀ v < 8, par (u ^^^ u') v = par u v ^^^ par u' v) : ∀ cols : List Nat, (∀ v ∈ cols, v < 8) → cutU cols (u ^^^ u') = cutU cols u ^^^ cutU cols u'
  | [], _ => by simp [cutU]
  | v :: r, hv => by
    rw [cutU, cutU, cutU, cutU_xor u u' h r (fun x hx => hv x (List.mem_cons_of_mem _ hx)), h v (hv v List.mem_cons_self), xor_two _ _ _ _ (par_lt _ _) (par_lt _ _)]
theorem colOf_lt (t : Nat × Nat) : colOf t < 8 := by
  unfold colOf; split <;> split <;> split <;> omega
theorem cols_lt (ts : List (Nat × Nat)) : ∀ v ∈ colsOf ts, v < 8 := fun v hv => by
  obtain ⟨t, _, rfl⟩ := List.mem_map.mp hv
  exact colOf_lt t
theorem cuts_U (ts : List (Nat × Nat)) : cuts ts = [1, 2, 4, 3, 5, 6, 7].map (cutU (colsOf ts)) := by
  unfold cuts
  simp only [cutOf_1, cutOf_2, cutOf_3]
  have h := cols_lt ts
  have e3 := cutU_xor 1 2 (by decide) _ h
  have e5 := cutU_xor 1 4 (by decide) _ h
  have e6 := cutU_xor 2 4 (by decide) _ h
  have e7 := cutU_xor 3 4 (by decide) _ h
  have f3 : cutU (colsOf ts) 3 = cutU (colsOf ts) 1 ^^^ cutU (colsOf ts) 2 := e3
  have f5 : cutU (colsOf ts) 5 = cutU (colsOf ts) 1 ^^^ cutU (colsOf ts) 4 := e5
  have f6 : cutU (colsOf ts) 6 = cutU (colsOf ts) 2 ^^^ cutU (colsOf ts) 4 := e6
  have f7 : cutU (colsOf ts) 7 = cutU (colsOf ts) 3 ^^^ cutU (colsOf ts) 4 := e7
  simp only [List.map_cons, List.map_nil, f7, f3, f5, f6]
theorem lack_perm {cs cs' : List Nat} (h : cs.Perm cs') (S : Nat) : lackC cs S = lackC cs' S := (h.filter _).length_eq
noncomputable def csU (cols : List Nat) : List Nat := us.map (cutU cols)
theorem lack_U (ts : List (Nat × Nat)) (S : Nat) : lackOf ts S = lackC (csU (colsOf ts)) S := by
  show lackC (cuts ts) S = _
  rw [cuts_U]
  exact lack_perm (List.Perm.map _ (by decide)) S
/-! gathering by places -/
theorem gather_map (L : List Nat) : (List.range L.length).map (fun k => atN L k) = L := by
  refine List.ext_getElem (by simp) fun i h1 h2 => ?_
  simp [atN, h2]
theorem gather (L : List Nat) {β : Type} (p : Nat → Bool) (q : Nat → Bool) (f : Nat → β) (h : Nat → β) (hp : ∀ k < L.length, p k = q (atN L k)) (hf : ∀ k < L.length, f k = h (atN L k)) : ((List.range L.length).filter p).map f = (L.filter q).map h := by
  have e1 : (List.range L.length).filter p = (List.range L.length).filter fun k => q (atN L k) := List.filter_congr fun k hk => hp k (List.mem_range.mp hk)
  have e2 : ((List.range L.length).filter fun k => q (atN L k)).map f = ((List.range L.length).filter fun k => q (atN L k)).map fun k => h (atN L k) := List.map_congr_left fun k hk => hf k (List.mem_range.mp (List.mem_filter.mp hk).1)
  rw [e1, e2]
  have e3 : (L.filter q).map h = (((List.range L.length).map (fun k => atN L k)).filter q).map h := by rw [gather_map]
  rw [e3, List.filter_map, List.map_map]; rfl
theorem atN_map (f : Nat → Nat) (L : List Nat) (k : Nat) (h : k < L.length) : atN (L.map f) k = f (atN L k) := by simp [atN, h]
theorem atN_mem (L : List Nat) (k : Nat) (h : k < L.length) : atN L k ∈ L := by simp [atN, h]
theorem joins_con (ts : List (Nat × Nat)) : joinsOf ts = conC (pcs ts.length) (csU (colsOf ts)) := by
  unfold joinsOf
  rw [gather (setsOf ts) _ (fun S => decide (lackC (csU (colsOf ts)) S = 0)) _ ones (fun k hk => ?_) (fun k hk => rfl)]
  · unfold conC pcs setsOf
    rw [List.filter_map, List.map_map]
    simp only [Nat.one_mul]; rfl
  · unfold lacksOf; rw [atN_map _ _ _ hk, lack_U]
theorem threes_eq (ts : List (Nat × Nat)) : (threesOf ts).map (atN (setsOf ts)) = threes ts.length := by
  unfold threesOf
  rw [gather (setsOf ts) _ (fun S => decide (ones S = 3)) _ (fun S => S) (fun k hk => rfl) (fun k hk => rfl)]
  unfold setsOf threes
  rw [List.map_id', List.filter_filter, Nat.one_mul]
  refine List.filter_congr fun S _ => ?_
  rw [Bool.eq_iff_iff]; simp; omega
theorem threes_lt (ts : List (Nat × Nat)) : ∀ k ∈ threesOf ts, k < (setsOf ts).length := fun k hk => List.mem_range.mp (List.mem_filter.mp hk).1
theorem trees_eq (ts : List (Nat × Nat)) : treesOf ts = treesC (threes ts.length) (csU (colsOf ts)) := by
  unfold treesOf treesC
  rw [← threes_eq, List.filter_map]
  congr 1
  refine List.filter_congr fun k hk => ?_
  unfold lacksOf; rw [atN_map _ _ _ (threes_lt ts k hk), lack_U]; rfl
end
section
open PySem PySem.W PyProof.Rows PySem.Calls
set_option linter.unusedVariables false
set_option maxRecDepth 100000
/-! a change of basis -/
noncomputable def comb (v1 v2 v3 k : Nat) : Nat := (cond (Nat.testBit k 0) v1 0) ^^^ (cond (Nat.testBit k 1) v2 0) ^^^ (cond (Nat.testBit k 2) v3 0)
noncomputable def toGm (v1 v2 v3 x : Nat) : Nat := ((List.range 8).find? fun k => comb v1 v2 v3 k == x).getD 0
noncomputable def toTm (v1 v2 v3 u : Nat) : Nat := par u (toGm v1 v2 v3 1) + 2 * par u (toGm v1 v2 v3 2) + 4 * par u (toGm v1 v2 v3 4)
noncomputable def dep2 (v1 v2 v : Nat) : Bool := v == v1 || v == v2 || v == v1 ^^^ v2
noncomputable def tripleOk (v1 v2 v3 : Nat) : Bool := (us.map (toTm v1 v2 v3)).isPerm us && us.all (fun u => us.all fun x => par u (toGm v1 v2 v3 x) == par (toTm v1 v2 v3 u) x) &&
  (toGm v1 v2 v3 v1 == 1 && toGm v1 v2 v3 v2 == 2 && toGm v1 v2 v3 (v1 ^^^ v2) == 3 && toGm v1 v2 v3 v3 == 4) && us.all fun x => us.contains (toGm v1 v2 v3 x)
theorem triples : (us.all fun v1 => us.all fun v2 => us.all fun v3 => v2 == v1 || dep2 v1 v2 v3 || tripleOk v1 v2 v3) = true := by decide +kernel
theorem triple {v1 v2 v3 : Nat} (h1 : v1 ∈ us) (h2 : v2 ∈ us) (h3 : v3 ∈ us) (a : (v2 == v1) = false) (b : dep2 v1 v2 v3 = false) : tripleOk v1 v2 v3 = true := by
  have h := triples
  rw [List.all_eq_true] at h
  have h := h v1 h1
  rw [List.all_eq_true] at h
  have h := h v2 h2
  rw [List.all_eq_true] at h
  have h := h v3 h3
  rw [a, b] at h
  simpa using h
/-! what the check says hangs on the lacks alone -/
noncomputable def good (m : Nat) (T3 : List Nat) (sets : List (Nat × Nat)) (cs : List Nat) : Bool := agree m (levC m (treesC T3 cs)) (conC sets cs)
theorem good_perm {m : Nat} {T3 : List Nat} {sets : List (Nat × Nat)} {cs cs' : List Nat} (h : cs.Perm cs') : good m T3 sets cs = good m T3 sets cs' := by
  unfold good treesC conC
  simp only [lack_perm h]
theorem cutU_map (g T : Nat → Nat) (u : Nat) (h : ∀ x ∈ us, par u (g x) = par (T u) x) : ∀ cols : List Nat, (∀ v ∈ cols, v ∈ us) → cutU (cols.map g) u = cutU cols (T u)
  | [], _ => rfl
  | v :: r, hv => by
    rw [List.map_cons, cutU, cutU, h v (hv v List.mem_cons_self), cutU_map g T u h r fun x hx => hv x (List.mem_cons_of_mem _ hx)]
theorem good_map {m : Nat} {T3 : List Nat} {sets : List (Nat × Nat)} {v1 v2 v3 : Nat} (h : tripleOk v1 v2 v3 = true) (cols : List Nat) (hv : ∀ v ∈ cols, v ∈ us) (hc : good m T3 sets (csU (cols.map (toGm v1 v2 v3))) = true) : good m T3 sets (csU cols) = true := by
  unfold tripleOk at h
  simp only [Bool.and_eq_true] at h
  obtain ⟨⟨⟨h1, h2⟩, _⟩, _⟩ := h
  rw [List.all_eq_true] at h2
  rw [← hc]
  refine good_perm ?_
  have e : csU (cols.map (toGm v1 v2 v3)) = (us.map (toTm v1 v2 v3)).map (cutU cols) := by
    unfold csU
    rw [List.map_map]
    refine List.map_congr_left fun u hu => ?_
    refine cutU_map _ _ u (fun x hx => ?_) cols hv
    have := h2 u hu
    rw [List.all_eq_true] at this
    exact eq_of_beq (this x hx)
  rw [e]
  exact ((List.isPerm_iff.mp h1).map _).symm
/-! every spanning list has a canonical face -/
noncomputable def sp3 (v1 v2 : Nat) (l : List Nat) : Bool := l.any fun v => !(dep2 v1 v2 v)
noncomputable def sp2 (v1 : Nat) : List Nat → Bool
  | [] => false
  | v :: r => if v == v1 then sp2 v1 r else sp3 v1 v r
noncomputable def sp1 : List Nat → Bool
  | [] => false
  | v :: r => sp2 v r
theorem c3 (P : List Nat → Bool) : ∀ (l : List Nat) (pre : List Nat), chk3 P l.length pre = true → (∀ v ∈ l, v ∈ us) → P (pre ++ l) = true
  | [], pre, h, _ => by rw [List.append_nil]; exact h
  | v :: r, pre, h, hv => by
    have h : (us.all fun v => chk3 P r.length (pre ++ [v])) = true := h
    rw [List.all_eq_true] at h
    have := c3 P r (pre ++ [v]) (h v (hv v List.mem_cons_self)) fun x hx => hv x (List.mem_cons_of_mem _ hx)
    rwa [List.append_assoc] at this
theorem gOf {v1 v2 v3 : Nat} (h : tripleOk v1 v2 v3 = true) : toGm v1 v2 v3 v1 = 1 ∧ toGm v1 v2 v3 v2 = 2 ∧ toGm v1 v2 v3 (v1 ^^^ v2) = 3 ∧ toGm v1 v2 v3 v3 = 4 ∧ ∀ x ∈ us, toGm v1 v2 v3 x ∈ us := by
  unfold tripleOk at h
  simp only [Bool.and_eq_true, beq_iff_eq] at h
  obtain ⟨⟨_, ⟨⟨a, b⟩, c⟩, d⟩, e⟩ := h
  rw [List.all_eq_true] at e
  exact ⟨a, b, c, d, fun x hx => List.contains_iff_mem.mp (e x hx)⟩
theorem c2 (P : List Nat → Bool) {v1 v2 : Nat} (h1 : v1 ∈ us) (h2 : v2 ∈ us) (ne : (v2 == v1) = false) : ∀ (l : List Nat) (pre : List Nat), chk2 P l.length pre = true → (∀ v ∈ l, v ∈ us) → sp3 v1 v2 l = true →
    ∃ v3, tripleOk v1 v2 v3 = true ∧ P (pre ++ l.map (toGm v1 v2 v3)) = true
  | [], pre, h, _, hs => by cases hs
  | v :: r, pre, h, hv, hs => by
    have h : ([1, 2, 3].all (fun v => chk2 P r.length (pre ++ [v])) && chk3 P r.length (pre ++ [4])) = true := h
    rw [Bool.and_eq_true, List.all_eq_true] at h
    obtain ⟨ha, hb⟩ := h
    have hv' : ∀ x ∈ r, x ∈ us := fun x hx => hv x (List.mem_cons_of_mem _ hx)
    by_cases hd : dep2 v1 v2 v = true
    · have hs' : sp3 v1 v2 r = true := by
        unfold sp3 at hs ⊢
        rw [List.any_cons, hd] at hs
        simpa using hs
      have key : ∀ c ∈ [1, 2, 3], (∀ v3, tripleOk v1 v2 v3 = true → toGm v1 v2 v3 v = c) → ∃ v3, tripleOk v1 v2 v3 = true ∧ P (pre ++ (v :: r).map (toGm v1 v2 v3)) = true := fun c hc hg => by
        obtain ⟨v3, t, p⟩ := c2 P h1 h2 ne r (pre ++ [c]) (ha c hc) hv' hs'
        refine ⟨v3, t, ?_⟩
        rw [List.map_cons, hg v3 t]
        rwa [List.append_assoc] at p
      unfold dep2 at hd
      rw [Bool.or_eq_true, Bool.or_eq_true, beq_iff_eq, beq_iff_eq, beq_iff_eq] at hd
      rcases hd with (rfl | rfl) | rfl
      · exact key 1 (by simp) fun v3 t => (gOf t).1
      · exact key 2 (by simp) fun v3 t => (gOf t).2.1
      · exact key 3 (by simp) fun v3 t => (gOf t).2.2.1
    · have hd : dep2 v1 v2 v = false := by simpa using hd
      have t := triple h1 h2 (hv v List.mem_cons_self) ne hd
      refine ⟨v, t, ?_⟩
      have := c3 P (r.map (toGm v1 v2 v)) (pre ++ [4]) (by rw [List.length_map]; exact hb) fun x hx => by
        obtain ⟨y, hy, rfl⟩ := List.mem_map.mp hx
        exact (gOf t).2.2.2.2 y (hv' y hy)
      rw [List.map_cons, (gOf t).2.2.2.1]
      rwa [List.append_assoc] at this
theorem c1 (P : List Nat → Bool) {v1 : Nat} (h1 : v1 ∈ us) : ∀ (l : List Nat) (pre : List Nat), chk1 P l.length pre = true → (∀ v ∈ l, v ∈ us) → sp2 v1 l = true →
    ∃ v2 v3, tripleOk v1 v2 v3 = true ∧ P (pre ++ l.map (toGm v1 v2 v3)) = true
  | [], pre, h, _, hs => by cases hs
  | v :: r, pre, h, hv, hs => by
    have h : (chk1 P r.length (pre ++ [1]) && chk2 P r.length (pre ++ [2])) = true := h
    rw [Bool.and_eq_true] at h
    obtain ⟨ha, hb⟩ := h
    have hv' : ∀ x ∈ r, x ∈ us := fun x hx => hv x (List.mem_cons_of_mem _ hx)
    rw [sp2] at hs
    by_cases hd : (v == v1) = true
    · rw [if_pos hd] at hs
      obtain ⟨v2, v3, t, p⟩ := c1 P h1 r (pre ++ [1]) ha hv' hs
      refine ⟨v2, v3, t, ?_⟩
      have e : v = v1 := eq_of_beq hd
      rw [List.map_cons, e, (gOf t).1]
      rwa [List.append_assoc] at p
    · rw [if_neg hd] at hs
      have ne : (v == v1) = false := by simpa using hd
      obtain ⟨v3, t, p⟩ := c2 P h1 (hv v List.mem_cons_self) ne r (pre ++ [2]) hb hv' hs
      refine ⟨v, v3, t, ?_⟩
      rw [List.map_cons, (gOf t).2.1]
      rwa [List.append_assoc] at p
/-- from the canonical columns to all -/
theorem good_all {m n : Nat} {T3 : List Nat} {sets : List (Nat × Nat)} (h : chk1 (checkC m T3 sets) n [1] = true) (cols : List Nat) (hl : cols.length = n + 1) (hv : ∀ v ∈ cols, v ∈ us) (hs : sp1 cols = true) : good m T3 sets (csU cols) = true := by
  match cols, hs with
  | v :: r, hs =>
    have hv' : ∀ x ∈ r, x ∈ us := fun x hx => hv x (List.mem_cons_of_mem _ hx)
    have hn : r.length = n := by simpa using hl
    obtain ⟨v2, v3, t, p⟩ := c1 (checkC m T3 sets) (hv v List.mem_cons_self) r [1] (by rw [hn]; exact h) hv' hs
    refine good_map t (v :: r) hv ?_
    rw [List.map_cons, (gOf t).1]
    exact p
theorem chk3_mono {P Q : List Nat → Bool} (h : ∀ l, P l = true → Q l = true) : ∀ n pre, chk3 P n pre = true → chk3 Q n pre = true
  | 0, pre, x => h _ x
  | n + 1, pre, x => by
    have x : (us.all fun v => chk3 P n (pre ++ [v])) = true := x
    show (us.all fun v => chk3 Q n (pre ++ [v])) = true
    rw [List.all_eq_true] at x ⊢
    exact fun v hv => chk3_mono h n _ (x v hv)
theorem chk2_mono {P Q : List Nat → Bool} (h : ∀ l, P l = true → Q l = true) : ∀ n pre, chk2 P n pre = true → chk2 Q n pre = true
  | 0, pre, x => rfl
  | n + 1, pre, x => by
    have x : ([1, 2, 3].all (fun v => chk2 P n (pre ++ [v])) && chk3 P n (pre ++ [4])) = true := x
    show ([1, 2, 3].all (fun v => chk2 Q n (pre ++ [v])) && chk3 Q n (pre ++ [4])) = true
    rw [Bool.and_eq_true, List.all_eq_true] at x ⊢
    exact ⟨fun v hv => chk2_mono h n _ (x.1 v hv), chk3_mono h n _ x.2⟩
theorem chk1_mono {P Q : List Nat → Bool} (h : ∀ l, P l = true → Q l = true) : ∀ n pre, chk1 P n pre = true → chk1 Q n pre = true
  | 0, pre, x => rfl
  | n + 1, pre, x => by
    have x : (chk1 P n (pre ++ [1]) && chk2 P n (pre ++ [2])) = true := x
    show (chk1 Q n (pre ++ [1]) && chk2 Q n (pre ++ [2])) = true
    rw [Bool.and_eq_true] at x ⊢
    exact ⟨chk1_mono h n _ x.1, chk2_mono h n _ x.2⟩
theorem agree_of (ts : List (Nat × Nat)) (n : Nat) {T3 : List Nat} {sets : List (Nat × Nat)} (h3 : threes (n + 1) = T3) (hp : pcs (n + 1) = sets) (h : chk1 (checkC (n + 1) T3 sets) n [1] = true) (hl : ts.length = n + 1) (hv : ∀ v ∈ colsOf ts, v ∈ us) (hs : sp1 (colsOf ts) = true) :
    agree ts.length (levC ts.length (treesOf ts)) (joinsOf ts) = true := by
  rw [trees_eq, joins_con, hl, h3, hp]
  exact good_all h (colsOf ts) (by simp [colsOf, hl]) hv hs
end
section
open PySem PySem.W PyProof.Rows PySem.Calls
set_option linter.unusedVariables false
set_option maxRecDepth 100000
/-! the ties are the ends in another order -/
theorem tiesTo_perm (d : List Nat) (ends : List (Nat × Nat)) : ∀ k, k ≤ ends.length → (tiesTo d ends k).Perm (ends.take k)
  | 0, _ => by simp [tiesTo]
  | k + 1, h => by
    have ih := tiesTo_perm d ends k (by omega)
    rw [tiesTo]
    have e : ends.take (k + 1) = ends.take k ++ [ends.getD k (0, 0)] := by
      rw [List.take_succ, List.getElem?_eq_getElem (by omega)]
      simp [List.getElem?_eq_getElem (show k < ends.length by omega)]
    rw [e]
    generalize d.getD k 0 / 12 % (k + 1) = p
    generalize tiesTo d ends k = L at ih
    have : (L.take p ++ [ends.getD k (0, 0)] ++ L.drop p).Perm (L ++ [ends.getD k (0, 0)]) := by
      rw [List.append_assoc]
      refine (List.Perm.append_left _ (List.perm_append_comm)).trans ?_
      rw [← List.append_assoc, List.take_append_drop]
    exact this.trans (ih.append_right _)
theorem ties_perm (d : List Nat) (more : Bool) : (tiesOf d more).Perm (endsOf d more) := by
  have := tiesTo_perm d (endsOf d more) _ (Nat.le_refl _)
  rwa [List.take_length] at this
/-! the ends by their draws -/
noncomputable def endsS (a b c o e : Nat) (more : Bool) (f : Nat) : List (Nat × Nat) :=
  let l := [(1, 0), (2, a), (3, b), (0, 1 + c), (o, (o + 1 + e) % 4)]
  cond more (l ++ [(0, 1 + f)]) l
theorem endsOf_S (d : List Nat) (more : Bool) : endsOf d more = endsS (d.getD 1 0 % 2) (d.getD 2 0 % 3) (d.getD 3 0 % 3) (d.getD 4 0 % 4) (d.getD 4 0 / 4 % 3) more (d.getD 5 0 % 3) := by
  unfold endsOf endsS
  cases more <;> rfl
noncomputable def allS (P : List (Nat × Nat) → Bool) (more : Bool) : Bool := (List.range 2).all fun a => (List.range 3).all fun b => (List.range 3).all fun c => (List.range 4).all fun o => (List.range 3).all fun e => cond more ((List.range 3).all fun f => P (endsS a b c o e true f)) (P (endsS a b c o e false 0))
theorem allS_ends {P : List (Nat × Nat) → Bool} {more : Bool} (h : allS P more = true) (d : List Nat) : P (endsOf d more) = true := by
  rw [endsOf_S]
  unfold allS at h
  have mem : ∀ {n k : Nat}, 0 < n → k % n ∈ List.range n := fun hn => List.mem_range.mpr (Nat.mod_lt _ hn)
  rw [List.all_eq_true] at h; have h := h _ (mem (k := d.getD 1 0) (by decide))
  rw [List.all_eq_true] at h; have h := h _ (mem (k := d.getD 2 0) (by decide))
  rw [List.all_eq_true] at h; have h := h _ (mem (k := d.getD 3 0) (by decide))
  rw [List.all_eq_true] at h; have h := h _ (mem (k := d.getD 4 0) (by decide))
  rw [List.all_eq_true] at h; have h := h _ (mem (k := d.getD 4 0 / 4) (by decide))
  cases more with
  | false => exact h
  | true =>
    have h : ((List.range 3).all fun f => P (endsS (d.getD 1 0 % 2) (d.getD 2 0 % 3) (d.getD 3 0 % 3) (d.getD 4 0 % 4) (d.getD 4 0 / 4 % 3) true f)) = true := h
    rw [List.all_eq_true] at h
    exact h _ (mem (k := d.getD 5 0) (by decide))
/-! spanning -/
noncomputable def offSpan (l : List Nat) : Bool := l.all (fun v => us.contains v) && us.all fun a => us.all fun b => l.any fun v => !(dep2 a b v)
theorem sp_of {l : List Nat} (h : offSpan l = true) : (∀ v ∈ l, v ∈ us) ∧ sp1 l = true := by
  unfold offSpan at h
  rw [Bool.and_eq_true, List.all_eq_true] at h
  obtain ⟨h1, h2⟩ := h
  have hv : ∀ v ∈ l, v ∈ us := fun v hv => List.contains_iff_mem.mp (h1 v hv)
  have ab : ∀ a ∈ us, ∀ b ∈ us, ∃ v ∈ l, dep2 a b v = false := fun a ha b hb => by
    rw [List.all_eq_true] at h2
    have := h2 a ha
    rw [List.all_eq_true] at this
    have := this b hb
    rw [List.any_eq_true] at this
    obtain ⟨v, hv, e⟩ := this
    exact ⟨v, hv, by simpa using e⟩
  refine ⟨hv, ?_⟩
  have s3 : ∀ (a b : Nat) (r : List Nat), sp3 a b r = false → ∀ v ∈ r, dep2 a b v = true := fun a b r e v hv => by
    unfold sp3 at e
    rw [List.any_eq_false] at e
    simpa using e v hv
  have s2 : ∀ (a : Nat) (r : List Nat), a ∈ us → (∀ v ∈ r, v ∈ us) → sp2 a r = false → ∃ b ∈ us, ∀ v ∈ r, dep2 a b v = true := by
    intro a r ha
    induction r with
    | nil => exact fun _ _ => ⟨a, ha, fun v hv => by cases hv⟩
    | cons v r ih =>
      intro hr e
      rw [sp2] at e
      by_cases c : (v == a) = true
      · rw [if_pos c] at e
        obtain ⟨b, hb, x⟩ := ih (fun x hx => hr x (List.mem_cons_of_mem _ hx)) e
        refine ⟨b, hb, fun y hy => ?_⟩
        rcases List.mem_cons.mp hy with rfl | hy
        · unfold dep2; rw [c]; rfl
        · exact x y hy
      · rw [if_neg c] at e
        refine ⟨v, hr v List.mem_cons_self, fun y hy => ?_⟩
        rcases List.mem_cons.mp hy with rfl | hy
        · unfold dep2; simp
        · exact s3 _ _ _ e y hy
  match l, hv, ab with
  | [], _, ab => obtain ⟨v, hv, _⟩ := ab 1 (by decide) 1 (by decide); cases hv
  | v :: r, hv, ab =>
    cases e : sp2 v r with
    | true => exact e
    | false =>
      obtain ⟨b, hb, x⟩ := s2 v r (hv v List.mem_cons_self) (fun x hx => hv x (List.mem_cons_of_mem _ hx)) e
      obtain ⟨y, hy, z⟩ := ab v (hv v List.mem_cons_self) b hb
      rcases List.mem_cons.mp hy with rfl | hy
      · unfold dep2 at z; simp at z
      · rw [x y hy] at z; cases z
theorem any_perm {α : Type} {l l' : List α} (p : α → Bool) (h : l.Perm l') : l.any p = l'.any p := by
  rw [Bool.eq_iff_iff, List.any_eq_true, List.any_eq_true]
  exact ⟨fun ⟨x, a, b⟩ => ⟨x, h.mem_iff.mp a, b⟩, fun ⟨x, a, b⟩ => ⟨x, h.mem_iff.mpr a, b⟩⟩
theorem all_perm {α : Type} {l l' : List α} (p : α → Bool) (h : l.Perm l') : l.all p = l'.all p := by
  rw [Bool.eq_iff_iff, List.all_eq_true, List.all_eq_true]
  exact ⟨fun x a b => x a (h.mem_iff.mpr b), fun x a b => x a (h.mem_iff.mp b)⟩
theorem offSpan_perm {l l' : List Nat} (h : l.Perm l') : offSpan l = offSpan l' := by
  unfold offSpan
  simp only [all_perm _ h, any_perm _ h]
theorem span5 : allS (fun E => offSpan (colsOf E)) false = true := by decide +kernel
theorem span6 : allS (fun E => offSpan (colsOf E)) true = true := by decide +kernel
theorem span_ties (d : List Nat) (more : Bool) : (∀ v ∈ colsOf (tiesOf d more), v ∈ us) ∧ sp1 (colsOf (tiesOf d more)) = true := by
  refine sp_of ?_
  rw [show offSpan (colsOf (tiesOf d more)) = offSpan (colsOf (endsOf d more)) from offSpan_perm ((ties_perm d more).map _)]
  cases more
  · exact allS_ends span5 d
  · exact allS_ends span6 d
end
section
open PySem PySem.W PyProof.Rows PySem.Calls
set_option maxRecDepth 100000
theorem us_of {q : Nat → Prop} (h1 : q 1) (h2 : q 2) (h3 : q 3) (h4 : q 4) (h5 : q 5) (h6 : q 6) (h7 : q 7) : ∀ v ∈ us, q v := by
  simp only [us, List.forall_mem_cons, List.not_mem_nil, false_imp_iff, implies_true, and_true]; exact ⟨h1, h2, h3, h4, h5, h6, h7⟩
theorem chk3_of {P : List Nat → Bool} {n : Nat} {pre : List Nat} (h : ∀ v ∈ us, chk3 P n (pre ++ [v]) = true) : chk3 P (n + 1) pre = true := List.all_eq_true.mpr h
theorem chk2_of {P : List Nat → Bool} {n : Nat} {pre : List Nat} (h1 : chk2 P n (pre ++ [1]) = true) (h2 : chk2 P n (pre ++ [2]) = true) (h3 : chk2 P n (pre ++ [3]) = true) (h4 : chk3 P n (pre ++ [4]) = true) : chk2 P (n + 1) pre = true := by
  unfold chk2; simp only [List.all_cons, List.all_nil, h1, h2, h3, h4, Bool.and_self]
theorem chk1_of {P : List Nat → Bool} {n : Nat} {pre : List Nat} (h1 : chk1 P n (pre ++ [1]) = true) (h2 : chk2 P n (pre ++ [2]) = true) : chk1 P (n + 1) pre = true := by
  unfold chk1; rw [h1, h2]; rfl
theorem q21211 : chk2 (fastC 6 t6 p6) 2 [1, 2, 1, 1] = true := by decide +kernel
theorem q21212 : chk2 (fastC 6 t6 p6) 2 [1, 2, 1, 2] = true := by decide +kernel
theorem q21213 : chk2 (fastC 6 t6 p6) 2 [1, 2, 1, 3] = true := by decide +kernel
theorem q31214 : chk3 (fastC 6 t6 p6) 2 [1, 2, 1, 4] = true := by decide +kernel
theorem q2121 : chk2 (fastC 6 t6 p6) 3 [1, 2, 1] = true := chk2_of q21211 q21212 q21213 q31214
theorem q21221 : chk2 (fastC 6 t6 p6) 2 [1, 2, 2, 1] = true := by decide +kernel
theorem q21222 : chk2 (fastC 6 t6 p6) 2 [1, 2, 2, 2] = true := by decide +kernel
theorem q21223 : chk2 (fastC 6 t6 p6) 2 [1, 2, 2, 3] = true := by decide +kernel
theorem q31224 : chk3 (fastC 6 t6 p6) 2 [1, 2, 2, 4] = true := by decide +kernel
theorem q2122 : chk2 (fastC 6 t6 p6) 3 [1, 2, 2] = true := chk2_of q21221 q21222 q21223 q31224
theorem q21231 : chk2 (fastC 6 t6 p6) 2 [1, 2, 3, 1] = true := by decide +kernel
theorem q21232 : chk2 (fastC 6 t6 p6) 2 [1, 2, 3, 2] = true := by decide +kernel
theorem q21233 : chk2 (fastC 6 t6 p6) 2 [1, 2, 3, 3] = true := by decide +kernel
theorem q31234 : chk3 (fastC 6 t6 p6) 2 [1, 2, 3, 4] = true := by decide +kernel
theorem q2123 : chk2 (fastC 6 t6 p6) 3 [1, 2, 3] = true := chk2_of q21231 q21232 q21233 q31234
theorem q31241 : chk3 (fastC 6 t6 p6) 2 [1, 2, 4, 1] = true := by decide +kernel
theorem q31242 : chk3 (fastC 6 t6 p6) 2 [1, 2, 4, 2] = true := by decide +kernel
theorem q31243 : chk3 (fastC 6 t6 p6) 2 [1, 2, 4, 3] = true := by decide +kernel
theorem q31244 : chk3 (fastC 6 t6 p6) 2 [1, 2, 4, 4] = true := by decide +kernel
theorem q31245 : chk3 (fastC 6 t6 p6) 2 [1, 2, 4, 5] = true := by decide +kernel
theorem q31246 : chk3 (fastC 6 t6 p6) 2 [1, 2, 4, 6] = true := by decide +kernel
theorem q31247 : chk3 (fastC 6 t6 p6) 2 [1, 2, 4, 7] = true := by decide +kernel
theorem q3124 : chk3 (fastC 6 t6 p6) 3 [1, 2, 4] = true := chk3_of (us_of q31241 q31242 q31243 q31244 q31245 q31246 q31247)
theorem q212 : chk2 (fastC 6 t6 p6) 4 [1, 2] = true := chk2_of q2121 q2122 q2123 q3124
theorem q11111 : chk1 (fastC 6 t6 p6) 2 [1, 1, 1, 1] = true := by decide +kernel
theorem q21112 : chk2 (fastC 6 t6 p6) 2 [1, 1, 1, 2] = true := by decide +kernel
theorem q1111 : chk1 (fastC 6 t6 p6) 3 [1, 1, 1] = true := chk1_of q11111 q21112
theorem q21121 : chk2 (fastC 6 t6 p6) 2 [1, 1, 2, 1] = true := by decide +kernel
theorem q21122 : chk2 (fastC 6 t6 p6) 2 [1, 1, 2, 2] = true := by decide +kernel
theorem q21123 : chk2 (fastC 6 t6 p6) 2 [1, 1, 2, 3] = true := by decide +kernel
theorem q31124 : chk3 (fastC 6 t6 p6) 2 [1, 1, 2, 4] = true := by decide +kernel
theorem q2112 : chk2 (fastC 6 t6 p6) 3 [1, 1, 2] = true := chk2_of q21121 q21122 q21123 q31124
theorem q111 : chk1 (fastC 6 t6 p6) 4 [1, 1] = true := chk1_of q1111 q2112
theorem all6a : chk2 (fastC 6 t6 p6) 4 [1, 2] = true := q212
theorem all6b : chk1 (fastC 6 t6 p6) 4 [1, 1] = true := q111
end
section
open PySem PySem.W PyProof.Rows PySem.Calls
set_option linter.unusedVariables false
set_option maxRecDepth 100000
theorem all6 : chk1 (fastC 6 t6 p6) 5 [1] = true := by
  show (chk1 (fastC 6 t6 p6) 4 [1, 1] && chk2 (fastC 6 t6 p6) 4 [1, 2]) = true
  rw [all6a, all6b]; rfl
theorem ties_length (d : List Nat) (more : Bool) : (tiesOf d more).length = if more then 6 else 5 := by
  rw [(ties_perm d more).length_eq, endsOf_length]
/-- the lead side: levels and connected sets agree, whatever the ties -/
theorem agree_ties (d : List Nat) (more : Bool) : agree (tiesOf d more).length (levC (tiesOf d more).length (treesOf (tiesOf d more))) (joinsOf (tiesOf d more)) = true := by
  obtain ⟨hv, hs⟩ := span_ties d more
  cases more
  · exact agree_of _ 4 t5_is p5_is (chk1_mono (fun l h => fastC_eq h) _ _ all5) (ties_length d false) hv hs
  · exact agree_of _ 5 t6_is p6_is (chk1_mono (fun l h => fastC_eq h) _ _ all6) (ties_length d true) hv hs
/-! how many connected sets: the same for another order -/
noncomputable def cntS : List Nat → (Nat → Bool) → Nat → Nat
  | [], miss, 0 => if us.all (fun u => !miss u) then 1 else 0
  | [], _, _ + 1 => 0
  | v :: r, miss, 0 => cntS r miss 0
  | v :: r, miss, i + 1 => cntS r miss (i + 1) + cntS r (fun u => miss u && decide (par u v = 0)) i
theorem cntS_perm {l l' : List Nat} (h : l.Perm l') : ∀ miss i, cntS l miss i = cntS l' miss i := by
  induction h with
  | nil => exact fun _ _ => rfl
  | cons v _ ih =>
    intro miss i
    cases i with
    | zero => exact ih _ _
    | succ i => rw [cntS, cntS, ih, ih]
  | swap a b r =>
    intro miss i
    match i with
    | 0 => rfl
    | 1 => simp only [cntS]; omega
    | i + 2 =>
      simp only [cntS]
      have e : (fun u => (miss u && decide (par u b = 0)) && decide (par u a = 0)) = fun u => (miss u && decide (par u a = 0)) && decide (par u b = 0) := by
        funext u; rw [Bool.and_right_comm]
      rw [e]; omega
  | trans _ _ ih1 ih2 => exact fun miss i => (ih1 miss i).trans (ih2 miss i)
/-! counted over the numbers -/
noncomputable def okS (cols : List Nat) (miss : Nat → Bool) (i S : Nat) : Bool := decide (ones S = i) && us.all fun u => !miss u || decide (S &&& cutU cols u ≠ 0)
theorem range_two (p : Nat → Bool) : ∀ N, (List.range (2 * N)).countP p = (List.range N).countP (fun x => p (2 * x)) + (List.range N).countP fun x => p (2 * x + 1)
  | 0 => rfl
  | N + 1 => by
    rw [show 2 * (N + 1) = (2 * N + 1) + 1 by omega, List.range_succ, List.range_succ, List.range_succ, List.countP_append, List.countP_append, List.countP_append, List.countP_append, range_two p N]
    simp only [List.countP_singleton]
    omega
theorem onesTo_low (k i : Nat) : onesTo k (i + 1) = k % 2 + onesTo (k / 2) i := by
  unfold onesTo
  rw [List.range_succ_eq_map, List.map_cons, List.sum_cons, List.map_map]
  congr 1
  · simp
  · congr 1
    refine List.map_congr_left fun j _ => ?_
    show k / 2 ^ (j + 1) % 2 = k / 2 / 2 ^ j % 2
    rw [Nat.pow_succ, Nat.mul_comm, Nat.div_div_eq_div_mul]
theorem ones_two (x b : Nat) (hb : b < 2) : ones (b + 2 * x) = b + ones x := by
  unfold ones
  by_cases hx : x = 0
  · subst hx
    rcases (show b = 0 ∨ b = 1 by omega) with rfl | rfl <;> decide
  · have t : turns (b + 2 * x) = turns x + 1 := by
      unfold turns
      rw [if_neg (by omega), if_neg hx, Nat.log2_def, if_pos (by omega), show (b + 2 * x) / 2 = x by omega]
    rw [t, onesTo_low, show (b + 2 * x) % 2 = b by omega, show (b + 2 * x) / 2 = x by omega]
theorem and_ne (b p x c : Nat) (hb : b < 2) (hp : p < 2) : (decide ((b + 2 * x) &&& (p + 2 * c) ≠ 0)) = ((decide (b = 1) && decide (p = 1)) || decide (x &&& c ≠ 0)) := by
  rw [and_two _ _ _ _ hb hp]
  rcases (show b = 0 ∨ b = 1 by omega) with rfl | rfl <;> rcases (show p = 0 ∨ p = 1 by omega) with rfl | rfl <;> (rw [Bool.eq_iff_iff]; simp) <;> omega
theorem cnt_is : ∀ (cols : List Nat) (miss : Nat → Bool) (i : Nat), (List.range (2 ^ cols.length)).countP (okS cols miss i) = cntS cols miss i
  | [], miss, i => by
    have e : ∀ S, (us.all fun u => !miss u || decide (S &&& cutU [] u ≠ 0)) = us.all fun u => !miss u := fun S => by simp [cutU]
    show (List.range 1).countP _ = _
    rw [show List.range 1 = [0] from rfl, List.countP_singleton]
    unfold okS
    rw [e]
    cases i with
    | zero => rw [show ones 0 = 0 from rfl, cntS]; simp
    | succ i => rw [show ones 0 = 0 from rfl, cntS]; simp
  | v :: r, miss, i => by
    rw [List.length_cons, Nat.pow_succ, Nat.mul_comm, range_two]
    have e0 : ∀ x, okS (v :: r) miss i (2 * x) = okS r miss i x := fun x => by
      unfold okS
      have o := ones_two x 0 (by decide)
      rw [Nat.zero_add, Nat.zero_add] at o
      rw [o]
      congr 1
      congr 1
      funext u
      have := and_ne 0 (par u v) x (cutU r u) (by decide) (par_lt u v)
      rw [Nat.zero_add] at this
      rw [cutU, this]
      simp
    have e1 : ∀ x, okS (v :: r) miss i (2 * x + 1) = (decide (1 + ones x = i) && us.all fun u => !(miss u && decide (par u v = 0)) || decide (x &&& cutU r u ≠ 0)) := fun x => by
      unfold okS
      rw [Nat.add_comm (2 * x) 1, ones_two x 1 (by decide)]
      congr 1
      congr 1
      funext u
      have := and_ne 1 (par u v) x (cutU r u) (by decide) (par_lt u v)
      rw [cutU, this]
      have h := par_lt u v
      rcases (show par u v = 0 ∨ par u v = 1 by omega) with h | h <;> rw [h] <;> simp
    simp only [e0, e1]
    rw [show (fun x => okS r miss i x) = okS r miss i from rfl, cnt_is r miss i]
    cases i with
    | zero =>
      rw [cntS]
      have z : (List.range (2 ^ r.length)).countP (fun x => decide (1 + ones x = 0) && us.all fun u => !(miss u && decide (par u v = 0)) || decide (x &&& cutU r u ≠ 0)) = 0 := by
        rw [List.countP_eq_zero]
        intro x _
        rw [show decide (1 + ones x = 0) = false by simp]
        simp
      rw [z]; rfl
    | succ i =>
      rw [cntS, ← cnt_is r (fun u => miss u && decide (par u v = 0)) i]
      congr 1
      congr 1
      funext x
      unfold okS
      rw [show decide (1 + ones x = i + 1) = decide (ones x = i) by rw [Bool.eq_iff_iff]; simp; omega]
theorem joins_count (ts : List (Nat × Nat)) (i : Nat) (hi : 3 ≤ i) : (joinsOf ts).count i = cntS (colsOf ts) (fun _ => true) i := by
  rw [joins_con, ← cnt_is]
  unfold conC pcs
  rw [List.filter_map, List.map_map, List.filter_filter, List.count_eq_countP, List.countP_map, List.countP_filter]
  rw [show (colsOf ts).length = ts.length by simp [colsOf]]
  refine List.countP_congr fun S _ => ?_
  have k : (us.all fun u => !true || decide (S &&& cutU (colsOf ts) u ≠ 0)) = decide (lackC (csU (colsOf ts)) S = 0) := by
    unfold lackC csU
    rw [Bool.eq_iff_iff, List.all_eq_true, decide_eq_true_eq, List.length_eq_zero_iff, List.filter_eq_nil_iff]
    simp
  unfold okS
  rw [k]
  simp
  omega
theorem joins_perm {ts ts' : List (Nat × Nat)} (h : ts.Perm ts') (i : Nat) (hi : 3 ≤ i) : (joinsOf ts).count i = (joinsOf ts').count i := by
  rw [joins_count _ _ hi, joins_count _ _ hi, cntS_perm (show (colsOf ts).Perm (colsOf ts') from h.map _)]
end
section
open PySem PySem.W PyProof.Rows PySem.Calls
set_option linter.unusedVariables false
set_option maxRecDepth 100000
/-! the text that leads, and its counts -/
noncomputable def chunk (l : Nat) : List Nat := List.replicate l 32 ++ [9]
theorem has_open : ∀ m < 8, Txt.contains (rep 91 m) (Str.ofString "[") = decide (m ≠ 0) := by decide +kernel
theorem fix_chunk (lev : Int) (m : Nat) (hm : m < 8) : (fixPair (mkPair lev m)).1.cps.toList = if m = 0 then chunk lev.toNat else [] := by
  unfold fixPair mkPair
  rw [has_open m hm]
  by_cases h : m = 0
  · rw [if_pos h, if_neg (by simp [h])]
    show ((rep 32 lev.toNat).cps ++ (Str.ofString "\t").cps).toList = _
    rw [Array.toList_append]
    rfl
  · rw [if_neg h, if_pos (by simp [h])]; rfl
theorem lead_chunks {α : Type} (L : List α) (lev : α → Int) (m : α → Nat) (hm : ∀ x ∈ L, m x < 8) : leadText (L.map fun x => mkPair (lev x) (m x)) = ((L.filter fun x => decide (m x = 0)).map fun x => (lev x).toNat).flatMap chunk := by
  unfold leadText
  rw [List.map_map, List.flatMap_map]
  induction L with
  | nil => rfl
  | cons x r ih =>
    rw [List.flatMap_cons, ih fun y hy => hm y (List.mem_cons_of_mem _ hy)]
    show (fixPair (mkPair (lev x) (m x))).1.cps.toList ++ _ = _
    rw [fix_chunk _ _ (hm x List.mem_cons_self), List.filter_cons]
    by_cases h : m x = 0
    · rw [if_pos h, if_pos (by simp [h]), List.map_cons, List.flatMap_cons]
    · rw [if_neg h, if_neg (by simp [h])]; rfl
noncomputable def stepC (cs : List Nat) (l : Nat) : List Nat := (growTo cs l).set l ((growTo cs l).getD l 0 + 1)
theorem ws_spaces : ∀ (l : Nat) (s : WsS), (List.replicate l 32).foldl wsF s = (s.1, s.2.1 + l, s.2.2.1 + l, s.2.2.2)
  | 0, s => rfl
  | l + 1, s => by
    rw [List.replicate_succ, List.foldl_cons, ws_spaces l]
    unfold wsF
    rw [if_pos rfl]
    simp only [Nat.add_assoc, Nat.add_comm 1 l]
theorem ws_chunk (l : Nat) (s : WsS) (h : s.2.1 = 0) : (chunk l).foldl wsF s = (stepC s.1 l, 0, s.2.2.1 + l + 1, s.2.2.2 + 1) := by
  unfold chunk
  rw [List.foldl_append, ws_spaces, h, Nat.zero_add]
  rfl
theorem ws_chunks : ∀ (ls : List Nat) (s : WsS), s.2.1 = 0 → ((ls.flatMap chunk).foldl wsF s).1 = ls.foldl stepC s.1 ∧ ((ls.flatMap chunk).foldl wsF s).2.1 = 0
  | [], s, h => ⟨rfl, h⟩
  | l :: r, s, h => by
    rw [List.flatMap_cons, List.foldl_append, ws_chunk l s h, List.foldl_cons]
    exact ws_chunks r _ rfl
noncomputable def cl (ls : List Nat) : List Nat := ls.foldl stepC []
theorem ws_cl (ls : List Nat) : (wsOf (ls.flatMap chunk)).1 = cl ls ∧ (wsOf (ls.flatMap chunk)).2.1 = 0 := ws_chunks ls ([], 0, 0, 0) rfl
theorem grow_len (cs : List Nat) (l : Nat) : (growTo cs l).length = max cs.length (l + 1) := by
  unfold growTo; split
  · simp; omega
  · omega
theorem grow_get (cs : List Nat) (l j : Nat) : (growTo cs l).getD j 0 = cs.getD j 0 := by
  unfold growTo; split
  · rw [List.getD_eq_getElem?_getD, List.getD_eq_getElem?_getD, List.getElem?_append]
    split
    · rfl
    · rename_i h
      rw [List.getElem?_replicate]
      rw [List.getElem?_eq_none (show cs.length ≤ j by omega)]
      split <;> rfl
  · rfl
theorem step_get (cs : List Nat) (l j : Nat) : (stepC cs l).getD j 0 = cs.getD j 0 + if l = j then 1 else 0 := by
  unfold stepC
  rw [grow_get, List.getD_eq_getElem?_getD, List.getElem?_set]
  have := grow_len cs l
  by_cases h : l = j
  · subst h
    rw [if_pos rfl, if_pos (by omega), if_pos rfl]; rfl
  · rw [if_neg h, if_neg h, ← List.getD_eq_getElem?_getD, grow_get]; rfl
theorem step_len (cs : List Nat) (l : Nat) : (stepC cs l).length = max cs.length (l + 1) := by
  unfold stepC; rw [List.length_set, grow_len]
theorem steps_get : ∀ (ls cs : List Nat) (j : Nat), (ls.foldl stepC cs).getD j 0 = cs.getD j 0 + ls.count j
  | [], cs, j => rfl
  | l :: r, cs, j => by
    rw [List.foldl_cons, steps_get r, step_get, List.count_cons]
    by_cases h : l = j
    · subst h; simp; omega
    · simp [h]
noncomputable def mx (ls : List Nat) : Nat := ls.foldl (fun m l => max m (l + 1)) 0
theorem steps_len : ∀ (ls cs : List Nat), (ls.foldl stepC cs).length = ls.foldl (fun m l => max m (l + 1)) cs.length
  | [], cs => rfl
  | l :: r, cs => by rw [List.foldl_cons, List.foldl_cons, steps_len r, step_len]
theorem cl_is (ls : List Nat) : cl ls = (List.range (mx ls)).map fun j => ls.count j := by
  have hl : (cl ls).length = mx ls := steps_len ls []
  refine List.ext_getElem (by simp [hl]) fun j h1 h2 => ?_
  have := steps_get ls [] j
  rw [show ([] : List Nat).getD j 0 = 0 from rfl, Nat.zero_add, List.getD_eq_getElem?_getD] at this
  have e : (ls.foldl stepC [])[j]? = some (cl ls)[j] := List.getElem?_eq_getElem h1
  rw [e] at this
  simp only [List.getElem_map, List.getElem_range]
  exact this
theorem mx_perm {l l' : List Nat} (h : l.Perm l') : mx l = mx l' := h.foldl_eq' (fun x _ y _ z => by omega) 0
theorem cl_perm {l l' : List Nat} (h : l.Perm l') : cl l = cl l' := by
  rw [cl_is, cl_is, mx_perm h]
  simp only [h.count_eq]
theorem mx_le (k : Nat) : ∀ (ls : List Nat) (m : Nat), m ≤ k → (∀ l ∈ ls, l < k) → ls.foldl (fun m l => max m (l + 1)) m ≤ k
  | [], m, h, _ => h
  | l :: r, m, h, hl => by
    rw [List.foldl_cons]
    have := hl l List.mem_cons_self
    exact mx_le k r _ (by omega) fun x hx => hl x (List.mem_cons_of_mem _ hx)
theorem le_mx : ∀ (ls : List Nat) (m : Nat), m ≤ ls.foldl (fun m l => max m (l + 1)) m ∧ ∀ l ∈ ls, l < ls.foldl (fun m l => max m (l + 1)) m
  | [], m => ⟨Nat.le_refl _, fun l h => by cases h⟩
  | a :: r, m => by
    rw [List.foldl_cons]
    obtain ⟨h1, h2⟩ := le_mx r (max m (a + 1))
    refine ⟨by omega, fun l hl => ?_⟩
    rcases List.mem_cons.mp hl with rfl | hl
    · omega
    · exact h2 l hl
theorem count_mx (ls : List Nat) (j : Nat) (h : mx ls ≤ j) : ls.count j = 0 := by
  rw [List.count_eq_zero]
  intro m
  have := (le_mx ls 0).2 j m
  unfold mx at h; omega
/-- the value of the counts -/
theorem val_cl (B : Nat) (ls : List Nat) (h : ∀ l ∈ ls, l ≤ 3) : valB B (cl ls) = ls.count 0 + B * (ls.count 1 + B * (ls.count 2 + B * ls.count 3)) := by
  have hm : mx ls ≤ 4 := mx_le 4 ls 0 (by decide) fun l hl => by have := h l hl; omega
  rw [cl_is]
  have z := count_mx ls
  generalize mx ls = n at hm z
  match n, hm, z with
  | 0, _, z => simp [valB, z 0, z 1, z 2, z 3]
  | 1, _, z => simp [List.range_succ, valB, z 1, z 2, z 3]
  | 2, _, z => simp [List.range_succ, valB, z 2, z 3]
  | 3, _, z => simp [List.range_succ, valB, z 3]
  | 4, _, z => simp [List.range_succ, valB]
end
section
open PySem PySem.W PyProof.Rows PySem.Calls
set_option linter.unusedVariables false
set_option maxRecDepth 100000
theorem lacks_lt (ts : List (Nat × Nat)) (k : Nat) : atN (lacksOf ts) k < 8 := by
  unfold atN lacksOf
  rw [List.getD_eq_getElem?_getD, List.getElem?_map]
  cases (setsOf ts)[k]? with
  | none => simp
  | some S =>
    have : lackOf ts S ≤ (cuts ts).length := List.length_filter_le _ _
    have e : (cuts ts).length = 7 := rfl
    simp only [Option.map_some, Option.getD_some]; omega
theorem lead_pairs (ts : List (Nat × Nat)) : leadText (pairsOf ts) = (levC ts.length (treesOf ts)).flatMap chunk := by
  unfold pairsOf
  rw [lead_chunks _ (fun j => ((atN (firstsOf ts) j : Nat) : Int)) (fun j => atN (lacksOf ts) (atN (threesOf ts) j)) fun j _ => lacks_lt ts _]
  congr 1
  have hthr : ∀ k < (threesOf ts).length, (((atN (firstsOf ts) k : Nat) : Int)).toNat = (fun k => if decide (atN (lacksOf ts) k = 0) = true then outTo (atN (setsOf ts) k) (treesOf ts) ts.length else 0) (atN (threesOf ts) k) := fun k hk => by
    rw [Int.toNat_natCast]
    exact atN_map _ _ _ hk
  rw [gather (threesOf ts) _ (fun k => decide (atN (lacksOf ts) k = 0)) _ (fun k => if decide (atN (lacksOf ts) k = 0) = true then outTo (atN (setsOf ts) k) (treesOf ts) ts.length else 0) (fun k _ => rfl) hthr]
  unfold levC treesOf
  rw [List.map_map]
  refine List.map_congr_left fun k hk => ?_
  have := (List.mem_filter.mp hk).2
  show (if decide (atN (lacksOf ts) k = 0) = true then _ else 0) = _
  rw [if_pos this]; rfl
/-! the sand: the lists of neighbours count, not their order -/
theorem bump_comm (c : List Int) (i j : Nat) : bump (bump c i) j = bump (bump c j) i := by
  unfold bump
  by_cases h : i = j
  · subst h; rfl
  · rw [List.set_comm _ _ h]
    congr 1
    · congr 1
      rw [List.getD_eq_getElem?_getD, List.getD_eq_getElem?_getD, List.getElem?_set_ne h]; rfl
    · rw [List.getD_eq_getElem?_getD, List.getD_eq_getElem?_getD, List.getElem?_set_ne (Ne.symm h)]
structure Sim (near near' : List (List Nat)) : Prop where
  sim : ∀ k, (near.getD k []).Perm (near'.getD k [])
section
variable {near near' : List (List Nat)} (S : Sim near near')
include S
theorem Sim.deg (k : Nat) : deg near k = deg near' k := (S.sim k).length_eq
theorem Sim.fire1 : fire1 near = fire1 near' := by
  funext c k
  unfold Mine.fire1
  rw [(S.sim k).length_eq]
  exact (S.sim k).foldl_eq' (fun x _ y _ z => bump_comm z x y) _
theorem Sim.fires : firesOf near = firesOf near' := by
  funext c
  unfold firesOf
  simp only [(S.sim _).length_eq]
theorem Sim.turns (row : List Nat) : ∀ i, turnsN near row i = turnsN near' row i
  | 0 => rfl
  | i + 1 => by rw [turnsN, turnsN, Sim.turns row i]; unfold turn; rw [S.fire1, S.fires]
theorem Sim.stopF (row : List Nat) : ∀ f i, stopFrom near row f i = stopFrom near' row f i
  | 0, i => rfl
  | f + 1, i => by unfold stopFrom; rw [S.turns row i, Sim.stopF row f (i + 1)]
theorem Sim.stop (row : List Nat) : stopN near row = stopN near' row := S.stopF row 60 0
theorem Sim.again (row : List Nat) : againOf near row = againOf near' row := by unfold againOf; rw [S.stop, S.turns]
theorem Sim.sand (many : Nat) : sandOf near many = sandOf near' many := by
  unfold sandOf sandI sandJ sandK sandPair astrayOf
  simp only [S.deg, S.again]
end
theorem near_sim {ts ts' : List (Nat × Nat)} (h : ts.Perm ts') : Sim (nearOf ts) (nearOf ts') := ⟨fun k => by
  have hh : (hds ts).Perm (hds ts') := h.flatMap_right _
  unfold nearOf
  rw [List.getD_eq_getElem?_getD, List.getD_eq_getElem?_getD, List.getElem?_map, List.getElem?_map]
  cases ([65, 98, 67, 100] : List Nat)[k]? with
  | none => exact List.Perm.refl _
  | some c => exact (hh.filter _).map _⟩
/-! a quick game -/
noncomputable def add3 (f : Bool) (a : Nat) : Nat := cond f a 0
/-- 0: no end; 1: the row again; 2: another row -/
noncomputable def goF (d1 d2 d3 m11 m12 m13 m21 m22 m23 m31 m32 m33 r1 r2 r3 : Nat) : Nat → Nat → Nat → Nat → Nat
  | 0, _, _, _ => 0
  | f + 1, x1, x2, x3 =>
    (fun a b c => cond (a || b || c)
      (goF d1 d2 d3 m11 m12 m13 m21 m22 m23 m31 m32 m33 r1 r2 r3 f (x1 - add3 a d1 + (add3 a m11 + add3 b m21 + add3 c m31)) (x2 - add3 b d2 + (add3 a m12 + add3 b m22 + add3 c m32)) (x3 - add3 c d3 + (add3 a m13 + add3 b m23 + add3 c m33)))
      (cond (Nat.beq x1 r1 && Nat.beq x2 r2 && Nat.beq x3 r3) 1 2)) (Nat.ble d1 x1) (Nat.ble d2 x2) (Nat.ble d3 x3)
theorem bump4 : ∀ (l : List Nat) (p q r s : Int), (∀ j ∈ l, j < 4) → l.foldl bump [p, q, r, s] = [p + l.count 0, q + l.count 1, r + l.count 2, s + l.count 3]
  | [], p, q, r, s, _ => by simp
  | j :: l, p, q, r, s, h => by
    have hj := h j List.mem_cons_self
    rw [List.foldl_cons]
    have ih := fun p q r s => bump4 l p q r s fun x hx => h x (List.mem_cons_of_mem _ hx)
    match j, hj with
    | 0, _ => show l.foldl bump [p + 1, q, r, s] = _; rw [ih]; simp; omega
    | 1, _ => show l.foldl bump [p, q + 1, r, s] = _; rw [ih]; simp; omega
    | 2, _ => show l.foldl bump [p, q, r + 1, s] = _; rw [ih]; simp; omega
    | 3, _ => show l.foldl bump [p, q, r, s + 1] = _; rw [ih]; simp; omega
noncomputable def mc (near : List (List Nat)) (k j : Nat) : Nat := (near.getD k []).count j
noncomputable def dF (f : Bool) (a : Nat) : Int := if f then (a : Int) else 0
noncomputable def goN (near : List (List Nat)) (row : List Nat) : Nat → Nat → Nat → Nat → Nat := goF (deg near 1) (deg near 2) (deg near 3) (mc near 1 1) (mc near 1 2) (mc near 1 3) (mc near 2 1) (mc near 2 2) (mc near 2 3) (mc near 3 1) (mc near 3 2) (mc near 3 3) (row.getD 0 0) (row.getD 1 0) (row.getD 2 0)
section
variable {near : List (List Nat)} (ok : ∀ k, ∀ j ∈ near.getD k [], j < 4)
include ok
theorem fire_1 (p x1 x2 x3 : Int) : fire1 near [p, x1, x2, x3] 1 = [p + mc near 1 0, x1 - deg near 1 + mc near 1 1, x2 + mc near 1 2, x3 + mc near 1 3] := bump4 _ _ _ _ _ (ok 1)
theorem fire_2 (p x1 x2 x3 : Int) : fire1 near [p, x1, x2, x3] 2 = [p + mc near 2 0, x1 + mc near 2 1, x2 - deg near 2 + mc near 2 2, x3 + mc near 2 3] := bump4 _ _ _ _ _ (ok 2)
theorem fire_3 (p x1 x2 x3 : Int) : fire1 near [p, x1, x2, x3] 3 = [p + mc near 3 0, x1 + mc near 3 1, x2 + mc near 3 2, x3 - deg near 3 + mc near 3 3] := bump4 _ _ _ _ _ (ok 3)
theorem fires_is (p : Int) (x1 x2 x3 : Nat) : firesOf near [p, x1, x2, x3] = (if Nat.ble (deg near 1) x1 then [1] else []) ++ (if Nat.ble (deg near 2) x2 then [2] else []) ++ (if Nat.ble (deg near 3) x3 then [3] else []) := by
  have h : ∀ d x : Nat, decide ((d : Int) ≤ (x : Int)) = Nat.ble d x := fun d x => by
    rw [Bool.eq_iff_iff, decide_eq_true_eq, Nat.ble_eq]; omega
  show [1, 2, 3].filter (fun k => decide ((deg near k : Int) ≤ [p, x1, x2, x3].getD k 0)) = _
  have e1 : decide ((deg near 1 : Int) ≤ [p, (x1 : Int), x2, x3].getD 1 0) = Nat.ble (deg near 1) x1 := h _ _
  have e2 : decide ((deg near 2 : Int) ≤ [p, (x1 : Int), x2, x3].getD 2 0) = Nat.ble (deg near 2) x2 := h _ _
  have e3 : decide ((deg near 3 : Int) ≤ [p, (x1 : Int), x2, x3].getD 3 0) = Nat.ble (deg near 3) x3 := h _ _
  rw [List.filter_cons, List.filter_cons, List.filter_cons, List.filter_nil, e1, e2, e3]
  cases Nat.ble (deg near 1) x1 <;> cases Nat.ble (deg near 2) x2 <;> cases Nat.ble (deg near 3) x3 <;> rfl
theorem turn_is (p : Int) (x1 x2 x3 : Nat) : ∃ p' : Int, (firesOf near [p, x1, x2, x3]).foldl (fire1 near) [p, x1, x2, x3] =
    [p', ((x1 - add3 (Nat.ble (deg near 1) x1) (deg near 1) + (add3 (Nat.ble (deg near 1) x1) (mc near 1 1) + add3 (Nat.ble (deg near 2) x2) (mc near 2 1) + add3 (Nat.ble (deg near 3) x3) (mc near 3 1)) : Nat) : Int),
      ((x2 - add3 (Nat.ble (deg near 2) x2) (deg near 2) + (add3 (Nat.ble (deg near 1) x1) (mc near 1 2) + add3 (Nat.ble (deg near 2) x2) (mc near 2 2) + add3 (Nat.ble (deg near 3) x3) (mc near 3 2)) : Nat) : Int),
      ((x3 - add3 (Nat.ble (deg near 3) x3) (deg near 3) + (add3 (Nat.ble (deg near 1) x1) (mc near 1 3) + add3 (Nat.ble (deg near 2) x2) (mc near 2 3) + add3 (Nat.ble (deg near 3) x3) (mc near 3 3)) : Nat) : Int)] := by
  rw [fires_is ok]
  cases h1 : Nat.ble (deg near 1) x1 <;> cases h2 : Nat.ble (deg near 2) x2 <;> cases h3 : Nat.ble (deg near 3) x3
  all_goals
    first | have g1 := Nat.le_of_ble_eq_true h1 | skip
    first | have g2 := Nat.le_of_ble_eq_true h2 | skip
    first | have g3 := Nat.le_of_ble_eq_true h3 | skip
    simp only [if_true, if_false, Bool.false_eq_true, List.nil_append, List.append_nil, List.cons_append, List.foldl_cons, List.foldl_nil, fire_1 ok, fire_2 ok, fire_3 ok, add3, cond_true, cond_false]
    refine ⟨_, congrArg (List.cons _) ?_⟩
    refine congr (congrArg List.cons ?_) (congr (congrArg List.cons ?_) (congrArg (fun x => [x]) ?_)) <;> omega
/-- what the quick game says -/
theorem go_is (row : List Nat) : ∀ (f i : Nat) (p : Int) (x1 x2 x3 : Nat), (turnsN near row (i + 1)).1 = [p, x1, x2, x3] → goN near row f x1 x2 x3 ≠ 0 →
    ∃ N, N < f ∧ (turnsN near row (i + 1 + N)).2 = [] ∧ ∃ (q : Int) (y1 y2 y3 : Nat), (turnsN near row (i + 1 + N)).1 = [q, y1, y2, y3] ∧ goN near row f x1 x2 x3 = if y1 = row.getD 0 0 ∧ y2 = row.getD 1 0 ∧ y3 = row.getD 2 0 then 1 else 2
  | 0, i, p, x1, x2, x3, h, g => absurd rfl g
  | f + 1, i, p, x1, x2, x3, h, g => by
    have hf : (turnsN near row (i + 1)).2 = firesOf near (turnsN near row (i + 1)).1 := rfl
    rw [h] at hf
    have hF := fires_is ok p x1 x2 x3
    by_cases c : (Nat.ble (deg near 1) x1 || Nat.ble (deg near 2) x2 || Nat.ble (deg near 3) x3) = true
    · obtain ⟨p', e⟩ := turn_is ok p x1 x2 x3
      have h' : (turnsN near row (i + 1 + 1)).1 = (turnsN near row (i + 1)).2.foldl (fire1 near) (turnsN near row (i + 1)).1 := rfl
      rw [hf, h, e] at h'
      have eg : goN near row (f + 1) x1 x2 x3 = goN near row f _ _ _ := (show goN near row (f + 1) x1 x2 x3 = cond (Nat.ble (deg near 1) x1 || Nat.ble (deg near 2) x2 || Nat.ble (deg near 3) x3) (goN near row f _ _ _) _ from rfl).trans (by rw [c, cond_true])
      rw [eg] at g
      obtain ⟨N, hN, e1, q, y1, y2, y3, e2, e3⟩ := go_is row f (i + 1) p' _ _ _ h' g
      rw [eg]
      refine ⟨N + 1, by omega, ?_, q, y1, y2, y3, ?_, e3⟩
      · rw [show i + 1 + (N + 1) = i + 1 + 1 + N by omega]; exact e1
      · rw [show i + 1 + (N + 1) = i + 1 + 1 + N by omega]; exact e2
    · have c : (Nat.ble (deg near 1) x1 || Nat.ble (deg near 2) x2 || Nat.ble (deg near 3) x3) = false := Bool.eq_false_iff.mpr c
      have eg : goN near row (f + 1) x1 x2 x3 = cond (Nat.beq x1 (row.getD 0 0) && Nat.beq x2 (row.getD 1 0) && Nat.beq x3 (row.getD 2 0)) 1 2 := (show goN near row (f + 1) x1 x2 x3 = cond (Nat.ble (deg near 1) x1 || Nat.ble (deg near 2) x2 || Nat.ble (deg near 3) x3) _ _ from rfl).trans (by rw [c, cond_false])
      rw [Bool.or_eq_false_iff, Bool.or_eq_false_iff] at c
      refine ⟨0, by omega, ?_, p, x1, x2, x3, h, ?_⟩
      · show (turnsN near row (i + 1)).2 = []
        rw [hf, hF, c.1.1, c.1.2, c.2]; rfl
      · rw [eg]
        have nb : ∀ a b : Nat, Nat.beq a b = decide (a = b) := fun a b => by rw [Bool.eq_iff_iff, decide_eq_true_eq, Nat.beq_eq]
        rw [nb, nb, nb]
        by_cases y : x1 = row.getD 0 0 ∧ x2 = row.getD 1 0 ∧ x3 = row.getD 2 0
        · rw [if_pos y]; simp [y.1, y.2.1, y.2.2]
        · rw [if_neg y]
          have : (decide (x1 = row.getD 0 0) && decide (x2 = row.getD 1 0) && decide (x3 = row.getD 2 0)) = false := by
            rw [Bool.eq_false_iff]
            intro z
            simp only [Bool.and_eq_true, decide_eq_true_eq] at z
            exact y ⟨z.1.1, z.1.2, z.2⟩
          rw [this]; rfl
end
end
section
open PySem PySem.W PyProof.Rows PySem.Calls
set_option linter.unusedVariables false
set_option maxRecDepth 100000
noncomputable def rowsOf (d1 d2 d3 : Nat) : List (Nat × Nat × Nat) := (List.range d1).flatMap fun i => (List.range d2).flatMap fun j => (List.range d3).map fun k => (i, j, k)
noncomputable def goR (near : List (List Nat)) (r : Nat × Nat × Nat) : Nat := goN near [r.1, r.2.1, r.2.2] 60 (r.1 + mc near 0 1) (r.2.1 + mc near 0 2) (r.2.2 + mc near 0 3)
noncomputable def levS (near : List (List Nat)) (m : Nat) : List Nat := ((rowsOf (deg near 1) (deg near 2) (deg near 3)).filter fun r => decide (goR near r = 1)).map fun r => r.1 + r.2.1 + r.2.2 + deg near 0 - m
noncomputable def endOk (m : Nat) (sets : List (Nat × Nat)) (E : List (Nat × Nat)) : Bool :=
  let near := nearOf E
  ((rowsOf (deg near 1) (deg near 2) (deg near 3)).all fun r => decide (goR near r ≠ 0)) && agree m (levS near m) (conC sets (csU (colsOf E))) && decide (deg near 0 ≤ 10 ∧ deg near 1 ≤ 10 ∧ deg near 2 ≤ 10 ∧ deg near 3 ≤ 10) && near.all fun l => l.all fun j => decide (j < 4)
/-! quick in the kernel -/
noncomputable def gatF (p : Nat → Nat → Nat → Nat) (lv : Nat → Nat → Nat → Nat) : List (Nat × Nat × Nat) → List Nat → (List Nat → Bool) → Bool
  | [], acc, K => K acc
  | r :: t, acc, K => (fun v => cond (Nat.beq v 0) false (gatF p lv t (cond (Nat.beq v 1) (lv r.1 r.2.1 r.2.2 :: acc) acc) K)) (p r.1 r.2.1 r.2.2)
noncomputable def endF (m : Nat) (sets : List (Nat × Nat)) (E : List (Nat × Nat)) : Bool :=
  (fun near =>
    (fun d0 d1 d2 d3 => cond (Nat.ble d0 10) (cond (Nat.ble d1 10) (cond (Nat.ble d2 10) (cond (Nat.ble d3 10) (cond (near.all fun l => l.all fun j => Nat.ble j 3)
      ((fun m11 m12 m13 m21 m22 m23 m31 m32 m33 m01 m02 m03 => gatF (fun i j k => goF d1 d2 d3 m11 m12 m13 m21 m22 m23 m31 m32 m33 i j k 60 (i + m01) (j + m02) (k + m03)) (fun i j k => i + j + k + d0 - m) (rowsOf d1 d2 d3) []
        fun La => agreeF m La (conF (us.map (cutF (colsOf E))) sets)) (mc near 1 1) (mc near 1 2) (mc near 1 3) (mc near 2 1) (mc near 2 2) (mc near 2 3) (mc near 3 1) (mc near 3 2) (mc near 3 3) (mc near 0 1) (mc near 0 2) (mc near 0 3))
      false) false) false) false) false) (deg near 0) (deg near 1) (deg near 2) (deg near 3)) (nearOf E)
noncomputable def allT (P : List (Nat × Nat) → Bool) (more : Bool) (a b c : Nat) : Bool := (List.range 4).all fun o => (List.range 3).all fun e => cond more ((List.range 3).all fun f => P (endsS a b c o e true f)) (P (endsS a b c o e false 0))
theorem allS_of {P : List (Nat × Nat) → Bool} {more : Bool} (h : ∀ a, a < 2 → ∀ b, b < 3 → ∀ c, c < 3 → allT P more a b c = true) : allS P more = true :=
  List.all_eq_true.mpr fun a ha => List.all_eq_true.mpr fun b hb => List.all_eq_true.mpr fun c hc => h a (List.mem_range.mp ha) b (List.mem_range.mp hb) c (List.mem_range.mp hc)
theorem lt2 {q : Nat → Prop} (h0 : q 0) (h1 : q 1) : ∀ n, n < 2 → q n := fun n h => match n, h with | 0, _ => h0 | 1, _ => h1
theorem lt3 {q : Nat → Prop} (h0 : q 0) (h1 : q 1) (h2 : q 2) : ∀ n, n < 3 → q n := fun n h => match n, h with | 0, _ => h0 | 1, _ => h1 | 2, _ => h2
theorem e5000 : allT (endF 5 p5) false 0 0 0 = true := by decide +kernel
theorem e5001 : allT (endF 5 p5) false 0 0 1 = true := by decide +kernel
theorem e5002 : allT (endF 5 p5) false 0 0 2 = true := by decide +kernel
theorem e5010 : allT (endF 5 p5) false 0 1 0 = true := by decide +kernel
theorem e5011 : allT (endF 5 p5) false 0 1 1 = true := by decide +kernel
theorem e5012 : allT (endF 5 p5) false 0 1 2 = true := by decide +kernel
theorem e5020 : allT (endF 5 p5) false 0 2 0 = true := by decide +kernel
theorem e5021 : allT (endF 5 p5) false 0 2 1 = true := by decide +kernel
theorem e5022 : allT (endF 5 p5) false 0 2 2 = true := by decide +kernel
theorem e5100 : allT (endF 5 p5) false 1 0 0 = true := by decide +kernel
theorem e5101 : allT (endF 5 p5) false 1 0 1 = true := by decide +kernel
theorem e5102 : allT (endF 5 p5) false 1 0 2 = true := by decide +kernel
theorem e5110 : allT (endF 5 p5) false 1 1 0 = true := by decide +kernel
theorem e5111 : allT (endF 5 p5) false 1 1 1 = true := by decide +kernel
theorem e5112 : allT (endF 5 p5) false 1 1 2 = true := by decide +kernel
theorem e5120 : allT (endF 5 p5) false 1 2 0 = true := by decide +kernel
theorem e5121 : allT (endF 5 p5) false 1 2 1 = true := by decide +kernel
theorem e5122 : allT (endF 5 p5) false 1 2 2 = true := by decide +kernel
theorem ends5 : allS (endF 5 p5) false = true := allS_of (lt2 (lt3 (lt3 e5000 e5001 e5002) (lt3 e5010 e5011 e5012) (lt3 e5020 e5021 e5022)) (lt3 (lt3 e5100 e5101 e5102) (lt3 e5110 e5111 e5112) (lt3 e5120 e5121 e5122)))
theorem e6000 : allT (endF 6 p6) true 0 0 0 = true := by decide +kernel
theorem e6001 : allT (endF 6 p6) true 0 0 1 = true := by decide +kernel
theorem e6002 : allT (endF 6 p6) true 0 0 2 = true := by decide +kernel
theorem e6010 : allT (endF 6 p6) true 0 1 0 = true := by decide +kernel
theorem e6011 : allT (endF 6 p6) true 0 1 1 = true := by decide +kernel
theorem e6012 : allT (endF 6 p6) true 0 1 2 = true := by decide +kernel
theorem e6020 : allT (endF 6 p6) true 0 2 0 = true := by decide +kernel
theorem e6021 : allT (endF 6 p6) true 0 2 1 = true := by decide +kernel
theorem e6022 : allT (endF 6 p6) true 0 2 2 = true := by decide +kernel
theorem e6100 : allT (endF 6 p6) true 1 0 0 = true := by decide +kernel
theorem e6101 : allT (endF 6 p6) true 1 0 1 = true := by decide +kernel
theorem e6102 : allT (endF 6 p6) true 1 0 2 = true := by decide +kernel
theorem e6110 : allT (endF 6 p6) true 1 1 0 = true := by decide +kernel
theorem e6111 : allT (endF 6 p6) true 1 1 1 = true := by decide +kernel
theorem e6112 : allT (endF 6 p6) true 1 1 2 = true := by decide +kernel
theorem e6120 : allT (endF 6 p6) true 1 2 0 = true := by decide +kernel
theorem e6121 : allT (endF 6 p6) true 1 2 1 = true := by decide +kernel
theorem e6122 : allT (endF 6 p6) true 1 2 2 = true := by decide +kernel
theorem ends6 : allS (endF 6 p6) true = true := allS_of (lt2 (lt3 (lt3 e6000 e6001 e6002) (lt3 e6010 e6011 e6012) (lt3 e6020 e6021 e6022)) (lt3 (lt3 e6100 e6101 e6102) (lt3 e6110 e6111 e6112) (lt3 e6120 e6121 e6122)))
end
section
open PySem PySem.W PyProof.Rows PySem.Calls
set_option linter.unusedVariables false
set_option maxRecDepth 100000
theorem agree_perm {m : Nat} {L L' J J' : List Nat} (h : L.Perm L') (hj : ∀ i, 3 ≤ i → J.count i = J'.count i) (h3 : ∀ j ∈ J', 3 ≤ j ∧ j ≤ m) (g : agree m L J = true) : agree m L' J' = true := by
  unfold agree at g ⊢
  simp only [Bool.and_eq_true, List.all_eq_true, decide_eq_true_eq] at g ⊢
  obtain ⟨⟨⟨a, b⟩, c⟩, d⟩ := g
  simp only [h.count_eq, hj 3 (by decide), hj 4 (by decide), hj 5 (by decide), hj 6 (by decide)] at c d
  exact ⟨⟨⟨fun x hx => a x (h.mem_iff.mpr hx), h3⟩, c⟩, d⟩
theorem gatF_is (p lv : Nat → Nat → Nat → Nat) (K : List Nat → Bool) : ∀ (rows : List (Nat × Nat × Nat)) (acc : List Nat), gatF p lv rows acc K = true →
    (∀ r ∈ rows, p r.1 r.2.1 r.2.2 ≠ 0) ∧ ∃ L, L.Perm (((rows.filter fun r => decide (p r.1 r.2.1 r.2.2 = 1)).map fun r => lv r.1 r.2.1 r.2.2) ++ acc) ∧ K L = true
  | [], acc, h => ⟨fun r hr => (by cases hr), acc, List.Perm.refl _, h⟩
  | r :: t, acc, h => by
    have h : cond (Nat.beq (p r.1 r.2.1 r.2.2) 0) false (gatF p lv t (cond (Nat.beq (p r.1 r.2.1 r.2.2) 1) (lv r.1 r.2.1 r.2.2 :: acc) acc) K) = true := h
    generalize hv : p r.1 r.2.1 r.2.2 = v at h
    by_cases z : v = 0
    · subst z; cases h
    · have : Nat.beq v 0 = false := by rw [Bool.eq_false_iff]; exact fun e => z (Nat.eq_of_beq_eq_true e)
      rw [this, cond_false] at h
      obtain ⟨h1, L, h2, h3⟩ := gatF_is p lv K t _ h
      refine ⟨fun x hx => ?_, L, ?_, h3⟩
      · rcases List.mem_cons.mp hx with rfl | hx
        · rw [hv]; exact z
        · exact h1 x hx
      · refine h2.trans ?_
        rw [List.filter_cons, hv]
        by_cases o : v = 1
        · subst o
          rw [if_pos (by rfl), List.map_cons]
          exact List.perm_middle
        · have : Nat.beq v 1 = false := by rw [Bool.eq_false_iff]; exact fun e => o (Nat.eq_of_beq_eq_true e)
          rw [this, cond_false, if_neg (by simpa using o)]
theorem endF_ok {m : Nat} {sets : List (Nat × Nat)} {E : List (Nat × Nat)} (h : endF m sets E = true) :
    (∀ r ∈ rowsOf (deg (nearOf E) 1) (deg (nearOf E) 2) (deg (nearOf E) 3), goR (nearOf E) r ≠ 0) ∧ agree m (levS (nearOf E) m) (conC sets (csU (colsOf E))) = true ∧ (deg (nearOf E) 0 ≤ 10 ∧ deg (nearOf E) 1 ≤ 10 ∧ deg (nearOf E) 2 ≤ 10 ∧ deg (nearOf E) 3 ≤ 10) ∧ ∀ l ∈ nearOf E, ∀ j ∈ l, j < 4 := by
  have cnd : ∀ {a b : Bool}, cond a b false = true → a = true ∧ b = true := fun {a b} h => by cases a <;> simp_all
  unfold endF at h
  obtain ⟨a0, h⟩ := cnd h
  obtain ⟨a1, h⟩ := cnd h
  obtain ⟨a2, h⟩ := cnd h
  obtain ⟨a3, h⟩ := cnd h
  obtain ⟨a4, h⟩ := cnd h
  obtain ⟨h1, L, h2, h3⟩ := gatF_is _ _ _ _ _ h
  rw [List.append_nil] at h2
  refine ⟨h1, ?_, ⟨Nat.le_of_ble_eq_true a0, Nat.le_of_ble_eq_true a1, Nat.le_of_ble_eq_true a2, Nat.le_of_ble_eq_true a3⟩, fun l hl j hj => ?_⟩
  · have e : us.map (cutF (colsOf E)) = csU (colsOf E) := by unfold csU; simp only [funext (cutF_eq (colsOf E))]
    rw [conF_eq, e] at h3
    have g := agreeF_eq _ _ _ h3
    refine agree_perm (J := conC sets (csU (colsOf E))) h2 (fun _ _ => rfl) ?_ g
    unfold agree at g
    simp only [Bool.and_eq_true, List.all_eq_true, decide_eq_true_eq] at g
    exact g.1.1.2
  · rw [List.all_eq_true] at a4
    have := a4 l hl
    rw [List.all_eq_true] at this
    have := Nat.le_of_ble_eq_true (this j hj)
    omega
/-! the game ends where the quick one does -/
theorem stopFrom_stop (near : List (List Nat)) (row : List Nat) : ∀ (f i M : Nat), i ≤ M → M ≤ i + f → (turnsN near row M).2 = [] → (turnsN near row (stopFrom near row f i)).2 = [] ∧ stopFrom near row f i ≤ M
  | 0, i, M, h1, h2, h => by
    have : M = i := by omega
    subst this
    exact ⟨h, Nat.le_refl _⟩
  | f + 1, i, M, h1, h2, h => by
    unfold stopFrom
    by_cases e : (turnsN near row i).2 = []
    · rw [if_pos e]; exact ⟨e, h1⟩
    · rw [if_neg e]
      have : i ≠ M := fun x => e (x ▸ h)
      exact stopFrom_stop near row f (i + 1) M (by omega) (by omega) h
theorem turns_stay (near : List (List Nat)) (row : List Nat) (i : Nat) (h : (turnsN near row (i + 1)).2 = []) : ∀ k, (turnsN near row (i + 1 + k)).1 = (turnsN near row (i + 1)).1 ∧ (turnsN near row (i + 1 + k)).2 = []
  | 0 => ⟨rfl, h⟩
  | k + 1 => by
    obtain ⟨h1, h2⟩ := turns_stay near row i h k
    have e : turnsN near row (i + 1 + (k + 1)) = turn near (turnsN near row (i + 1 + k)) := rfl
    have e1 : (turn near (turnsN near row (i + 1 + k))).1 = (turnsN near row (i + 1)).1 := by
      unfold turn; rw [h2]; exact h1
    rw [e]
    refine ⟨e1, ?_⟩
    show firesOf near (turn near (turnsN near row (i + 1 + k))).1 = []
    rw [e1]
    exact h
theorem sand_row {near : List (List Nat)} (ok : ∀ k, ∀ j ∈ near.getD k [], j < 4) (i j k : Nat) (h : goR near (i, j, k) ≠ 0) :
    (turnsN near [i, j, k] (stopN near [i, j, k])).2 = [] ∧ (againOf near [i, j, k]).length = 3 ∧ decide (astrayOf near [i, j, k] = 0) = decide (goR near (i, j, k) = 1) := by
  have h0 : (turnsN near [i, j, k] 1).1 = [0 - (deg near 0 : Int) + mc near 0 0, ((i + mc near 0 1 : Nat) : Int), ((j + mc near 0 2 : Nat) : Int), ((k + mc near 0 3 : Nat) : Int)] := by
    show (near.getD 0 []).foldl bump [0 - (deg near 0 : Int), (i : Int), (j : Int), (k : Int)] = _
    rw [bump4 _ _ _ _ _ (ok 0)]
    unfold mc
    simp
  obtain ⟨N, hN, e1, q, y1, y2, y3, e2, e3⟩ := go_is ok [i, j, k] 60 0 _ _ _ _ h0 h
  obtain ⟨s1, s2⟩ := stopFrom_stop near [i, j, k] 60 0 (0 + 1 + N) (by omega) (by omega) e1
  have s1 : (turnsN near [i, j, k] (stopN near [i, j, k])).2 = [] := s1
  have ne : stopN near [i, j, k] ≠ 0 := fun e => by rw [e] at s1; cases s1
  obtain ⟨p, hp⟩ : ∃ p, stopN near [i, j, k] = p + 1 := ⟨stopN near [i, j, k] - 1, by omega⟩
  have s2 : stopN near [i, j, k] ≤ 0 + 1 + N := s2
  have st := (turns_stay near [i, j, k] p (by rw [← hp]; exact s1) (0 + 1 + N - (p + 1))).1
  rw [show p + 1 + (0 + 1 + N - (p + 1)) = 0 + 1 + N by omega, ← hp, e2] at st
  have ag : againOf near [i, j, k] = [(y1 : Int), y2, y3] := by unfold againOf; rw [← st]; rfl
  refine ⟨s1, by rw [ag]; rfl, ?_⟩
  have e3 : goR near (i, j, k) = if y1 = i ∧ y2 = j ∧ y3 = k then 1 else 2 := e3
  rw [e3]
  unfold astrayOf
  rw [ag]
  rw [Bool.eq_iff_iff, decide_eq_true_eq, decide_eq_true_eq, List.length_eq_zero_iff, List.filter_eq_nil_iff]
  constructor
  · intro x
    have x0 := x 0 (by decide)
    have x1 := x 1 (by decide)
    have x2 := x 2 (by decide)
    simp at x0 x1 x2
    rw [if_pos ⟨by omega, by omega, by omega⟩]
  · intro x
    by_cases y : y1 = i ∧ y2 = j ∧ y3 = k
    · obtain ⟨rfl, rfl, rfl⟩ := y
      intro a ha
      have : a < 3 := List.mem_range.mp ha
      match a, this with
      | 0, _ => simp
      | 1, _ => simp
      | 2, _ => simp
    · rw [if_neg y] at x; cases x
theorem sand_rows (near : List (List Nat)) (many : Nat) : sandOf near many = (rowsOf (deg near 1) (deg near 2) (deg near 3)).map fun r => mkPair (((r.1 + r.2.1 + r.2.2 + deg near 0 : Nat) : Int) - many) (astrayOf near [r.1, r.2.1, r.2.2]) := by
  unfold sandOf sandI sandJ sandK rowsOf
  rw [List.map_flatMap]
  congr 1
  funext i
  rw [List.map_flatMap]
  congr 1
  funext j
  rw [List.map_map]; rfl
theorem astray_lt (near : List (List Nat)) (row : List Nat) : astrayOf near row < 8 := Nat.lt_of_le_of_lt (List.length_filter_le _ _) (by simp)
theorem lead_sand {near : List (List Nat)} (ok : ∀ k, ∀ j ∈ near.getD k [], j < 4) (many : Nat) (h : ∀ r ∈ rowsOf (deg near 1) (deg near 2) (deg near 3), goR near r ≠ 0) : leadText (sandOf near many) = (levS near many).flatMap chunk := by
  rw [sand_rows, lead_chunks (α := Nat × Nat × Nat) (rowsOf (deg near 1) (deg near 2) (deg near 3)) (fun (r : Nat × Nat × Nat) => ((r.1 + r.2.1 + r.2.2 + deg near 0 : Nat) : Int) - many) (fun (r : Nat × Nat × Nat) => astrayOf near [r.1, r.2.1, r.2.2]) fun r _ => astray_lt _ _]
  congr 1
  unfold levS
  rw [List.filter_congr fun r hr => (sand_row ok r.1 r.2.1 r.2.2 (h r hr)).2.2]
  refine List.map_congr_left fun r _ => ?_
  omega
theorem rows_mem {d1 d2 d3 i j k : Nat} (hi : i < d1) (hj : j < d2) (hk : k < d3) : (i, j, k) ∈ rowsOf d1 d2 d3 :=
  List.mem_flatMap.mpr ⟨i, List.mem_range.mpr hi, List.mem_flatMap.mpr ⟨j, List.mem_range.mpr hj, List.mem_map.mpr ⟨k, List.mem_range.mpr hk, rfl⟩⟩⟩
theorem agree_len {m : Nat} {L J : List Nat} (hm : m ≤ 6) (g : agree m L J = true) : (∀ l ∈ L, l ≤ 3) ∧ L.length ≤ 60 := by
  unfold agree at g
  simp only [Bool.and_eq_true, List.all_eq_true, decide_eq_true_eq] at g
  obtain ⟨⟨⟨a, b⟩, c⟩, d⟩ := g
  have h3 : ∀ l ∈ L, l ≤ 3 := fun l hl => by have := a l hl; omega
  refine ⟨h3, ?_⟩
  have e : ∀ L : List Nat, (∀ l ∈ L, l ≤ 3) → L.length = L.count 0 + L.count 1 + L.count 2 + L.count 3 := by
    intro L
    induction L with
    | nil => intro _; rfl
    | cons x r ih =>
      intro h
      have := ih fun y hy => h y (List.mem_cons_of_mem _ hy)
      have hx := h x List.mem_cons_self
      rw [List.length_cons, this]
      match x, hx with
      | 0, _ => simp; omega
      | 1, _ => simp; omega
      | 2, _ => simp; omega
      | 3, _ => simp; omega
  rw [e L h3]
  omega
theorem chunks_len (L : List Nat) (h3 : ∀ l ∈ L, l ≤ 3) : (L.flatMap chunk).length ≤ 4 * L.length := by
  induction L with
  | nil => simp
  | cons x r ih =>
    have := ih fun y hy => h3 y (List.mem_cons_of_mem _ hy)
    have hx := h3 x List.mem_cons_self
    have hc : (chunk x).length = x + 1 := by simp [chunk]
    rw [List.flatMap_cons, List.length_append, List.length_cons, hc]
    omega
theorem chunks_chars (L : List Nat) : ∀ c ∈ L.flatMap chunk, c = 32 ∨ c = 9 := fun c hc => by
  obtain ⟨l, _, h⟩ := List.mem_flatMap.mp hc
  unfold chunk at h
  rcases List.mem_append.mp h with h | h
  · exact .inl (List.mem_replicate.mp h).2
  · exact .inr (by simpa using h)
/-- the same counts from the same connected sets -/
theorem agree_same {m : Nat} {L L' J J' : List Nat} (hm : m ≤ 6) (g : agree m L J = true) (g' : agree m L' J' = true) (hj : ∀ i, 3 ≤ i → J.count i = J'.count i) : L.Perm L' := by
  have a3 := (agree_len hm g).1
  have b3 := (agree_len hm g').1
  unfold agree at g g'
  simp only [Bool.and_eq_true, List.all_eq_true, decide_eq_true_eq] at g g'
  have d := g.2
  have d' := g'.2
  have j3 := hj 3 (by decide)
  have j4 := hj 4 (by decide)
  have j5 := hj 5 (by decide)
  have j6 := hj 6 (by decide)
  rw [List.perm_iff_count]
  intro x
  by_cases hx : x ≤ 3
  · match x, hx with
    | 0, _ => omega
    | 1, _ => omega
    | 2, _ => omega
    | 3, _ => omega
  · rw [List.count_eq_zero.mpr fun h => hx (a3 x h), List.count_eq_zero.mpr fun h => hx (b3 x h)]
end
section
open PySem PySem.W PyProof.Rows PySem.Calls
set_option linter.unusedVariables false
set_option maxRecDepth 100000
section
variable {near near' : List (List Nat)} (S : Sim near near')
include S
theorem Sim.mc (k j : Nat) : mc near k j = mc near' k j := (S.sim k).count_eq j
theorem Sim.goR (r : Nat × Nat × Nat) : goR near r = goR near' r := by unfold Mine.goR goN; simp only [S.mc, S.deg]
theorem Sim.lev (m : Nat) : levS near m = levS near' m := by unfold levS; simp only [S.goR, S.deg]
end
/-- all that the kernel saw of the ends -/
theorem ends_ok (d : List Nat) (more : Bool) :
    (∀ r ∈ rowsOf (deg (nearOf (endsOf d more)) 1) (deg (nearOf (endsOf d more)) 2) (deg (nearOf (endsOf d more)) 3), goR (nearOf (endsOf d more)) r ≠ 0) ∧ agree (endsOf d more).length (levS (nearOf (endsOf d more)) (endsOf d more).length) (joinsOf (endsOf d more)) = true ∧
    (deg (nearOf (endsOf d more)) 0 ≤ 10 ∧ deg (nearOf (endsOf d more)) 1 ≤ 10 ∧ deg (nearOf (endsOf d more)) 2 ≤ 10 ∧ deg (nearOf (endsOf d more)) 3 ≤ 10) ∧ ∀ l ∈ nearOf (endsOf d more), ∀ j ∈ l, j < 4 := by
  cases more
  · have h := endF_ok (allS_ends ends5 d)
    rw [joins_con, endsOf_length, if_neg (by decide), p5_is]
    exact h
  · have h := endF_ok (allS_ends ends6 d)
    rw [joins_con, endsOf_length, if_pos rfl, p6_is]
    exact h
section
variable (d : List Nat) (more : Bool)
theorem near_four (ts : List (Nat × Nat)) (k : Nat) (h : 4 ≤ k) : (nearOf ts).getD k [] = [] := by
  rw [List.getD_eq_getElem?_getD, List.getElem?_eq_none (by simp [nearOf]; omega)]; rfl
theorem near_mem (ts : List (Nat × Nat)) (k : Nat) (h : k < 4) : (nearOf ts).getD k [] ∈ nearOf ts := by
  rw [List.getD_eq_getElem?_getD, List.getElem?_eq_getElem (show k < (nearOf ts).length by simpa [nearOf] using h)]; simp
theorem ties_sim : Sim (nearOf (tiesOf d more)) (nearOf (endsOf d more)) := near_sim (ties_perm d more)
theorem ties_lt (k : Nat) : ∀ j ∈ (nearOf (tiesOf d more)).getD k [], j < 4 := fun j hj => by
  have hj := ((ties_sim d more).sim k).mem_iff.mp hj
  by_cases h : k < 4
  · exact (ends_ok d more).2.2.2 _ (near_mem _ k h) j hj
  · rw [near_four _ k (by omega)] at hj; cases hj
theorem ties_deg (k : Nat) : deg (nearOf (tiesOf d more)) k ≤ 10 := by
  rw [(ties_sim d more).deg]
  obtain ⟨h0, h1, h2, h3⟩ := (ends_ok d more).2.2.1
  match k with
  | 0 => exact h0
  | 1 => exact h1
  | 2 => exact h2
  | 3 => exact h3
  | k + 4 => unfold deg; rw [near_four _ _ (by omega)]; simp
theorem ties_nearOk : NearOk (nearOf (tiesOf d more)) := ⟨rfl, fun l hl => by
  obtain ⟨k, hk, e⟩ := List.mem_iff_getElem.mp hl
  have e : (nearOf (tiesOf d more)).getD k [] = l := by rw [List.getD_eq_getElem?_getD, List.getElem?_eq_getElem hk, e]; rfl
  have h1 := ties_deg d more k
  have h2 := ties_lt d more k
  unfold deg at h1
  rw [e] at h1 h2
  exact ⟨by omega, h2⟩⟩
theorem ties_rows : ∀ r ∈ rowsOf (deg (nearOf (tiesOf d more)) 1) (deg (nearOf (tiesOf d more)) 2) (deg (nearOf (tiesOf d more)) 3), goR (nearOf (tiesOf d more)) r ≠ 0 := by
  have S := ties_sim d more
  rw [S.deg, S.deg, S.deg]
  intro r hr
  rw [S.goR]
  exact (ends_ok d more).1 r hr
theorem ties_again (i j k : Nat) (hi : i < deg (nearOf (tiesOf d more)) 1) (hj : j < deg (nearOf (tiesOf d more)) 2) (hk : k < deg (nearOf (tiesOf d more)) 3) :
    (turnsN (nearOf (tiesOf d more)) [i, j, k] (stopN (nearOf (tiesOf d more)) [i, j, k])).2 = [] ∧ (againOf (nearOf (tiesOf d more)) [i, j, k]).length = 3 :=
  let h := sand_row (ties_lt d more) i j k (ties_rows d more _ (rows_mem hi hj hk))
  ⟨h.1, h.2.1⟩
noncomputable def lvS : List Nat := levS (nearOf (tiesOf d more)) (tiesOf d more).length
noncomputable def lvL : List Nat := levC (tiesOf d more).length (treesOf (tiesOf d more))
theorem ties_len6 : (tiesOf d more).length ≤ 6 := by rw [ties_length]; split <;> omega
theorem lead_lvS : leadText (sandOf (nearOf (tiesOf d more)) (tiesOf d more).length) = (lvS d more).flatMap chunk := lead_sand (ties_lt d more) _ (ties_rows d more)
theorem lead_lvL : leadText (pairsOf (tiesOf d more)) = (lvL d more).flatMap chunk := lead_pairs _
theorem agree_lvL : agree (tiesOf d more).length (lvL d more) (joinsOf (tiesOf d more)) = true := agree_ties d more
theorem agree_lvS : agree (tiesOf d more).length (lvS d more) (joinsOf (endsOf d more)) = true := by
  unfold lvS
  rw [(ties_sim d more).lev, (ties_perm d more).length_eq]
  exact (ends_ok d more).2.1
theorem lv_same : cl (lvS d more) = cl (lvL d more) := cl_perm (agree_same (ties_len6 d more) (agree_lvS d more) (agree_lvL d more) fun i hi => (joins_perm (ties_perm d more) i hi).symm)
end
/-! the numbers -/
theorem spread (z c0 c1 c2 c3 : Nat) : c0 + (z + 1) * (c1 + (z + 1) * (c2 + (z + 1) * c3)) = (c0 + c1 + c2 + c3) + z * ((c1 + 2 * c2 + 3 * c3) + z * ((c2 + 3 * c3) + z * c3)) := by
  grind
theorem due_is {m : Nat} {L J : List Nat} (hm : m = 5 ∨ m = 6) (g : agree m L J = true) (w : Nat) (hw : 6 ≤ w) :
    restsTo (undigs w (cl L)) (2 ^ w - 1) (m - 2) ++ [undigs w (cl L) / (2 ^ w - 1) ^ (m - 2)] = ((List.range (m - 2)).map fun k => J.count (3 + k)) ++ [0] := by
  have h3 := (agree_len (by omega) g).1
  unfold agree at g
  simp only [Bool.and_eq_true, List.all_eq_true, decide_eq_true_eq] at g
  obtain ⟨⟨⟨a, b⟩, c⟩, dd⟩ := g
  have hB : 64 ≤ 2 ^ w := Nat.le_trans (by decide) (Nat.pow_le_pow_right (by decide : 0 < 2) hw)
  obtain ⟨z, hz⟩ : ∃ z, 2 ^ w = z + 1 := ⟨2 ^ w - 1, by omega⟩
  have hz63 : 63 ≤ z := by omega
  rw [undigs_val, val_cl _ _ h3, hz, spread, Nat.add_sub_cancel]
  rw [← dd.1, ← dd.2.1, ← dd.2.2.1, ← dd.2.2.2]
  rcases hm with rfl | rfl
  · have j6 : J.count 6 = 0 := List.count_eq_zero.mpr fun m => by have := b 6 m; omega
    have r := restsTo_val z [J.count 3, J.count 4, J.count 5] fun x hx => by simp at hx; omega
    simp only [valB, Nat.mul_zero, Nat.add_zero] at r
    rw [j6, Nat.mul_zero, Nat.add_zero]
    have r1 := r.1
    have r2 := r.2
    simp only [List.length_cons, List.length_nil] at r1 r2
    rw [show 5 - 2 = 0 + 1 + 1 + 1 from rfl, r1, r2]; rfl
  · have r := restsTo_val z [J.count 3, J.count 4, J.count 5, J.count 6] fun x hx => by simp at hx; omega
    simp only [valB, Nat.mul_zero, Nat.add_zero] at r
    have r1 := r.1
    have r2 := r.2
    simp only [List.length_cons, List.length_nil] at r1 r2
    rw [show 6 - 2 = 0 + 1 + 1 + 1 + 1 from rfl, r1, r2]; rfl
theorem cl_len (L : List Nat) (h : ∀ l ∈ L, l ≤ 3) : (cl L).length ≤ 4 := by
  rw [cl_is, List.length_map, List.length_range]
  exact mx_le 4 L 0 (by decide) fun l hl => by have := h l hl; omega
theorem cl_lt {m : Nat} {L J : List Nat} (hm : m ≤ 6) (g : agree m L J = true) (w : Nat) (hw : 6 ≤ w) : ∀ x ∈ cl L, x < 2 ^ w := fun x hx => by
  have hB : 64 ≤ 2 ^ w := Nat.le_trans (by decide) (Nat.pow_le_pow_right (by decide : 0 < 2) hw)
  rw [cl_is] at hx
  obtain ⟨j, _, rfl⟩ := List.mem_map.mp hx
  have := (agree_len hm g).2
  have := List.count_le_length (a := j) (l := L)
  omega
theorem ldigs_lt (b k : Nat) (hb : 0 < b) : ∀ (ds : List Nat) (x : Nat × List Nat), x.1 < b → (∀ y ∈ ds, y < 2 ^ k) → (∀ y ∈ x.2, y < 2 ^ k) → ∀ y ∈ (ds.foldl (ldStep b k) x).2, y < 2 ^ k
  | [], x, _, _, h => h
  | e :: ds, x, hx, hd, h => by
    rw [List.foldl_cons]
    refine ldigs_lt b k hb ds _ (Nat.mod_lt _ hb) (fun y hy => hd y (List.mem_cons_of_mem _ hy)) fun y hy => ?_
    rcases List.mem_append.mp hy with hy | hy
    · exact h y hy
    · have : y = (x.1 * 2 ^ k + e) / b := by simpa using hy
      rw [this, Nat.div_lt_iff_lt_mul hb]
      have he := hd e List.mem_cons_self
      have : (x.1 + 1) * 2 ^ k ≤ b * 2 ^ k := Nat.mul_le_mul_right _ hx
      rw [Nat.add_mul, Nat.one_mul] at this
      rw [Nat.mul_comm (2 ^ k) b]
      omega
theorem cnt_mul (a k : Nat) (hk : 0 < k) : bl a ≤ k * cnt59 a k := by
  unfold cnt59
  have h1 := Nat.div_add_mod (bl a + k - 1) k
  have h2 := Nat.mod_lt (bl a + k - 1) hk
  omega
theorem digs_back (a k : Nat) (hk : 0 < k) : undigs k (digsN a k (cnt59 a k)) = a :=
  undigs_digsN k _ a (Nat.lt_of_lt_of_le (bl_lt a) (Nat.pow_le_pow_right (by decide) (cnt_mul a k hk)))
end
section
open PySem PySem.W PyProof.Rows PySem.Calls
set_option linter.unusedVariables false
set_option maxRecDepth 100000
/-- all that the head hands to the walk -/
structure Gd (w : World) (hb : Heap) (mg mb : Str → Option Value) : Prop where
  says : Says w hb
  B : Base hb mg mb
  hm : ∀ y : Str, y ≠ "__name__" → mb y = bootBuiltins y
  bm : ∃ bm ob, mg "__builtins__" = some (.ref bm) ∧ bm ≠ builtinsNs ∧ hb.get? bm = some ob ∧ ob.cls = .type "module" ∧ ob.dict = some builtinsNs ∧ ob.data = .plain
theorem dots_lt (d : List Nat) (more : Bool) : ∀ p ∈ tiesOf d more, p.1 < 4 ∧ p.2 < 4 := by
  have h5 : allS (fun E => E.all fun p => Nat.ble p.1 3 && Nat.ble p.2 3) false = true := by decide +kernel
  have h6 : allS (fun E => E.all fun p => Nat.ble p.1 3 && Nat.ble p.2 3) true = true := by decide +kernel
  have h : ((endsOf d more).all fun p => Nat.ble p.1 3 && Nat.ble p.2 3) = true := by
    cases more
    · exact allS_ends h5 d
    · exact allS_ends h6 d
  intro p hp
  rw [List.all_eq_true] at h
  have := h p ((ties_perm d more).mem_iff.mp hp)
  rw [Bool.and_eq_true] at this
  have h1 := Nat.le_of_ble_eq_true this.1
  have h2 := Nat.le_of_ble_eq_true this.2
  omega
section
variable {prog : Program} {w : World} {hb : Heap} {mg mb : Str → Option Value}
theorem Ct.up {fa : Addr} {m m' : Nat} {ds : List D} {d : D} (c : Ct prog w hb fa m ds d) (h : m ≤ m') : Ct prog w hb fa m' ds d := fun A Z s vals Q E hA => c A Z s vals Q E (hA.le h)
theorem Ct.eq {fa : Addr} {m : Nat} {ds : List D} {d d' : D} (c : Ct prog w hb fa m ds d) (h : d = d') : Ct prog w hb fa m ds d' := h ▸ c
theorem Gd.nm (g : Gd w hb mg mb) (i : Nat) {n : Str} {v : Option Value} (e : named[i]? = some (n, v)) : mg n = v := saw_name g.says g.B.ng (List.mem_iff_getElem?.mpr ⟨i, e⟩)
theorem Gd.T (g : Gd w hb mg mb) : Blt mg mb := blt_of g.says g.B.ng g.hm
theorem Gd.T2 (g : Gd w hb mg mb) : Blt2 mg mb := blt2_of g.says g.B.ng g.hm
theorem Gd.W (g : Gd w hb mg mb) : WsD hb mg mb (mW w) := wsd_of g.says g.B.ng g.hm
theorem Gd.H (g : Gd w hb mg mb) : HdD hb mg mb (mH w) := hdd_of g.says g.B.ng g.hm
/-- division by digits is division -/
theorem ct_dm (g : Gd w hb mg mb) (a b : Nat) (hb0 : 0 < b) (hb45 : b < 2 ^ 45) (ha : a < 2 ^ 180) : Ct prog w hb 80 234 [.int (a : Nat), .int (b : Nat)] (.tup [.int (a / b : Nat), .int (a % b : Nat)]) := by
  have hk0 : 0 < bl b := bl_pos (by omega)
  have hk : bl b ≤ 45 := bl_le hb45
  have hA : bl a ≤ 180 := bl_le ha
  have hc : cnt59 a (bl b) ≤ 224 := by
    unfold cnt59
    exact Nat.le_trans (Nat.div_le_self _ _) (by omega)
  have hk2 : 2 ^ bl b ≤ 2 ^ 45 := Nat.pow_le_pow_right (by decide) hk
  generalize hds : digsN a (bl b) (cnt59 a (bl b)) = ds
  have dlt : ∀ d ∈ ds, d < 2 ^ bl b := hds ▸ digsN_lt a (bl b) _
  have dlen : ds.length = cnt59 a (bl b) := hds ▸ digsN_length a (bl b) _
  obtain ⟨s1, s2⟩ := longdiv_spec b (bl b) hb0 ds
  have back : undigs (bl b) ds = a := by rw [← hds]; exact digs_back a (bl b) hk0
  rw [back] at s1 s2
  have ql : (longdiv b (bl b) ds.reverse).2.reverse.length = cnt59 a (bl b) := by
    rw [List.length_reverse, ← dlen]
    unfold longdiv
    rw [longdiv_len]; simp
  obtain ⟨_, _, _, _, _, F59'⟩ := F59 g.says
  obtain ⟨_, _, _, _, _, F66'⟩ := F66 g.says
  obtain ⟨_, _, _, _, _, _, F45'⟩ := F45 g.says
  obtain ⟨_, _, _, _, _, _, F73'⟩ := F73 g.says
  obtain ⟨_, _, _, _, _, _, F80'⟩ := F80 g.says
  have c1 : Ct prog w hb 59 232 [.int (a : Nat), .int (bl b : Nat)] (dInts ds) := by
    have := ct_i2d (prog := prog) (w := w) (n := 231 - cnt59 a (bl b)) g.B g.T F59' (code58 g.says) (bm_of g.says g.B.ng g.bm (saw g.says (o := ob54) rfl)) a (bl b) hk0 (by omega) (by omega)
    rw [hds] at this
    exact this.up (by omega)
  have c2 : Ct prog w hb 66 232 [dInts (longdiv b (bl b) ds.reverse).2.reverse, .int (bl b : Nat)] (.int (undigs (bl b) (longdiv b (bl b) ds.reverse).2.reverse : Nat)) := by
    have := ct_d2i (prog := prog) (w := w) (n := 0) g.B g.T F66' (code65 g.says) (bm_of g.says g.B.ng g.bm (saw g.says (o := ob61) rfl)) (longdiv b (bl b) ds.reverse).2.reverse (bl b) (by omega) (by omega) (fun d hd =>
      ldigs_lt b (bl b) hb0 ds.reverse (0, []) hb0 (fun y hy => dlt y (List.mem_reverse.mp hy)) (fun y hy => by cases hy) d (List.mem_reverse.mp hd))
    exact this.up (by omega)
  have c := ct_divpos (m := 232) g.B g.T2 F73' F59' (g.nm 2 rfl) F66' (g.nm 3 rfl) F45' (g.nm 1 rfl) a b _ ds hb0 (Nat.lt_of_lt_of_le hb45 (Nat.pow_le_pow_right (by decide) (by decide))) (fun d hd => Nat.lt_of_lt_of_le (dlt d hd) (Nat.le_trans hk2 (Nat.pow_le_pow_right (by decide) (by decide)))) (by omega) c1 c2
    fun x hx => ct_div2n1n (n := 231) g.B g.T2 F45' x b (bl b) hb0 hx (Nat.lt_of_lt_of_le hb45 (Nat.pow_le_pow_right (by decide) (by decide)))
  rw [s1, s2] at c
  exact ct_intdm g.B F80' F73' (g.nm 4 rfl) a b hb0 c
theorem ct_leadL (g : Gd w hb mg mb) (ps : List (Str × Str)) (L : List Nat) (hps : ps.length ≤ 10000) (e : leadText ps = L.flatMap chunk) (h3 : ∀ l ∈ L, l ≤ 3) (h60 : L.length ≤ 60) : Ct prog w hb 323 200 [.lst (ps.map dPair)] (.ws (dNorm (cl L))) := by
  obtain ⟨_, _, _, _, _, _, F'⟩ := F323 g.says
  obtain ⟨_, _, _, _, _, _, F2⟩ := F87 g.says
  obtain ⟨_, _, _, _, _, _, F1⟩ := F104 g.says
  have := ct_lead (prog := prog) (w := w) (n := 0) g.B g.T g.W F1 F' F2 (g.nm 6 rfl) ps hps (by rw [e]; have := chunks_len L h3; omega) (by rw [e]; exact chunks_chars L) (by rw [e]; exact (ws_cl L).2)
  rw [e, (ws_cl L).1] at this
  exact this.up (by omega)
/-- the law's contract -/
theorem law_ct (g : Gd w hb mg mb) (sc : List Int) (hsc : sc.length ≤ 63) : Ct prog w hb 357 241 [.lst (sc.map D.int)] (.bool true) := by
  generalize hd : drawnOf sc = d
  generalize hmore : decide (5 < sc.length) = more
  have hdl : d.length = 6 := hd ▸ drawnOf_length sc
  have hlen := ties_length d more
  have hl6 := ties_len6 d more
  have hts : (tiesOf d more).length = 5 ∨ (tiesOf d more).length = 6 := by rw [hlen]; split <;> simp
  obtain ⟨L3, L60⟩ := agree_len hl6 (agree_lvL d more)
  obtain ⟨S3, S60⟩ := agree_len (by rw [ties_length]; split <;> omega) (agree_lvS d more)
  have hw6 : 6 ≤ 6 + d.sum % 40 := by omega
  have hw45 : 6 + d.sum % 40 ≤ 45 := by omega
  generalize hW : 6 + d.sum % 40 = W at hw6 hw45
  have hcl := cl_len (lvL d more) L3
  have hclt := cl_lt hl6 (agree_lvL d more) W hw6
  have hnum : undigs W (cl (lvL d more)) < 2 ^ 180 := Nat.lt_of_lt_of_le (undigs_lt W _ hclt) (Nat.pow_le_pow_right (by decide) (Nat.le_trans (Nat.mul_le_mul hw45 hcl) (by decide)))
  have h64 : 2 ^ 6 ≤ 2 ^ W := Nat.pow_le_pow_right (by decide) hw6
  have h45 : 2 ^ W ≤ 2 ^ 45 := Nat.pow_le_pow_right (by decide) hw45
  obtain ⟨_, _, _, _, _, _, E357⟩ := F357 g.says
  obtain ⟨_, _, _, _, _, _, E308⟩ := F308 g.says
  obtain ⟨_, _, _, _, _, _, E333⟩ := F333 g.says
  obtain ⟨_, _, _, _, _, _, E345⟩ := F345 g.says
  obtain ⟨_, _, _, _, _, _, E338⟩ := F338 g.says
  obtain ⟨_, _, _, _, _, _, E313⟩ := F313 g.says
  obtain ⟨_, _, _, _, _, _, E318⟩ := F318 g.says
  obtain ⟨_, _, _, _, _, _, E323⟩ := F323 g.says
  obtain ⟨_, _, _, _, _, _, E328⟩ := F328 g.says
  obtain ⟨_, _, _, _, _, E66⟩ := F66 g.says
  obtain ⟨_, _, _, _, _, _, E80⟩ := F80 g.says
  obtain ⟨_, _, _, _, _, _, E352⟩ := F352 g.says
  obtain ⟨_, _, _, _, _, _, E125⟩ := F125 g.says
  have hbase : 0 < 2 ^ W - 1 := by omega
  refine ct_law (m := 240) g.B g.T E357 sc hsc (tiesOf d more) hts (nearOf (tiesOf d more)) (.int 0) (dNorm (cl (lvL d more))) (cl (lvL d more)) W (undigs W (cl (lvL d more))) _ (by rw [hd, hW]) ?_ (by omega) (due_is hts (agree_lvL d more) W hw6)
  rw [hd, hmore]
  have lens : (sandOf (nearOf (tiesOf d more)) (tiesOf d more).length).length ≤ 10000 := by
    unfold sandOf
    rw [sandI_length]
    have a1 := ties_deg d more 1
    have a2 := Nat.mul_le_mul (ties_deg d more 2) (ties_deg d more 3)
    exact Nat.le_trans (Nat.mul_le_mul a1 a2) (by decide)
  have lenp : (pairsOf (tiesOf d more)).length ≤ 10000 := by
    have lt2 : 2 ^ (tiesOf d more).length ≤ 64 := Nat.le_trans (Nat.pow_le_pow_right (by decide) hl6) (by decide)
    have sl : (setsOf (tiesOf d more)).length ≤ 64 := by
      unfold setsOf
      exact Nat.le_trans (List.length_filter_le _ _) (by simp; exact lt2)
    have tl : (threesOf (tiesOf d more)).length ≤ 64 := by
      unfold threesOf
      exact Nat.le_trans (List.length_filter_le _ _) (by simp; exact sl)
    unfold pairsOf
    simp; omega
  refine { c_ties := ⟨g.nm 11 rfl, ⟨_, E308⟩, ct_ties (n := 239) g.B g.T E308 d more hdl⟩, c_cuts := ⟨g.nm 16 rfl, ⟨_, E333⟩, ?_⟩, c_ones := ⟨g.nm 18 rfl, ⟨_, E345⟩, ?_⟩, c_outer := ⟨g.nm 17 rfl, ⟨_, E338⟩, fun tree trees many h => ct_outer (n := 239) g.B g.T E338 tree trees many h⟩, c_near := ⟨g.nm 12 rfl, ⟨_, E313⟩, ct_near (n := 236) g.B g.H E313 _ (dots_lt d more) (by omega)⟩, c_sand := ⟨g.nm 15 rfl, ⟨_, E328⟩, ?_⟩, c_lead := ⟨g.nm 14 rfl, ⟨_, E323⟩, (ct_leadL g _ _ lenp (lead_lvL d more) L3 L60).up (by omega)⟩, c_digits := ⟨g.nm 3 rfl, ⟨_, E66⟩, ?_⟩, c_rests := ⟨g.nm 19 rfl, ⟨_, E352⟩, ?_⟩, c_norm := rfl, c_list := ?_, c_attr := ?_, c_equal := ?_ }
  · exact ct_cuts (n := 239) g.B g.T.len.1 g.T.len.2 g.T.ran.1 g.T.ran.2 g.T.sum.1 g.T.sum.2 E333 _ (by omega)
  · exact fun k => ct_ones (n := 239) g.B E345 k
  · refine ct_sand (m := 239) g.B g.T E328 E318 (g.nm 13 rfl) E323 (g.nm 14 rfl) _ _ (ties_nearOk d more) (ties_deg d more) (by omega) _ (fun i j k hi hj hk => ?_) ?_
    · obtain ⟨h1, h2⟩ := ties_again d more i j k hi hj hk
      exact ⟨ct_again (n := 238) g.B g.T E318 _ [i, j, k] (ties_nearOk d more) rfl _ (fun q hq => stopFrom_ne _ _ 60 0 q (by omega) hq) h1, h2⟩
    · have := ct_leadL (prog := prog) g _ _ lens (lead_lvS d more) S3 S60
      rw [lv_same] at this
      exact this.up (by omega)
  · have := ct_d2i (prog := prog) (w := w) (n := 0) g.B g.T E66 (code65 g.says) (bm_of g.says g.B.ng g.bm (saw g.says (o := ob61) rfl)) (cl (lvL d more)) W (by omega) (by omega) hclt
    exact this.up (by omega)
  · exact (ct_rests (m := 234) g.B g.T E352 E80 (g.nm 5 rfl) _ (2 ^ W - 1) (tiesOf d more).length (by omega) (by omega) fun a ha => ct_dm g a _ hbase (by omega) (by omega)).up (by omega)
  · exact ⟨g.nm 28 rfl, (g.hm _ (by decide)).trans (by decide +kernel)⟩
  · exact fun sc ρ x px p hx hok => ev_norm g.W.X g.W.norm (ev_name hx hok)
  · exact fun sc ρ x px ap pos cp kp e kk hx hok ev hs hE => evB_equal (n := 239) g.B g.W E125 _ hx hok ev hs hE
end
end
section
open PySem PySem.W PyProof.Rows PySem.Calls
set_option linter.unusedVariables false
set_option maxRecDepth 100000
theorem caller_rm : Rm 241 callerA := ⟨rfl, by decide +kernel, by decide +kernel⟩
theorem code_tab (x : Says w hb) : isCodeTable hb 54 ∧ isCodeTable hb 61 := by
  refine ⟨⟨58, _, _, saw x (o := ob58) rfl, rfl, rfl, rfl⟩, ⟨65, _, _, saw x (o := ob65) rfl, rfl, rfl, rfl⟩⟩
theorem old_k {w : World} {hb h : Heap} (x : Says w hb) (g : G hb h) : OldK hb h := by
  obtain ⟨t1, t2⟩ := code_tab x
  refine ⟨fun b o e => ?_, g.live⟩
  by_cases h1 : b = 54
  · subst h1
    have e0 : hb.get? 54 = some ob54 := saw x rfl
    rw [e0] at e; cases e
    rcases g.tab.1 with q | ⟨c, oc, fs, t, q, _⟩
    · exact .inl q
    · exact .inr (.inl ⟨t1, rfl, #[], #[rawInt 36, rawInt 4, .ref c], rfl, q.trans (by simp [X.tableObj, ob54])⟩)
  · by_cases h2 : b = 61
    · subst h2
      have e0 : hb.get? 61 = some ob61 := saw x rfl
      rw [e0] at e; cases e
      rcases g.tab.2 with q | ⟨c, oc, fs, t, q, _⟩
      · exact .inl q
      · exact .inr (.inl ⟨t2, rfl, #[], #[rawInt 51, rawInt 4, .ref c], rfl, q.trans (by simp [X.tableObj, ob61])⟩)
    · exact .inl (g.oth b o h1 h2 e)
theorem law_walk {prog : Program} {w : World} {s₁ : Shared} {mg mb : Str → Option Value} (g : Gd w s₁.heap mg mb) (ns : List Int) (hlen : ns.length ≤ 63) {l : Addr} {its : List Value} (hL : s₁.heap.IsList l its.toArray) (hI : IntsAre its ns) {Q E : Value → Shared → Prop}
    (k : ∀ s', OldK s₁.heap s'.heap → s'.os = s₁.os → s'.gens = s₁.gens → Q (.bool true) s') : wpAny (model prog w) callerA (call (.ref 357) [.ref l]) Q E s₁ := by
  refine law_ct g ns hlen callerA [] s₁ [.ref l] Q E caller_rm (g_self g.says) (fun a h => by cases h) ?_ fun v s' hv hk => ?_
  · rw [Reps]
    refine ⟨_, _, rfl, ?_, by rw [Reps]⟩
    rw [Rep]
    exact ⟨l, _, rfl, (fun h => by cases h), hL, reps_of_ints (by simpa using hI)⟩
  · rw [Rep] at hv
    subst hv
    have og := old_k g.says (hk.ext.g (g_self g.says))
    obtain ⟨h', tk, rfl, _⟩ := hk
    exact k _ og rfl rfl
theorem law_at {w : World} {hb : Heap} {mg : Str → Option Value} (x : Says w hb) (hg : hb.Ns mainGlobals mg) {fa : Addr} (h : mg (Str.ofString "law") = some (.ref fa)) : fa = 357 := by
  have h2 := saw_name x hg (List.mem_iff_getElem?.mpr ⟨20, rfl⟩ : (Str.ofString "law", some (Value.ref 357)) ∈ named)
  rw [h2] at h
  injection h with h
  injection h with h
  exact h.symm
end
section
open PySem PySem.W PyProof.Rows PySem.Calls
set_option maxRecDepth 100000
set_option maxHeartbeats 8000000
noncomputable def wellP (l : OpenLaw) : Bool := l.wellSaid
lay_quick Mine.wellP
theorem wellV : Challenge.rw_tp0059_01.wellSaid = true := by
  show wellP _ = true
  rw [PySem.W.Fast.te10261682018367036896]
  kernel_rfl
end
section
open PySem PySem.W PyProof.Rows PySem.Calls
set_option maxRecDepth 100000
set_option maxHeartbeats 8000000
theorem leftV : LeftO Challenge.pw_tp0059_01 qv loose xt obsF valF 4300 :=
  left_of_whole "special-get-raises" fun b w => match b with | false => side0 w | true => side1 w
theorem says_of (w : World) (s : Shared) (e : obsF s = valF w) : Says w s.heap := by
  unfold obsF valF at e
  injection e with e1 e
  injection e with e2 e3
  refine ⟨Frag.in_of (as := spots) rfl e1, _, .of_isNs e2, fun p hp => ?_⟩
  exact List.map_inj_left.mp e3 p hp
theorem xt_two (s : Shared) (e : xt s = true) : xlAt qv [] s = true ∧ recOk (RowW.records Challenge.rw_tp0059_01.row.toRowW) s = true :=
  Bool.and_eq_true_iff.mp e
theorem headV : Challenge.rw_tp0059_01.Holds := by
  w_on
  refine holds_law wellV fun said => ?_
  refine holds_open (q := qv) (loose := loose) (Xt := xt) (XP := XL qv []) (Yf := obsF) (Ya := valF) (YP := Says) (N := 4300) leftV says_of (fun w h h' x k => Says.keeps x k)
    (fun s e => xl_of s (xt_two s e).1) XL.keeps (by rfl) (by rfl) (by rfl) (fun s e => recFacts_of (xt_two s e).2) (by rfl) (by first | assumption | decide +kernel) (by decide +kernel) ⟨rfl, rfl, rfl, rfl, rfl, by decide +kernel⟩ ?hw ?hc
  case hw => w_witness2
  case hc =>
    intro w s₀ s₁ mg mb G Y fa o pm cd doc dV kV ho hd hcd hD hmg hg args vals as hpre hlay hrd hwl hlo
    have hfa : fa = 357 := Ground.open G fun T _ _ _ _ => law_at Y T.g hmg
    subst hfa
    refine Ground.open G ?_
    intro T B D TE TW
    wrow_args hpre hlay hrd hwl hlo
    rename_i ns hs0 hlay0 hLy hr1 hl2 as4 as3 l its as0 hL ra w1 r0 hI hr hc1 hc2
    have hlen : ns.length ≤ 63 := Nat.le_of_not_lt fun h => hc1 (Int.ofNat_lt.mpr h)
    refine law_walk ⟨Y, ⟨T.g, T.b, T.nolimit⟩, T.builtins, T.bmain⟩ ns hlen hL hI fun s' ok os gens => ?_
    refine ⟨.inl ⟨.bool true, .bool true, [], rfl, fun _ => rfl, .bool true, by wrow_post, fun _ => ⟨List.nodup_nil, fun a h => by cases h⟩⟩, ok, os, ?_⟩
    rw [gens, hg]
    exact .empty
end
end Mine
theorem PySem.Challenge.cw_tp0059_01_holds : PySem.Challenge.rw_tp0059_01.Holds :=
  Mine.headV
