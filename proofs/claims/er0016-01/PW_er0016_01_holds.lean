import PyProof.Rows.All
import Wide.All
import OpenK.AllK
import Wide.FinOn
import PySem.Challenge.RW_er0016_01
open PySem PySem.W PyProof.Rows
set_option Elab.async false
set_option maxRecDepth 100000
set_option maxHeartbeats 4000000
set_option linter.unusedVariables false
set_option linter.unusedSimpArgs false
set_option linter.unusedSectionVars false
namespace Mine
section
inductive AV where
  | val (v : Value)
  | int (i : Int)
  | str (s : Str)
  | byt (b : List Int)
  | tup (xs : List AV)
  | any

mutual
def Rep (B : List Addr) (h : Heap) : AV → Value → Prop
  | .val v, x => x = v
  | .int i, x => ∃ t, x = .int i t
  | .str s, x => ∃ t, x = .str s t
  | .byt b, x => ∃ c t, x = .bytes c t ∧ KBw.bInts c = b
  | .tup xs, x => ∃ a vs n, x = .ref a ∧ a ∉ B ∧ h.get? a = some { cls := .type "tuple", data := .seq vs n } ∧ Reps B h xs vs.toList
  | .any, _ => True
def Reps (B : List Addr) (h : Heap) : List AV → List Value → Prop
  | [], vs => vs = []
  | x :: xs, vs => ∃ v r, vs = v :: r ∧ Rep B h x v ∧ Reps B h xs r
end

def AV.known : AV → Prop
  | .any => False
  | _ => True

theorem Reps.nil {B : List Addr} {h : Heap} : Reps B h [] [] := by simp [Reps]
theorem Reps.cons {B : List Addr} {h : Heap} {x : AV} {v : Value} {xs : List AV} {vs : List Value} (a : Rep B h x v) (b : Reps B h xs vs) : Reps B h (x :: xs) (v :: vs) := by
  simp only [Reps]; exact ⟨v, vs, rfl, a, b⟩
theorem Reps.length {B : List Addr} {h : Heap} : ∀ {xs : List AV} {vs : List Value}, Reps B h xs vs → xs.length = vs.length
  | [], vs, e => by simp only [Reps] at e; subst e; rfl
  | x :: xs, vs, e => by
    simp only [Reps] at e
    obtain ⟨v, r, rfl, _, b⟩ := e
    simp [Reps.length b]
theorem Reps.append {B : List Addr} {h : Heap} : ∀ {xs ys : List AV} {vs ws : List Value}, Reps B h xs vs → Reps B h ys ws → Reps B h (xs ++ ys) (vs ++ ws)
  | [], _, vs, _, a, b => by simp only [Reps] at a; subst a; exact b
  | x :: xs, ys, vs, ws, a, b => by
    simp only [Reps] at a
    obtain ⟨v, r, rfl, a1, a2⟩ := a
    exact Reps.cons a1 (Reps.append a2 b)
theorem Reps.get {B : List Addr} {h : Heap} : ∀ {xs : List AV} {vs : List Value} {i : Nat} {x : AV}, Reps B h xs vs → xs[i]? = some x → ∃ v, vs[i]? = some v ∧ Rep B h x v
  | [], _, _, _, _, e => by simp at e
  | y :: xs, vs, i, x, a, e => by
    simp only [Reps] at a
    obtain ⟨v, r, rfl, a1, a2⟩ := a
    cases i with
    | zero => simp at e; subst e; exact ⟨v, rfl, a1⟩
    | succ i => simp at e; obtain ⟨u, e1, e2⟩ := Reps.get a2 e; exact ⟨u, by simpa using e1, e2⟩
theorem Reps.set {B : List Addr} {h : Heap} : ∀ {xs : List AV} {vs : List Value} {i : Nat} {x : AV} {v : Value}, Reps B h xs vs → Rep B h x v → Reps B h (xs.set i x) (vs.set i v)
  | [], vs, _, _, _, a, _ => by simp only [Reps] at a; subst a; simp [Reps]
  | y :: xs, vs, i, x, w, a, e => by
    simp only [Reps] at a
    obtain ⟨v, r, rfl, a1, a2⟩ := a
    cases i with
    | zero => exact Reps.cons e a2
    | succ i => exact Reps.cons a1 (Reps.set a2 e)
theorem Reps.take {B : List Addr} {h : Heap} : ∀ {xs : List AV} {vs : List Value} (n : Nat), Reps B h xs vs → Reps B h (xs.take n) (vs.take n)
  | [], vs, n, a => by simp only [Reps] at a; subst a; simp [Reps]
  | y :: xs, vs, n, a => by
    simp only [Reps] at a
    obtain ⟨v, r, rfl, a1, a2⟩ := a
    cases n with
    | zero => simp [Reps]
    | succ n => exact Reps.cons a1 (Reps.take n a2)
theorem Reps.drop {B : List Addr} {h : Heap} : ∀ {xs : List AV} {vs : List Value} (n : Nat), Reps B h xs vs → Reps B h (xs.drop n) (vs.drop n)
  | [], vs, n, a => by simp only [Reps] at a; subst a; simp [Reps]
  | y :: xs, vs, n, a => by
    simp only [Reps] at a
    obtain ⟨v, r, rfl, a1, a2⟩ := a
    cases n with
    | zero => exact Reps.cons a1 a2
    | succ n => exact Reps.drop n a2
theorem Reps.at {B : List Addr} {h : Heap} : ∀ {xs : List AV} {vs : List Value} {i : Nat} {v : Value}, Reps B h xs vs → vs[i]? = some v → ∃ x, xs[i]? = some x ∧ Rep B h x v
  | [], vs, i, v, a, e => by simp only [Reps] at a; subst a; simp at e
  | y :: xs, vs, i, w, a, e => by
    simp only [Reps] at a
    obtain ⟨v, r, rfl, a1, a2⟩ := a
    cases i with
    | zero => simp at e; subst e; exact ⟨y, rfl, a1⟩
    | succ i => simp at e; obtain ⟨u, e1, e2⟩ := Reps.at a2 e; exact ⟨u, by simpa using e1, e2⟩

/-- tuples stay -/
def TupKeep (B : List Addr) (h h' : Heap) : Prop := ∀ a vs n, a ∉ B → h.get? a = some { cls := .type "tuple", data := .seq vs n } → h'.get? a = some { cls := .type "tuple", data := .seq vs n }
theorem TupKeep.refl {B : List Addr} (h : Heap) : TupKeep B h h := fun _ _ _ _ e => e
theorem TupKeep.trans {B : List Addr} {h₁ h₂ h₃ : Heap} (a : TupKeep B h₁ h₂) (b : TupKeep B h₂ h₃) : TupKeep B h₁ h₃ := fun x vs n q e => b x vs n q (a x vs n q e)

mutual
theorem Rep.mono {B : List Addr} {h h' : Heap} (k : TupKeep B h h') : ∀ (x : AV) (v : Value), Rep B h x v → Rep B h' x v
  | .val _, _, e => by simpa only [Rep] using e
  | .int _, _, e => by simpa only [Rep] using e
  | .str _, _, e => by simpa only [Rep] using e
  | .byt _, _, e => by simpa only [Rep] using e
  | .tup xs, v, e => by
    simp only [Rep] at e ⊢
    obtain ⟨a, vs, n, e1, q, e2, e3⟩ := e
    exact ⟨a, vs, n, e1, q, k _ _ _ q e2, Reps.mono k xs _ e3⟩
  | .any, _, _ => by simp only [Rep]
theorem Reps.mono {B : List Addr} {h h' : Heap} (k : TupKeep B h h') : ∀ (xs : List AV) (vs : List Value), Reps B h xs vs → Reps B h' xs vs
  | [], _, e => by simpa only [Reps] using e
  | x :: xs, vs, e => by
    simp only [Reps] at e ⊢
    obtain ⟨v, r, e1, e2, e3⟩ := e
    exact ⟨v, r, e1, Rep.mono k x v e2, Reps.mono k xs r e3⟩
end

/-- pairs of a dict of keys by kind -/
inductive KVs {K : Type} (B : List Addr) (h : Heap) : List (K × AV) → List (K × Value) → Prop
  | nil : KVs B h [] []
  | cons {k : K} {x : AV} {v : Value} {l : List (K × AV)} {l' : List (K × Value)} : Rep B h x v → KVs B h l l' → KVs B h ((k, x) :: l) ((k, v) :: l')
theorem KVs.mono {K : Type} {B : List Addr} {h h' : Heap} (k : TupKeep B h h') {l : List (K × AV)} {l' : List (K × Value)} (e : KVs B h l l') : KVs B h' l l' := by
  induction e with
  | nil => exact .nil
  | cons a _ ih => exact .cons (Rep.mono k _ _ a) ih

inductive AObj where
  | list (xs : List AV)
  | ns (nm : List Str) (m : List AV)
  | inst (C : Addr) (d : Addr)
  | cell (v : AV)
  | dictI (es : List (Int × AV))
  | dictS (es : List (Str × AV))
  | dictTI (es : List (List Int × AV))
  | dictTS (es : List (List Str × AV))
  | iter (l : Addr) (i : Nat)
  | rng (a b c : Int)
  | attrs (es : List (Str × AV))
  | view (T : String) (d : Addr)

abbrev Own := List (Addr × AObj)
def addrs (own : Own) : List Addr := own.map (·.1)

inductive NsRep (B : List Addr) (h : Heap) (f : Str → Option Value) : List Str → List AV → Prop
  | nil : NsRep B h f [] []
  | any {x : Str} {nm : List Str} {m : List AV} : NsRep B h f nm m → NsRep B h f (x :: nm) (.any :: m)
  | cons {x : Str} {a : AV} {v : Value} {nm : List Str} {m : List AV} : f x = some v → Rep B h a v → NsRep B h f nm m → NsRep B h f (x :: nm) (a :: m)
theorem NsRep.mono {B : List Addr} {h h' : Heap} (k : TupKeep B h h') {f : Str → Option Value} {nm : List Str} {m : List AV} (e : NsRep B h f nm m) : NsRep B h' f nm m := by
  induction e with
  | nil => exact .nil
  | any _ ih => exact .any ih
  | cons a b _ ih => exact .cons a (Rep.mono k _ _ b) ih

structure Cx where
  prog : Program
  w : World
  h₀ : Heap
  os : OsState
  ro : Own := []
  bad : List Addr := []
  K : Frag := []
  tabs : List (Addr × Addr) := []

inductive TKs {K : Type} (mk : K → AV) (B : List Addr) (h : Heap) : List (K × AV) → List (K × Addr × Value) → Prop
  | nil : TKs mk B h [] []
  | cons {k : K} {x : AV} {a : Addr} {v : Value} {l : List (K × AV)} {l' : List (K × Addr × Value)} : Rep B h (mk k) (.ref a) → Rep B h x v → TKs mk B h l l' → TKs mk B h ((k, x) :: l) ((k, a, v) :: l')
theorem TKs.mono {K : Type} {mk : K → AV} {B : List Addr} {h h' : Heap} (k : TupKeep B h h') {l : List (K × AV)} {l' : List (K × Addr × Value)} (e : TKs mk B h l l') : TKs mk B h' l l' := by
  induction e with
  | nil => exact .nil
  | cons a b _ ih => exact .cons (Rep.mono k _ _ a) (Rep.mono k _ _ b) ih
def DT {P : Program} {W : World} {K : Type} [DecidableEq K] (knd : HeapKind P W K) (mk : K → AV) (B : List Addr) (h : Heap) (a : Addr) (es : List (K × AV)) : Prop :=
  ∃ o ds ep xs, h.get? a = some o ∧ o.ExactDict ∧ o.data = .dict ds ep ∧ ds.toList = xs.map (entryOfKey knd) ∧ (xs.map (·.1)).Nodup ∧ TKs mk B h es xs
def At (B : List Addr) (h : Heap) (a : Addr) (es : List (Str × AV)) : Prop :=
  ∃ o ents ep, h.get? a = some o ∧ o.cls = .type "dict" ∧ o.data = .dict ents ep ∧ ents.size = es.length ∧ StrKeys ents ∧ ∀ y, match es.lookup y with | some b => ∃ v, nsFind ents y = some v ∧ Rep B h b v | none => nsFind ents y = none
def CellRep (B : List Addr) (h : Heap) (y : AV) (v : Option Value) : Prop := match y with
  | .any => True
  | y => ∃ u, v = some u ∧ Rep B h y u

def Has (P : Program) (W : World) (B : List Addr) (h : Heap) (a : Addr) : AObj → Prop
  | .list xs => ∃ vs, h.PlainList a vs ∧ Reps B h xs vs.toList
  | .ns nm m => ∃ f, h.Ns a f ∧ NsRep B h f nm m ∧ nm.Nodup
  | .inst C d => ∃ sl, h.get? a = some ⟨.ref C, some d, .plain, sl⟩
  | .cell y => ∃ v, h.IsCell a v ∧ CellRep B h y v
  | .dictI es => (a == sysModules) = false ∧ ∃ kvs ep, h.DictAt (intKind P W) a kvs ep ∧ KVs B h es kvs
  | .dictS es => (a == sysModules) = false ∧ ∃ kvs ep, h.DictAt (PySem.strKind P W) a kvs ep ∧ KVs B h es kvs
  | .dictTI es => (a == sysModules) = false ∧ DT (tupleKind (intKind P W)) (fun ks => .tup (ks.map .int)) B h a es
  | .dictTS es => (a == sysModules) = false ∧ DT (tupleKind (PySem.strKind P W)) (fun ks => .tup (ks.map .str)) B h a es
  | .iter l i => h.IsListIter a l i
  | .rng i j k => ∃ t u v, IsRange h a i j k t u v
  | .attrs es => At B h a es
  | .view T d => ∃ o, h.get? a = some o ∧ o.cls = .type T ∧ T ≠ "tuple" ∧ o.data = .fields #[.ref d]

theorem Has.notTup {P : Program} {W : World} {B : List Addr} {h : Heap} {a : Addr} {o : AObj} (H : Has P W B h a o) {vs : Array Value} {n : Nat} (e : h.get? a = some { cls := .type "tuple", data := .seq vs n }) : False := by
  cases o with
  | list xs => obtain ⟨ws, ⟨k, e'⟩, _⟩ := H; rw [e] at e'; simp at e'
  | ns nm m => obtain ⟨f, ⟨o, es, ep, e', d, _⟩, _⟩ := H; rw [e] at e'; cases e'; simp at d
  | inst C d => obtain ⟨sl, e'⟩ := H; rw [e] at e'; simp at e'
  | cell y => obtain ⟨v, ⟨o, e', d⟩, _⟩ := H; rw [e] at e'; cases e'; simp at d
  | dictI es => obtain ⟨_, kvs, ep, ⟨o, es, e', d, _⟩, _⟩ := H; rw [e] at e'; cases e'; simp [Obj.ExactDict] at d
  | dictS es => obtain ⟨_, kvs, ep, ⟨o, es, e', d, _⟩, _⟩ := H; rw [e] at e'; cases e'; simp [Obj.ExactDict] at d
  | dictTI es => obtain ⟨_, o, ds, ep, xs, e', d, _⟩ := H; rw [e] at e'; cases e'; simp [Obj.ExactDict] at d
  | dictTS es => obtain ⟨_, o, ds, ep, xs, e', d, _⟩ := H; rw [e] at e'; cases e'; simp [Obj.ExactDict] at d
  | iter l i => obtain ⟨o, e', c, _⟩ := H; rw [e] at e'; cases e'; simp at c
  | rng i j k => obtain ⟨t, u, v, e'⟩ := H; have e' := e.symm.trans e'; simp at e'
  | attrs es => obtain ⟨o, ds, ep, e', c, d, _⟩ := H; rw [e] at e'; cases e'; simp at d
  | view T d => obtain ⟨o, e', c, _, d⟩ := H; rw [e] at e'; cases e'; simp at d

theorem CellRep.mono {B : List Addr} {h h' : Heap} (k : TupKeep B h h') {y : AV} {v : Option Value} (e : CellRep B h y v) : CellRep B h' y v := by
  cases y with
  | any => trivial
  | val _ => obtain ⟨u, a, b⟩ := e; exact ⟨u, a, Rep.mono k _ _ b⟩
  | int _ => obtain ⟨u, a, b⟩ := e; exact ⟨u, a, Rep.mono k _ _ b⟩
  | str _ => obtain ⟨u, a, b⟩ := e; exact ⟨u, a, Rep.mono k _ _ b⟩
  | byt _ => obtain ⟨u, a, b⟩ := e; exact ⟨u, a, Rep.mono k _ _ b⟩
  | tup _ => obtain ⟨u, a, b⟩ := e; exact ⟨u, a, Rep.mono k _ _ b⟩

/-- an object untouched at its own address, tuples kept -/
theorem DT.keep {P : Program} {W : World} {K : Type} [DecidableEq K] {knd : HeapKind P W K} {mk : K → AV} {B : List Addr} {h h' : Heap} {a : Addr} {es : List (K × AV)} (H : DT knd mk B h a es) (k : TupKeep B h h') (e : h'.get? a = h.get? a) : DT knd mk B h' a es := by
  obtain ⟨o, ds, ep, xs, e', d1, d2, d3, d4, r⟩ := H
  exact ⟨o, ds, ep, xs, e.trans e', d1, d2, d3, d4, r.mono k⟩
theorem At.keep {B : List Addr} {h h' : Heap} {a : Addr} {es : List (Str × AV)} (H : At B h a es) (k : TupKeep B h h') (e : h'.get? a = h.get? a) : At B h' a es := by
  obtain ⟨o, ents, ep, e', c, d, z, sk, r⟩ := H
  refine ⟨o, ents, ep, e.trans e', c, d, z, sk, fun y => ?_⟩
  have := r y
  split
  · rename_i b eb; rw [eb] at this; obtain ⟨v, h1, h2⟩ := this; exact ⟨v, h1, Rep.mono k _ _ h2⟩
  · rename_i eb; rw [eb] at this; exact this
theorem Has.keep {P : Program} {W : World} {B : List Addr} {h h' : Heap} {a : Addr} {o : AObj} (H : Has P W B h a o) (k : TupKeep B h h') (e : h'.get? a = h.get? a) : Has P W B h' a o := by
  cases o with
  | list xs => obtain ⟨ws, ⟨n, e'⟩, r⟩ := H; exact ⟨ws, ⟨n, e.trans e'⟩, Reps.mono k _ _ r⟩
  | ns nm m => obtain ⟨f, ⟨o, es, ep, e', d⟩, r, q⟩ := H; exact ⟨f, ⟨o, es, ep, e.trans e', d⟩, r.mono k, q⟩
  | inst C d => obtain ⟨sl, e'⟩ := H; exact ⟨sl, e.trans e'⟩
  | cell y => obtain ⟨v, ⟨o, e', d⟩, r⟩ := H; exact ⟨v, ⟨o, e.trans e', d⟩, r.mono k⟩
  | dictI es => obtain ⟨n, kvs, ep, ⟨o, es, e', d⟩, r⟩ := H; exact ⟨n, kvs, ep, ⟨o, es, e.trans e', d⟩, r.mono k⟩
  | dictS es => obtain ⟨n, kvs, ep, ⟨o, es, e', d⟩, r⟩ := H; exact ⟨n, kvs, ep, ⟨o, es, e.trans e', d⟩, r.mono k⟩
  | dictTI es => exact ⟨H.1, DT.keep H.2 k e⟩
  | dictTS es => exact ⟨H.1, DT.keep H.2 k e⟩
  | iter l i => obtain ⟨o, e', c⟩ := H; exact ⟨o, e.trans e', c⟩
  | rng i j k => obtain ⟨t, u, v, e'⟩ := H; exact ⟨t, u, v, e.trans e'⟩
  | attrs es => exact At.keep H k e
  | view T d => obtain ⟨o, e', c⟩ := H; exact ⟨o, e.trans e', c⟩
theorem Has.there {P : Program} {W : World} {B : List Addr} {h : Heap} {a : Addr} {o : AObj} (H : Has P W B h a o) : ∃ ob, h.get? a = some ob := by
  cases o with
  | list xs => obtain ⟨ws, ⟨n, e'⟩, r⟩ := H; exact ⟨_, e'⟩
  | ns nm m => obtain ⟨f, ⟨o, es, ep, e', d⟩, r, q⟩ := H; exact ⟨_, e'⟩
  | inst C d => obtain ⟨sl, e'⟩ := H; exact ⟨_, e'⟩
  | cell y => obtain ⟨v, ⟨o, e', d⟩, r⟩ := H; exact ⟨_, e'⟩
  | dictI es => obtain ⟨_, kvs, ep, ⟨o, es, e', d⟩, r⟩ := H; exact ⟨_, e'⟩
  | dictS es => obtain ⟨_, kvs, ep, ⟨o, es, e', d⟩, r⟩ := H; exact ⟨_, e'⟩
  | dictTI es => obtain ⟨_, o, ds, ep, xs, e', _⟩ := H; exact ⟨_, e'⟩
  | dictTS es => obtain ⟨_, o, ds, ep, xs, e', _⟩ := H; exact ⟨_, e'⟩
  | iter l i => obtain ⟨o, e', c⟩ := H; exact ⟨_, e'⟩
  | rng i j k => obtain ⟨t, u, v, e'⟩ := H; exact ⟨_, e'⟩
  | attrs es => obtain ⟨o, ds, ep, e', _⟩ := H; exact ⟨_, e'⟩
  | view T d => obtain ⟨o, e', _⟩ := H; exact ⟨_, e'⟩

/-- a code object and its table -/
def Tab (h : Heap) (c P : Addr) : Prop := ∃ o op ps, h.get? c = some o ∧ h.get? P = some op ∧ ∀ h' : Heap, h'.get? c = some o → h'.get? P = some op → h'.IsCode c P ps ∧ h'.TableAt c P ps
theorem Tab.keep {h h' : Heap} {c P : Addr} (T : Tab h c P) (hk : ∀ b o, b = c ∨ b = P → h.get? b = some o → h'.get? b = some o) : Tab h' c P :=
  let ⟨o, op, ps, e1, e2, k⟩ := T; ⟨o, op, ps, hk _ _ (.inl rfl) e1, hk _ _ (.inr rfl) e2, k⟩
theorem Tab.of {h : Heap} {c P : Addr} {ps : Array Value} (a : h.IsCode c P ps) (b : h.TableAt c P ps) : Tab h c P := by
  obtain ⟨o, vs, file, tf, flags, tg, inF, text, tt, op, ho, r1, r2, r3, r4, r5, r6, hop, r7⟩ := a
  obtain ⟨⟨o', vs', ho', q⟩, hp⟩ := b
  have e1 := ho'.symm.trans ho
  cases e1
  have e2 := hp.symm.trans hop
  cases e2
  exact ⟨_, _, ps, ho, hop, fun h' k1 k2 => ⟨⟨_, vs, file, tf, flags, tg, inF, text, tt, _, k1, r1, r2, r3, r4, r5, r6, k2, r7⟩, ⟨⟨_, vs', k1, q⟩, k2⟩⟩⟩

structure Rel (x : Cx) (own : Own) (s : Shared) : Prop where
  old : OldK x.h₀ s.heap
  lim : s.heap.NoLimit
  os : s.os = x.os
  gens : AllBare s.gens
  nodup : (addrs own).Nodup
  has : ∀ p ∈ own, Has x.prog x.w x.bad s.heap p.1 p.2
  new : ∀ p ∈ own, x.h₀.get? p.1 = none
  cs : ∃ o, x.h₀.get? cStatics = some o
  ro : ∀ p ∈ x.ro, Has x.prog x.w x.bad s.heap p.1 p.2 ∧ p.1 ∉ addrs own ∧ ∃ o, s.heap.get? p.1 = some o ∧ o.cls ≠ .none
  bd : ∀ a ∈ x.bad, ∃ o, s.heap.get? a = some o
  kh : x.K.In x.h₀
  kin : x.K.In s.heap
  tb : ∀ p ∈ x.tabs, (∃ o, x.h₀.get? p.1 = some o) ∧ (∃ o, x.h₀.get? p.2 = some o) ∧ Tab s.heap p.1 p.2

/-- what a part of the run keeps -/
structure Step (x : Cx) (own : Own) (s : Shared) (own' : Own) (s' : Shared) : Prop where
  rel : Rel x own' s'
  ext : ∀ a o, s.heap.get? a = some o → o.cls ≠ .none → a ∉ addrs own → s'.heap.get? a = some o
  sub : ∀ a ∈ addrs own', a ∈ addrs own ∨ s.heap.get? a = none
  there : ∀ a o, s.heap.get? a = some o → ∃ o', s'.heap.get? a = some o'

theorem Step.refl {x : Cx} {own : Own} {s : Shared} (R : Rel x own s) : Step x own s own s :=
  ⟨R, fun _ _ e _ _ => e, fun _ h => .inl h, fun a o e => ⟨o, e⟩⟩
theorem Step.trans {x : Cx} {o₁ o₂ o₃ : Own} {s₁ s₂ s₃ : Shared} (a : Step x o₁ s₁ o₂ s₂) (b : Step x o₂ s₂ o₃ s₃) : Step x o₁ s₁ o₃ s₃ := by
  refine ⟨b.rel, fun d o e c n => ?_, fun d h => ?_, fun d o e => ?_⟩
  · have h1 := a.ext d o e c n
    refine b.ext d o h1 c fun hm => ?_
    rcases a.sub d hm with h | h
    · exact n h
    · rw [e] at h; cases h
  · rcases b.sub d h with h | h
    · exact a.sub d h
    · cases e : s₁.heap.get? d with
      | none => exact .inr rfl
      | some o => obtain ⟨o', e'⟩ := a.there d o e; rw [h] at e'; cases e'
  · obtain ⟨o', e'⟩ := a.there d o e
    exact b.there d o' e'
theorem Step.tup {x : Cx} {own own' : Own} {s s' : Shared} (R : Rel x own s) (a : Step x own s own' s') : TupKeep x.bad s.heap s'.heap := fun d vs n _ e => by
  refine a.ext d _ e (by simp) fun hm => ?_
  obtain ⟨p, hp, rfl⟩ := List.mem_map.mp hm
  exact (R.has p hp).notTup e

/-- forgetting -/
theorem Rel.sub {x : Cx} {own own' : Own} {s : Shared} (R : Rel x own s) (h : List.Sublist own' own) : Rel x own' s :=
  ⟨R.old, R.lim, R.os, R.gens, List.Sublist.nodup (h.map _) R.nodup, fun p hp => R.has p (h.subset hp), fun p hp => R.new p (h.subset hp), R.cs, fun p hp => let ⟨a, b, c⟩ := R.ro p hp; ⟨a, fun hm => b ((h.map _).subset hm), c⟩, R.bd, R.kh, R.kin, R.tb⟩
theorem Step.forget {x : Cx} {own own' own'' : Own} {s s' : Shared} (a : Step x own s own' s') (h : List.Sublist own'' own') : Step x own s own'' s' :=
  ⟨a.rel.sub h, a.ext, fun d hd => a.sub d ((h.map _).subset hd), a.there⟩
/-- a start with less known is a start with more known -/
theorem Step.less {x : Cx} {own own₂ own' : Own} {s s' : Shared} (a : Step x own₂ s own' s') (h : List.Sublist own₂ own) : Step x own s own' s' :=
  ⟨a.rel, fun d o e c n => a.ext d o e c fun hm => n ((h.map _).subset hm), fun d hd => (a.sub d hd).imp (fun h' => (h.map _).subset h') id, a.there⟩

section
variable (x : Cx) (A : Around)
def WP {α : Type} (t : Sem α) (own : Own) (P : α → Shared → Own → Prop) : Prop :=
  ∀ s, Rel x own s → wpAny (model x.prog x.w) A t (fun a s' => ∃ own', Step x own s own' s' ∧ P a s' own') (fun _ _ => False) s

def WV (t : Sem Value) (own : Own) (Q : AV → Own → Prop) : Prop := WP x A t own fun v s' own' => ∃ av, Rep x.bad s'.heap av v ∧ Q av own'
def WB (t : Sem Bool) (own : Own) (Q : Bool → Own → Prop) : Prop := WP x A t own fun b _ own' => Q b own'
def WU (t : Sem Unit) (own : Own) (Q : Own → Prop) : Prop := WP x A t own fun _ _ own' => Q own'
inductive AFlow where
  | next | brk | cont
  | ret (v : AV)
def FlowRep (B : List Addr) (h : Heap) : AFlow → Flow → Prop
  | .next, f => f = .next
  | .brk, f => f = .brk
  | .cont, f => f = .cont
  | .ret a, f => ∃ v, f = .ret v ∧ Rep B h a v
def WS (t : Sem Flow) (own : Own) (Q : AFlow → Own → Prop) : Prop := WP x A t own fun f s' own' => ∃ af, FlowRep x.bad s'.heap af f ∧ Q af own'
/-- an operation upon values -/
def WO (t : List Value → Sem Value) (args : List AV) (own : Own) (Q : AV → Own → Prop) : Prop :=
  ∀ vs s, Rel x own s → Reps x.bad s.heap args vs → wpAny (model x.prog x.w) A (t vs) (fun v s' => ∃ own', Step x own s own' s' ∧ ∃ av, Rep x.bad s'.heap av v ∧ Q av own') (fun _ _ => False) s
end

section
variable {x : Cx} {A : Around} {α : Type} {own : Own}

/-- run a part, go on behind it -/
theorem WP.run {t : Sem α} {P : α → Shared → Own → Prop} {K : α → Shared → Prop} {E : Value → Shared → Prop} {own₀ : Own} {s₀ s : Shared} (h : WP x A t own P) (S : Step x own₀ s₀ own s)
    (k : ∀ a s' own', Step x own₀ s₀ own' s' → TupKeep x.bad s.heap s'.heap → P a s' own' → K a s') : wpAny (model x.prog x.w) A t K E s :=
  wpAny_mono (h s S.rel) (fun a s' ⟨own', S', p⟩ => k a s' own' (S.trans S') (S'.tup S.rel) p) fun _ _ f => f.elim
theorem WP.sub {t : Sem α} {P : α → Shared → Own → Prop} {own₂ : Own} (h : WP x A t own₂ P) (hs : List.Sublist own₂ own) : WP x A t own P :=
  fun s R => wpAny_mono (h s (R.sub hs)) (fun _ _ ⟨own', S', p⟩ => ⟨own', S'.less hs, p⟩) fun _ _ f => f
theorem WP.mono {t : Sem α} {P P' : α → Shared → Own → Prop} (h : WP x A t own P) (k : ∀ a s own', P a s own' → P' a s own') : WP x A t own P' :=
  fun s R => wpAny_mono (h s R) (fun _ _ ⟨own', S', p⟩ => ⟨own', S', k _ _ _ p⟩) fun _ _ f => f
theorem WP.drop {t : Sem α} {P P' : α → Shared → Own → Prop} (h : WP x A t own P) (k : ∀ a s own', P a s own' → ∃ own'', List.Sublist own'' own' ∧ P' a s own'') : WP x A t own P' :=
  fun s R => wpAny_mono (h s R) (fun _ _ ⟨own', S', p⟩ => let ⟨own'', hs, p'⟩ := k _ _ _ p; ⟨own'', S'.forget hs, p'⟩) fun _ _ f => f
theorem WV.sub {t : Sem Value} {Q : AV → Own → Prop} {own₂ : Own} (h : WV x A t own₂ Q) (hs : List.Sublist own₂ own) : WV x A t own Q := WP.sub h hs
theorem WV.mono {t : Sem Value} {Q Q' : AV → Own → Prop} (h : WV x A t own Q) (k : ∀ a own', Q a own' → Q' a own') : WV x A t own Q' :=
  WP.mono h fun _ _ _ ⟨av, r, q⟩ => ⟨av, r, k _ _ q⟩
theorem WS.mono {t : Sem Flow} {Q Q' : AFlow → Own → Prop} (h : WS x A t own Q) (k : ∀ a own', Q a own' → Q' a own') : WS x A t own Q' :=
  WP.mono h fun _ _ _ ⟨av, r, q⟩ => ⟨av, r, k _ _ q⟩
theorem WS.sub {t : Sem Flow} {Q : AFlow → Own → Prop} {own₂ : Own} (h : WS x A t own₂ Q) (hs : List.Sublist own₂ own) : WS x A t own Q := WP.sub h hs
end

theorem oldK_step {h₀ h h' : Heap} (K : OldK h₀ h) (hk : ∀ b o o', h₀.get? b = some o → h.get? b = some o' → h'.get? b = some o') : OldK h₀ h' :=
  ⟨fun b o e => by
    rcases K.old b o e with x | ⟨t, hc, vs, more, hv, x⟩ | ⟨rfl, hc, ⟨o', es, n, ho', r⟩, z⟩
    · exact .inl (hk _ _ _ e x)
    · exact .inr (.inl ⟨t, hc, vs, more, hv, hk _ _ _ e x⟩)
    · exact .inr (.inr ⟨rfl, hc, ⟨o', es, n, hk _ _ _ e ho', r⟩, fun key => by rw [OldK.staticOf_congr ((hk _ _ _ e ho').trans ho'.symm) key]; exact z key⟩),
   fun b o e => let ⟨o', ho'⟩ := K.there b o e; ⟨o', hk _ _ _ e ho'⟩⟩

theorem mem_addrs {own : Own} {p : Addr × AObj} (h : p ∈ own) : p.1 ∈ addrs own := List.mem_map.mpr ⟨p, h, rfl⟩

theorem Step.make {x : Cx} {own own' : Own} {s : Shared} {h' : Heap} {g : Array GenState} {tk : Nat} (R : Rel x own s)
    (keep : ∀ b o, b ∉ addrs own → s.heap.get? b = some o → h'.get? b = some o)
    (there : ∀ p ∈ own, ∃ o', h'.get? p.1 = some o')
    (nodup : (addrs own').Nodup) (has : ∀ p ∈ own', Has x.prog x.w x.bad h' p.1 p.2) (sub : ∀ a ∈ addrs own', a ∈ addrs own ∨ s.heap.get? a = none) (hg : AllBare g) :
    Step x own s own' { s with heap := h', gens := g, toks := tk } := by
  have off : ∀ b o, x.h₀.get? b = some o → b ∉ addrs own := fun b o e hm => by
    obtain ⟨p, hp, rfl⟩ := List.mem_map.mp hm
    rw [R.new p hp] at e; cases e
  have tup : TupKeep x.bad s.heap h' := fun d vs n _ e => keep d _ (fun hm => by
    obtain ⟨p, hp, rfl⟩ := List.mem_map.mp hm
    exact (R.has p hp).notTup e) e
  refine ⟨⟨oldK_step R.old fun b o o' e e' => keep b o' (off b o e) e', ?_, R.os, hg, nodup, has, fun p hp => ?_, R.cs, fun p hp => ?_, fun a ha => ?_, R.kh, fun b o e => keep b o (off b o (R.kh b o e)) (R.kin b o e), fun p hp => let ⟨⟨o1, e1⟩, ⟨o2, e2⟩, T⟩ := R.tb p hp; ⟨⟨o1, e1⟩, ⟨o2, e2⟩, T.keep fun b o hb e => keep b o (by rcases hb with rfl | rfl; exact off _ _ e1; exact off _ _ e2) e⟩⟩, fun a o e _ n => keep a o n e, sub, fun a o e => ?_⟩
  · obtain ⟨mc, ⟨o, es, ep, ho, r⟩, q⟩ := R.lim
    obtain ⟨oc, hoc⟩ := R.cs
    exact ⟨mc, ⟨o, es, ep, keep _ _ (off _ _ hoc) ho, r⟩, q⟩
  · rcases sub _ (mem_addrs hp) with h | h
    · obtain ⟨q, hq, e⟩ := List.mem_map.mp h
      rw [← e]; exact R.new q hq
    · cases e : x.h₀.get? p.1 with
      | none => rfl
        | some o => obtain ⟨o', e'⟩ := R.old.there _ _ e; rw [h] at e'; cases e'
  · obtain ⟨h1, h2, o, e, c⟩ := R.ro p hp
    have e' := keep _ _ h2 e
    refine ⟨h1.keep tup (e'.trans e.symm), fun hm => ?_, o, e', c⟩
    rcases sub _ hm with h | h
    · exact h2 h
    · rw [e] at h; cases h
  · obtain ⟨o, e⟩ := R.bd a ha
    by_cases hm : a ∈ addrs own
    · obtain ⟨p, hp, rfl⟩ := List.mem_map.mp hm
      exact there p hp
    · exact ⟨o, keep a o hm e⟩
  · by_cases hm : a ∈ addrs own
    · obtain ⟨p, hp, rfl⟩ := List.mem_map.mp hm
      exact there p hp
    · exact ⟨o, keep a o hm e⟩

theorem Has.grow {P : Program} {W : World} {B : List Addr} {h h' : Heap} {a : Addr} {o : AObj} (H : Has P W B h a o) (hk : ∀ b o, h.get? b = some o → h'.get? b = some o) : Has P W B h' a o := by
  obtain ⟨ob, e⟩ := H.there
  exact H.keep (fun a vs n _ e => hk _ _ e) ((hk _ _ e).trans e.symm)

/-- nothing old is touched -/
theorem Step.grow {x : Cx} {own : Own} {s : Shared} {h' : Heap} {tk : Nat} (R : Rel x own s) (hk : ∀ b o, s.heap.get? b = some o → h'.get? b = some o) :
    Step x own s own { s with heap := h', toks := tk } :=
  Step.make R (fun b o _ e => hk b o e) (fun p hp => let ⟨o, e⟩ := (R.has p hp).there; ⟨o, hk _ _ e⟩) R.nodup (fun p hp => (R.has p hp).grow hk) (fun _ h => .inl h) R.gens
theorem Step.toks {x : Cx} {own : Own} {s : Shared} {tk : Nat} (R : Rel x own s) : Step x own s own { s with toks := tk } := Step.grow R fun _ _ e => e

/-- a new object is made -/
theorem Step.new {x : Cx} {own : Own} {s : Shared} {h' : Heap} {tk : Nat} {a : Addr} {o : AObj} (R : Rel x own s) (hk : ∀ b o, s.heap.get? b = some o → h'.get? b = some o)
    (ha : s.heap.get? a = none) (H : Has x.prog x.w x.bad h' a o) : Step x own s ((a, o) :: own) { s with heap := h', toks := tk } := by
  refine Step.make R (fun b o _ e => hk b o e) (fun p hp => let ⟨o, e⟩ := (R.has p hp).there; ⟨o, hk _ _ e⟩) ?_ ?_ ?_ R.gens
  · refine List.nodup_cons.mpr ⟨fun hm => ?_, R.nodup⟩
    obtain ⟨p, hp, e⟩ := List.mem_map.mp hm
    obtain ⟨ob, e'⟩ := (R.has p hp).there
    rw [e, ha] at e'; cases e'
  · intro p hp
    rcases List.mem_cons.mp hp with rfl | hp
    · exact H
    · exact (R.has p hp).grow hk
  · intro b hb
    rcases List.mem_cons.mp hb with rfl | hb
    · exact .inr ha
    · exact .inl hb
theorem fresh_none (h : Heap) : h.get? h.objs.size = none := by
  cases e : h.get? h.objs.size with
  | none => rfl
  | some o => exact absurd (Heap.lt_size e) (Nat.lt_irrefl _)

inductive Upd (a : Addr) (o o' : AObj) : Own → Own → Prop
  | z {r : Own} : Upd a o o' ((a, o) :: r) ((a, o') :: r)
  | s {p : Addr × AObj} {r r' : Own} : Upd a o o' r r' → Upd a o o' (p :: r) (p :: r')
theorem Upd.mem {a : Addr} {o o' : AObj} {l l' : Own} (u : Upd a o o' l l') : (a, o) ∈ l := by
  induction u with
  | z => exact .head _
  | s _ ih => exact .tail _ ih
theorem Upd.addrs {a : Addr} {o o' : AObj} {l l' : Own} (u : Upd a o o' l l') : addrs l' = addrs l := by
  induction u with
  | z => rfl
  | @s p _ _ _ ih => show p.1 :: Mine.addrs _ = p.1 :: Mine.addrs _; rw [ih]
theorem Upd.mem' {a : Addr} {o o' : AObj} {l l' : Own} (u : Upd a o o' l l') : ∀ p ∈ l', p = (a, o') ∨ p ∈ l := by
  induction u with
  | z => intro p hp; rcases List.mem_cons.mp hp with h | h
         · exact .inl h
         · exact .inr (.tail _ h)
  | s _ ih => intro p hp; rcases List.mem_cons.mp hp with h | h
              · exact .inr (h ▸ .head _)
              · exact (ih p h).imp id (.tail _)
theorem Upd.off {a : Addr} {o o' : AObj} {l l' : Own} (u : Upd a o o' l l') (nd : (Mine.addrs l).Nodup) : ∀ p ∈ l', p = (a, o') ∨ (p ∈ l ∧ p.1 ≠ a) := by
  induction u with
  | z => 
    intro p hp; rcases List.mem_cons.mp hp with h | h
    · exact .inl h
    · refine .inr ⟨.tail _ h, fun e => (List.nodup_cons.mp nd).1 ?_⟩
      show a ∈ _
      exact e ▸ mem_addrs h
  | @s q r r' u ih =>
    intro p hp; rcases List.mem_cons.mp hp with h | h
    · refine .inr ⟨h ▸ .head _, fun e => (List.nodup_cons.mp nd).1 ?_⟩
      have := mem_addrs u.mem
      show q.1 ∈ _
      rw [← h, e]; exact this
    · exact (ih (List.nodup_cons.mp nd).2 p h).imp id fun ⟨a, b⟩ => ⟨.tail _ a, b⟩

/-- one object is turned -/
theorem Step.upd {x : Cx} {own own' : Own} {s : Shared} {h' : Heap} {tk : Nat} {a : Addr} {o o' : AObj} (R : Rel x own s) (u : Upd a o o' own own')
    (hk : ∀ b o, b ≠ a → s.heap.get? b = some o → h'.get? b = some o) (H : Has x.prog x.w x.bad h' a o') : Step x own s own' { s with heap := h', toks := tk } := by
  have tk' : TupKeep x.bad s.heap h' := fun b vs n _ e => hk b _ (fun eb => by subst eb; exact (R.has _ u.mem).notTup e) e
  refine Step.make R (fun b o n e => hk b o (fun eb => n (eb ▸ mem_addrs u.mem)) e) (fun p hp => ?_) (u.addrs ▸ R.nodup) ?_ (fun b hb => .inl (u.addrs ▸ hb)) R.gens
  · by_cases e : p.1 = a
    · rw [e]; exact H.there
    · obtain ⟨ob, e'⟩ := (R.has p hp).there; exact ⟨ob, hk _ _ e e'⟩
  · intro p hp
    rcases u.off R.nodup p hp with rfl | ⟨h, n⟩
    · exact H
    · obtain ⟨ob, e'⟩ := (R.has p h).there
      exact (R.has p h).keep tk' ((hk _ _ n e').trans e'.symm)
end
section
theorem reps1 {B : List Addr} {h : Heap} {a : AV} {vs : List Value} (e : Reps B h [a] vs) : ∃ u, vs = [u] ∧ Rep B h a u := by
  simp only [Reps] at e
  obtain ⟨u, r, rfl, h1, rfl⟩ := e
  exact ⟨u, rfl, h1⟩
theorem reps2 {B : List Addr} {h : Heap} {a b : AV} {vs : List Value} (e : Reps B h [a, b] vs) : ∃ u v, vs = [u, v] ∧ Rep B h a u ∧ Rep B h b v := by
  simp only [Reps] at e
  obtain ⟨u, r, rfl, h1, v, r2, rfl, h2, rfl⟩ := e
  exact ⟨u, v, rfl, h1, h2⟩
theorem reps3 {B : List Addr} {h : Heap} {a b c : AV} {vs : List Value} (e : Reps B h [a, b, c] vs) : ∃ u v w, vs = [u, v, w] ∧ Rep B h a u ∧ Rep B h b v ∧ Rep B h c w := by
  simp only [Reps] at e
  obtain ⟨u, r, rfl, h1, v, r2, rfl, h2, w, r3, rfl, h3, rfl⟩ := e
  exact ⟨u, v, w, rfl, h1, h2, h3⟩
theorem rep_int {B : List Addr} {h : Heap} {i : Int} {v : Value} (e : Rep B h (.int i) v) : ∃ t, v = .int i t := by simpa only [Rep] using e
theorem rep_str {B : List Addr} {h : Heap} {i : Str} {v : Value} (e : Rep B h (.str i) v) : ∃ t, v = .str i t := by simpa only [Rep] using e
theorem rep_byt {B : List Addr} {h : Heap} {i : List Int} {v : Value} (e : Rep B h (.byt i) v) : ∃ c t, v = .bytes c t ∧ KBw.bInts c = i := by simpa only [Rep] using e
theorem rep_val {B : List Addr} {h : Heap} {i : Value} {v : Value} (e : Rep B h (.val i) v) : v = i := by simpa only [Rep] using e
theorem rep_tup {B : List Addr} {h : Heap} {xs : List AV} {v : Value} (e : Rep B h (.tup xs) v) : ∃ a vs n, v = .ref a ∧ a ∉ B ∧ h.get? a = some { cls := .type "tuple", data := .seq vs n } ∧ Reps B h xs vs.toList := by simpa only [Rep] using e
theorem rep_mk_int {B : List Addr} {h : Heap} {i : Int} {t : Tok} : Rep B h (.int i) (.int i t) := by simp only [Rep]; exact ⟨t, rfl⟩
theorem rep_mk_str {B : List Addr} {h : Heap} {i : Str} {t : Tok} : Rep B h (.str i) (.str i t) := by simp only [Rep]; exact ⟨t, rfl⟩
theorem rep_mk_byt {B : List Addr} {h : Heap} {i : List Int} {c : Array UInt8} {t : Tok} (e : KBw.bInts c = i) : Rep B h (.byt i) (.bytes c t) := by simp only [Rep]; exact ⟨c, t, rfl, e⟩
theorem rep_mk_val {B : List Addr} {h : Heap} {v : Value} : Rep B h (.val v) v := by simp only [Rep]

/-- a frame -/
structure Fm (n : Nat) (A : Around) (env : Env) (nm gn : List Str) : Prop where
  hnd : A.handled = none
  dep : A.depth + n < recursionLimit
  uni : A.units + 20 * n < cLine
  kind : env.scope.kind = .function
  loc : ∀ y ∈ nm, env.kindOf y = some .local ∧ (y == ("__debug__" : Str)) = false
  glo : ∀ y ∈ gn, env.kindOf y = some .globalImplicit ∧ (y == ("__debug__" : Str)) = false
  gl : env.globals = mainGlobals
  bi : env.builtins = builtinsNs

structure Tp (h₀ : Heap) (mg mb : Str → Option Value) : Prop where
  g : h₀.Ns mainGlobals mg
  gc : ∀ o, h₀.get? mainGlobals = some o → o.cls ≠ .none
  b : h₀.Ns builtinsNs mb
  bc : ∀ o, h₀.get? builtinsNs = some o → o.cls ≠ .none

theorem Rel.get {x : Cx} {own : Own} {s : Shared} (R : Rel x own s) {a : Addr} {o : Obj} (e : x.h₀.get? a = some o) (c : o.cls ≠ .none) : s.heap.get? a = some o := R.old.get_of_cls e c
theorem Tp.ns {x : Cx} {mg mb : Str → Option Value} (T : Tp x.h₀ mg mb) {own : Own} {s : Shared} (R : Rel x own s) : s.heap.Ns mainGlobals mg :=
  let ⟨o, es, ep, e, r⟩ := T.g; ⟨o, es, ep, R.get e (T.gc _ e), r⟩
theorem Tp.nb {x : Cx} {mg mb : Str → Option Value} (T : Tp x.h₀ mg mb) {own : Own} {s : Shared} (R : Rel x own s) : s.heap.Ns builtinsNs mb :=
  let ⟨o, es, ep, e, r⟩ := T.b; ⟨o, es, ep, R.get e (T.bc _ e), r⟩

theorem NsRep.get {B : List Addr} {h : Heap} {f : Str → Option Value} {nm : List Str} {m : List AV} (e : NsRep B h f nm m) : ∀ {i : Nat} {y : Str} {a : AV}, (nm : List Str)[i]? = some y → (m : List AV)[i]? = some a → a.known → ∃ v, f y = some v ∧ Rep B h a v := by
  induction e with
  | nil => intro i y a h1; simp at h1
  | any _ ih =>
    intro i y a h1 h2 k
    cases i with
    | zero => simp at h2; subst h2; exact k.elim
    | succ i => exact ih (by simpa using h1) (by simpa using h2) k
  | cons a1 b1 _ ih =>
    intro i y a h1 h2 k
    cases i with
    | zero => simp at h1 h2; subst h1 h2; exact ⟨_, a1, b1⟩
    | succ i => exact ih (by simpa using h1) (by simpa using h2) k

inductive SetAt (v : AV) : Nat → List AV → List AV → Prop
  | z {a : AV} {m : List AV} : SetAt v 0 (a :: m) (v :: m)
  | s {a : AV} {n : Nat} {m m' : List AV} : SetAt v n m m' → SetAt v (n + 1) (a :: m) (a :: m')

theorem NsRep.same {B : List Addr} {h : Heap} {f f' : Str → Option Value} {nm : List Str} {m : List AV} (e : NsRep B h f nm m) (q : ∀ y ∈ nm, f' y = f y) : NsRep B h f' nm m := by
  induction e with
  | nil => exact .nil
  | any _ ih => exact .any (ih fun y hy => q y (.tail _ hy))
  | cons a b _ ih => exact .cons ((q _ (.head _)).trans a) b (ih fun y hy => q y (.tail _ hy))
theorem NsRep.set {B : List Addr} {h : Heap} {f : Str → Option Value} {nm : List Str} {m m' : List AV} (e : NsRep B h f nm m) (nd : nm.Nodup) {i : Nat} {y : Str} {a : AV} {v : Value} (hi : nm[i]? = some y) (u : SetAt a i m m') (r : Rep B h a v) (k : a.known) :
    NsRep B h (fun z => if z = y then some v else f z) nm m' := by
  induction e generalizing i m' with
  | nil => simp at hi
  | @any z nm m e ih =>
    have nd' := List.nodup_cons.mp nd
    cases u with
    | z =>
      simp at hi; subst hi
      refine .cons (by simp) r (e.same fun w hw => ?_)
      have : w ≠ z := fun q => nd'.1 (q ▸ hw)
      simp [this]
    | s u =>
      rw [List.getElem?_cons_succ] at hi
      exact .any (ih nd'.2 hi u)
  | @cons z b w nm m e1 e2 e ih =>
    have nd' := List.nodup_cons.mp nd
    cases u with
    | z =>
      simp at hi; subst hi
      refine .cons (by simp) r (e.same fun w hw => ?_)
      have : w ≠ z := fun q => nd'.1 (q ▸ hw)
      simp [this]
    | s u =>
      rw [List.getElem?_cons_succ] at hi
      have : z ≠ y := fun q => nd'.1 (q ▸ List.mem_of_getElem? hi)
      exact .cons (by simp [this, e1]) e2 (ih nd'.2 hi u)

section
variable {x : Cx} {A : Around} {own : Own} {env : Env} {n : Nat} {nm gn : List Str} {Q : AV → Own → Prop}

theorem E_loc (H : Fm n A env nm gn) (i : Nat) {y : Str} {p : Pos} {m : List AV} {a : AV} (hi : nm[i]? = some y) (hm : (env.locals, AObj.ns nm m) ∈ own) (ha : m[i]? = some a) (k : a.known) (q : Q a own) :
    WV x A (eval (.Name y p) env) own Q := fun s R => by
  obtain ⟨f, hf, r, nd⟩ := R.has _ hm
  obtain ⟨v, hv, rv⟩ := r.get hi ha k
  obtain ⟨l1, l2⟩ := H.loc y (List.mem_of_getElem? hi)
  exact wpAny_Name (wpAny_loadName_local H.kind l1 hf hv ⟨own, Step.refl R, a, rv, q⟩) l2
theorem E_cell (H : Fm n A env nm gn) {y : Str} {p : Pos} {c : Addr} {a : AV} (hk : env.kindOf y = some .cell) (hc : env.cells.lookup y = some c) (hm : (c, AObj.cell a) ∈ own) (k : a.known) (q : Q a own) (hd : (y == ("__debug__" : Str)) = false := by decide) :
    WV x A (eval (.Name y p) env) own Q := fun s R => by
  obtain ⟨v, hv, r⟩ := R.has _ hm
  obtain ⟨u, rfl, r'⟩ : ∃ u, v = some u ∧ Rep x.bad s.heap a u := by
    cases a <;> first | exact r | exact k.elim
  exact wpAny_Name (wpAny_loadName_cell H.kind hk hc hv ⟨own, Step.refl R, a, r', q⟩) hd
theorem E_free (H : Fm n A env nm gn) {y : Str} {p : Pos} {c : Addr} {a : AV} (hk : env.kindOf y = some .free) (hc : env.cells.lookup y = some c) (hm : (c, AObj.cell a) ∈ own) (k : a.known) (q : Q a own) (hd : (y == ("__debug__" : Str)) = false := by decide) (hcd : (y == ("__classdict__" : Str)) = false := by decide) :
    WV x A (eval (.Name y p) env) own Q := fun s R => by
  obtain ⟨v, hv, r⟩ := R.has _ hm
  obtain ⟨u, rfl, r'⟩ : ∃ u, v = some u ∧ Rep x.bad s.heap a u := by
    cases a <;> first | exact r | exact k.elim
  exact wpAny_Name (wpAny_loadName_free H.kind hk hc hv ⟨own, Step.refl R, a, r', q⟩ hcd) hd
theorem E_glo {mg mb : Str → Option Value} (T : Tp x.h₀ mg mb) (H : Fm n A env nm gn) (i : Nat) {y : Str} {p : Pos} {v : Value} (hi : gn[i]? = some y) (hv : mg y = some v) (q : Q (.val v) own) :
    WV x A (eval (.Name y p) env) own Q := fun s R => by
  obtain ⟨l1, l2⟩ := H.glo y (List.mem_of_getElem? hi)
  exact Calls.Name_function_global H.kind l1 (Calls.loadGlobal_global (H.gl ▸ T.ns R) hv ⟨own, Step.refl R, _, rep_mk_val, q⟩) l2
theorem E_bui {mg mb : Str → Option Value} (T : Tp x.h₀ mg mb) (H : Fm n A env nm gn) (i : Nat) {y : Str} {p : Pos} {v : Value} (hi : gn[i]? = some y) (hn : mg y = none) (hv : mb y = some v) (q : Q (.val v) own) :
    WV x A (eval (.Name y p) env) own Q := fun s R => by
  obtain ⟨l1, l2⟩ := H.glo y (List.mem_of_getElem? hi)
  exact Calls.Name_function_global H.kind l1 (Calls.loadGlobal_builtin (H.gl ▸ T.ns R) hn (H.bi ▸ T.nb R) hv ⟨own, Step.refl R, _, rep_mk_val, q⟩) l2

theorem E_int {i : Int} {k : Nat} {p : Pos} (q : Q (.int i) own) : WV x A (eval (.Constant (.int i) k p) env) own Q := fun s R =>
  wpAny_Constant_int ⟨own, Step.toks R, _, rep_mk_int, q⟩
theorem E_str {i : Str} {k : Nat} {p : Pos} (q : Q (.str i) own) : WV x A (eval (.Constant (.str i) k p) env) own Q := fun s R =>
  wpAny_Constant_str ⟨own, Step.toks R, _, rep_mk_str, q⟩
theorem E_none {k : Nat} {p : Pos} (q : Q (.val .none) own) : WV x A (eval (.Constant .none k p) env) own Q := fun s R =>
  wpAny_Constant_none ⟨own, Step.refl R, _, rep_mk_val, q⟩
theorem E_bool {b : Bool} {k : Nat} {p : Pos} (q : Q (.val (.bool b)) own) : WV x A (eval (.Constant (.bool b) k p) env) own Q := fun s R =>
  wpAny_Constant_bool ⟨own, Step.refl R, _, rep_mk_val, q⟩

def bop (op : Operator) (vs : List Value) : Sem Value := match vs with
  | [u, v] => binaryOp op u v
  | _ => unsupported ""
def cop (op : CmpOp) (vs : List Value) : Sem Value := match vs with
  | [u, v] => compareOp op u v
  | _ => unsupported ""
def uop (op : UnaryOp) (vs : List Value) : Sem Value := match vs with
  | [u] => unaryOp op u
  | _ => unsupported ""
def WT (x : Cx) (A : Around) (a : AV) (own : Own) (Q : Bool → Own → Prop) : Prop :=
  ∀ v s, Rel x own s → Rep x.bad s.heap a v → wpAny (model x.prog x.w) A (truthy v) (fun b s' => ∃ own', Step x own s own' s' ∧ Q b own') (fun _ _ => False) s

theorem E_bin {l r : Expr} {op : Operator} {p : Pos} (h : WV x A (eval l env) own fun a own1 => WV x A (eval r env) own1 fun b own2 => WO x A (bop op) [a, b] own2 Q) :
    WV x A (eval (.BinOp l op r p) env) own Q := fun s R =>
  wpAny_BinOp (h.run (Step.refl R) fun v1 s1 own1 S1 k1 ⟨a, r1, h1⟩ => h1.run S1 fun v2 s2 own2 S2 k2 ⟨b, r2, h2⟩ =>
    wpAny_mono (h2 [v1, v2] s2 S2.rel (Reps.cons (Rep.mono k2 _ _ r1) (Reps.cons r2 .nil))) (fun v s3 ⟨own3, S3, q⟩ => ⟨own3, S2.trans S3, q⟩) fun _ _ f => f)
theorem E_cmp {l r : Expr} {op : CmpOp} {p : Pos} (h : WV x A (eval l env) own fun a own1 => WV x A (eval r env) own1 fun b own2 => WO x A (cop op) [a, b] own2 Q)
    (hm : behindInMarks op r = false := by with_unfolding_all rfl) :
    WV x A (eval (.Compare l [op] [r] p) env) own Q := fun s R =>
  wpAny_Compare1 (h.run (Step.refl R) fun v1 s1 own1 S1 k1 ⟨a, r1, h1⟩ => h1.run S1 fun v2 s2 own2 S2 k2 ⟨b, r2, h2⟩ =>
    wpAny_mono (h2 [v1, v2] s2 S2.rel (Reps.cons (Rep.mono k2 _ _ r1) (Reps.cons r2 .nil))) (fun v s3 ⟨own3, S3, q⟩ => ⟨own3, S2.trans S3, q⟩) fun _ _ f => f) hm
theorem E_una {l : Expr} {op : UnaryOp} {p : Pos} (h : WV x A (eval l env) own fun a own1 => WO x A (uop op) [a] own1 Q) :
    WV x A (eval (.UnaryOp op l p) env) own Q := fun s R =>
  wpAny_UnaryOp (h.run (Step.refl R) fun v1 s1 own1 S1 k1 ⟨a, r1, h1⟩ =>
    wpAny_mono (h1 [v1] s1 S1.rel (Reps.cons r1 .nil)) (fun v s3 ⟨own3, S3, q⟩ => ⟨own3, S1.trans S3, q⟩) fun _ _ f => f)

theorem B_cmp {l r : Expr} {op : CmpOp} {p : Pos} {w : Sem Value} {Q : Bool → Own → Prop} (h : WV x A (eval l env) own fun a own1 => WV x A (eval r env) own1 fun b own2 => WO x A (cop op) [a, b] own2 fun c own3 => ∃ t, c = .val (.bool t) ∧ Q t own3)
    (hm : behindInMarks op r = false := by with_unfolding_all rfl) :
    WB x A (isTrue (.Compare l [op] [r] p) env w) own Q := fun s R =>
  wpAny_isTrue_Compare1 (h.run (Step.refl R) fun v1 s1 own1 S1 k1 ⟨a, r1, h1⟩ => h1.run S1 fun v2 s2 own2 S2 k2 ⟨b, r2, h2⟩ =>
    wpAny_mono (h2 [v1, v2] s2 S2.rel (Reps.cons (Rep.mono k2 _ _ r1) (Reps.cons r2 .nil))) (fun v s3 ⟨own3, S3, c, rc, t, e, q⟩ => by
      subst e
      rw [rep_val rc]
      exact wpAny_truthy_bool ⟨own3, S2.trans S3, q⟩) fun _ _ f => f) hm
theorem B_not {e : Expr} {p : Pos} {w : Sem Value} {Q : Bool → Own → Prop} (h : WB x A (isTrue e env (eval e env)) own fun b => Q (!b)) : WB x A (isTrue (.UnaryOp .Not e p) env w) own Q := fun s R =>
  wpAny_isTrue_Not (h s R)
theorem B_val {e : Expr} {Q : Bool → Own → Prop} (h : WV x A (eval e env) own fun a own1 => WT x A a own1 Q)
    (he : isTrue e env (eval e env) = (do let v ← eval e env; standAt e.pos; holding [v] (truthy v)) := by with_unfolding_all rfl) : WB x A (isTrue e env (eval e env)) own Q := fun s R =>
  wpAny_isTrue_value (h.run (Step.refl R) fun v1 s1 own1 S1 k1 ⟨a, r1, h1⟩ =>
    wpAny_mono (h1 v1 s1 S1.rel r1) (fun v s3 ⟨own3, S3, q⟩ => ⟨own3, S1.trans S3, q⟩) fun _ _ f => f) he

theorem E_if {t b o : Expr} {p : Pos} (h : WB x A (isTrue t env (eval t env)) own fun c own1 => (c = true → WV x A (eval b env) own1 Q) ∧ (c = false → WV x A (eval o env) own1 Q)) :
    WV x A (eval (.IfExp t b o p) env) own Q := fun s R =>
  wpAny_IfExp (WP.run h (Step.refl R) fun c s1 own1 S1 k1 h1 => by
    cases c with
    | true => exact (h1.1 rfl).run S1 fun v s2 own2 S2 k2 q => ⟨own2, S2, q⟩
    | false => exact (h1.2 rfl).run S1 fun v s2 own2 S2 k2 q => ⟨own2, S2, q⟩)

/-- operations upon ints -/
theorem O_add {a b : Int} (q : Q (.int (a + b)) own) : WO x A (bop .Add) [.int a, .int b] own Q := fun vs s R r => by
  obtain ⟨u, v, rfl, r1, r2⟩ := reps2 r; obtain ⟨t, rfl⟩ := rep_int r1; obtain ⟨t', rfl⟩ := rep_int r2
  exact add_int ⟨own, Step.toks R, _, rep_mk_int, q⟩
theorem O_sub {a b : Int} (q : Q (.int (a - b)) own) : WO x A (bop .Sub) [.int a, .int b] own Q := fun vs s R r => by
  obtain ⟨u, v, rfl, r1, r2⟩ := reps2 r; obtain ⟨t, rfl⟩ := rep_int r1; obtain ⟨t', rfl⟩ := rep_int r2
  exact sub_int ⟨own, Step.toks R, _, rep_mk_int, q⟩
theorem O_mul {a b : Int} (ok : IntMulOk a b) (q : Q (.int (a * b)) own) : WO x A (bop .Mult) [.int a, .int b] own Q := fun vs s R r => by
  obtain ⟨u, v, rfl, r1, r2⟩ := reps2 r; obtain ⟨t, rfl⟩ := rep_int r1; obtain ⟨t', rfl⟩ := rep_int r2
  exact mul_int ⟨own, Step.toks R, _, rep_mk_int, q⟩ ok
theorem O_div {a b : Int} (hb : 0 < b) (q : Q (.int (a / b)) own) (hp : Builtin.divisionGoesByPylong a b = false) : WO x A (bop .FloorDiv) [.int a, .int b] own Q := fun vs s R r => by
  obtain ⟨u, v, rfl, r1, r2⟩ := reps2 r; obtain ⟨t, rfl⟩ := rep_int r1; obtain ⟨t', rfl⟩ := rep_int r2
  have e : a.fdiv b = a / b := Int.fdiv_eq_ediv_of_nonneg _ (by omega)
  exact floordiv_int (by omega) ⟨own, Step.toks R, _, by rw [e]; exact rep_mk_int, q⟩ (.inl hp)
theorem O_mod {a b : Int} (hb : 0 < b) (q : Q (.int (a % b)) own) : WO x A (bop .Mod) [.int a, .int b] own Q := fun vs s R r => by
  obtain ⟨u, v, rfl, r1, r2⟩ := reps2 r; obtain ⟨t, rfl⟩ := rep_int r1; obtain ⟨t', rfl⟩ := rep_int r2
  have e : a.fmod b = a % b := Int.fmod_eq_emod_of_nonneg _ (by omega)
  exact mod_int' (by omega) ⟨own, Step.toks R, _, by rw [e]; exact rep_mk_int, q⟩
theorem O_cat {a b : Str} (hz : a.length + b.length ≤ sizeLine) (q : Q (.str (a ++ b)) own) : WO x A (bop .Add) [.str a, .str b] own Q := fun vs s R r => by
  obtain ⟨u, v, rfl, r1, r2⟩ := reps2 r; obtain ⟨t, rfl⟩ := rep_str r1; obtain ⟨t', rfl⟩ := rep_str r2
  exact add_str (fun _ _ => ⟨own, Step.toks R, _, rep_mk_str, q⟩) hz
theorem O_eq {a b : Int} (q : Q (.val (.bool (a == b))) own) : WO x A (cop .Eq) [.int a, .int b] own Q := fun vs s R r => by
  obtain ⟨u, v, rfl, r1, r2⟩ := reps2 r; obtain ⟨t, rfl⟩ := rep_int r1; obtain ⟨t', rfl⟩ := rep_int r2
  exact eq_int ⟨own, Step.refl R, _, rep_mk_val, q⟩
theorem O_ne {a b : Int} (q : Q (.val (.bool (a != b))) own) : WO x A (cop .NotEq) [.int a, .int b] own Q := fun vs s R r => by
  obtain ⟨u, v, rfl, r1, r2⟩ := reps2 r; obtain ⟨t, rfl⟩ := rep_int r1; obtain ⟨t', rfl⟩ := rep_int r2
  exact ne_int ⟨own, Step.refl R, _, rep_mk_val, q⟩
theorem O_lt {a b : Int} (q : Q (.val (.bool (decide (a < b)))) own) : WO x A (cop .Lt) [.int a, .int b] own Q := fun vs s R r => by
  obtain ⟨u, v, rfl, r1, r2⟩ := reps2 r; obtain ⟨t, rfl⟩ := rep_int r1; obtain ⟨t', rfl⟩ := rep_int r2
  exact lt_int ⟨own, Step.refl R, _, rep_mk_val, q⟩
theorem O_gt {a b : Int} (q : Q (.val (.bool (decide (b < a)))) own) : WO x A (cop .Gt) [.int a, .int b] own Q := fun vs s R r => by
  obtain ⟨u, v, rfl, r1, r2⟩ := reps2 r; obtain ⟨t, rfl⟩ := rep_int r1; obtain ⟨t', rfl⟩ := rep_int r2
  exact gt_int ⟨own, Step.refl R, _, rep_mk_val, q⟩
theorem O_le {a b : Int} (q : Q (.val (.bool (decide (a ≤ b)))) own) : WO x A (cop .LtE) [.int a, .int b] own Q := fun vs s R r => by
  obtain ⟨u, v, rfl, r1, r2⟩ := reps2 r; obtain ⟨t, rfl⟩ := rep_int r1; obtain ⟨t', rfl⟩ := rep_int r2
  exact le_int ⟨own, Step.refl R, _, rep_mk_val, q⟩
theorem O_ge {a b : Int} (q : Q (.val (.bool (decide (b ≤ a)))) own) : WO x A (cop .GtE) [.int a, .int b] own Q := fun vs s R r => by
  obtain ⟨u, v, rfl, r1, r2⟩ := reps2 r; obtain ⟨t, rfl⟩ := rep_int r1; obtain ⟨t', rfl⟩ := rep_int r2
  exact ge_int ⟨own, Step.refl R, _, rep_mk_val, q⟩
theorem T_bool {b : Bool} {Q : Bool → Own → Prop} (q : Q b own) : WT x A (.val (.bool b)) own Q := fun v s R r => by
  rw [rep_val r]; exact wpAny_truthy_bool ⟨own, Step.refl R, q⟩
end
end
section
def AObj.fz : AObj → Prop
  | .list _ | .dictI _ | .dictS _ | .inst _ _ | .iter _ _ | .dictTI _ | .dictTS _ | .attrs _ | .view _ _ | .rng _ _ _ => True
  | _ => False
theorem Has.cls {P : Program} {W : World} {B : List Addr} {h : Heap} {a : Addr} {o : AObj} (H : Has P W B h a o) (f : o.fz) : ∃ ob, h.get? a = some ob ∧ ob.cls ≠ .none := by
  cases o with
  | list xs => obtain ⟨ws, ⟨n, e'⟩, r⟩ := H; exact ⟨_, e', by simp⟩
  | inst C d => obtain ⟨sl, e'⟩ := H; exact ⟨_, e', by simp⟩
  | dictI es => obtain ⟨_, kvs, ep, ⟨o, es, e', d⟩, r⟩ := H; exact ⟨_, e', by rw [d.1.1]; simp⟩
  | dictS es => obtain ⟨_, kvs, ep, ⟨o, es, e', d⟩, r⟩ := H; exact ⟨_, e', by rw [d.1.1]; simp⟩
  | iter l i => obtain ⟨o, e', c, _⟩ := H; exact ⟨_, e', by rw [c]; simp⟩
  | dictTI es => obtain ⟨_, o, ds, ep, xs, e', d, _⟩ := H; exact ⟨_, e', by rw [d.1]; simp⟩
  | dictTS es => obtain ⟨_, o, ds, ep, xs, e', d, _⟩ := H; exact ⟨_, e', by rw [d.1]; simp⟩
  | attrs es => obtain ⟨o, ds, ep, e', c, _⟩ := H; exact ⟨_, e', by rw [c]; simp⟩
  | view T d => obtain ⟨o, e', c, _⟩ := H; exact ⟨_, e', by rw [c]; simp⟩
  | rng i j k => obtain ⟨t, u, v, e'⟩ := H; exact ⟨_, e', by simp⟩
  | _ => exact f.elim

inductive Sel (p : Addr × AObj) : Own → Own → Prop
  | z {r : Own} : Sel p (p :: r) r
  | s {q : Addr × AObj} {r r' : Own} : Sel p r r' → Sel p (q :: r) (q :: r')
theorem Sel.perm {p : Addr × AObj} {l l' : Own} (h : Sel p l l') : l.Perm (p :: l') := by
  induction h with
  | z => exact .refl _
  | s _ ih => exact (List.Perm.cons _ ih).trans (.swap ..)
theorem Rel.perm {x : Cx} {own own' : Own} {s : Shared} (R : Rel x own s) (h : own.Perm own') : Rel x own' s :=
  ⟨R.old, R.lim, R.os, R.gens, (by have := R.nodup; unfold addrs at *; exact (h.map (·.1)).nodup_iff.mp this), fun p hp => R.has p (h.mem_iff.mpr hp), fun p hp => R.new p (h.mem_iff.mpr hp), R.cs,
    fun p hp => let ⟨a, b, c⟩ := R.ro p hp; ⟨a, fun hm => b ((h.map (·.1)).mem_iff.mpr hm), c⟩, R.bd, R.kh, R.kin, R.tb⟩
theorem Step.perm {x : Cx} {o₁ o₂ own' : Own} {s s' : Shared} (S : Step x o₁ s own' s') (h : o₁.Perm o₂) : Step x o₂ s own' s' :=
  ⟨S.rel, fun a o e c n => S.ext a o e c fun hm => n ((h.map (·.1)).mem_iff.mp hm), fun a ha => (S.sub a ha).imp (fun hm => (h.map (·.1)).mem_iff.mp hm) id, S.there⟩
theorem WP.perm {x : Cx} {A : Around} {α : Type} {t : Sem α} {own own' : Own} {P : α → Shared → Own → Prop} (h : WP x A t own' P) (p : own.Perm own') : WP x A t own P := fun s R =>
  wpAny_mono (h s (R.perm p)) (fun a s' ⟨o, S, q⟩ => ⟨o, S.perm p.symm, q⟩) fun _ _ f => f

theorem Rel.freeze {x : Cx} {p : Addr × AObj} {own : Own} {s : Shared} (R : Rel x (p :: own) s) (f : p.2.fz) : Rel { x with ro := p :: x.ro } own s :=
  ⟨R.old, R.lim, R.os, R.gens, (List.nodup_cons.mp R.nodup).2, fun q hq => R.has q (.tail _ hq), fun q hq => R.new q (.tail _ hq), R.cs, fun q hq => by
    rcases List.mem_cons.mp hq with rfl | hq
    · exact ⟨R.has _ (.head _), (List.nodup_cons.mp R.nodup).1, (R.has _ (.head _)).cls f⟩
    · obtain ⟨a, b, c⟩ := R.ro q hq
      exact ⟨a, fun hm => b (.tail _ hm), c⟩, R.bd, R.kh, R.kin, R.tb⟩
theorem Step.thaw {x : Cx} {p : Addr × AObj} {own own' : Own} {s s' : Shared} (R : Rel x (p :: own) s) (S : Step { x with ro := p :: x.ro } own s own' s') : Step x (p :: own) s (p :: own') s' := by
  obtain ⟨h1, h2, h3⟩ := S.rel.ro p (.head _)
  refine ⟨⟨S.rel.old, S.rel.lim, S.rel.os, S.rel.gens, List.nodup_cons.mpr ⟨h2, S.rel.nodup⟩, fun q hq => ?_, fun q hq => ?_, S.rel.cs, fun q hq => ?_, S.rel.bd, S.rel.kh, S.rel.kin, S.rel.tb⟩, fun a o e c n => S.ext a o e c fun hm => n (.tail _ hm), fun a ha => ?_, S.there⟩
  · rcases List.mem_cons.mp hq with rfl | hq
    · exact h1
    · exact S.rel.has q hq
  · rcases List.mem_cons.mp hq with rfl | hq
    · exact R.new _ (.head _)
    · exact S.rel.new q hq
  · obtain ⟨a, b, c⟩ := S.rel.ro q (.tail _ hq)
    obtain ⟨_, b', _⟩ := R.ro q hq
    refine ⟨a, fun hm => ?_, c⟩
    rcases List.mem_cons.mp hm with e | hm
    · exact b' (e ▸ .head _)
    · exact b hm
  · rcases List.mem_cons.mp ha with rfl | ha
    · exact .inl (.head _)
    · exact (S.sub a ha).imp (.tail _) id
theorem WP.freeze {x : Cx} {A : Around} {α : Type} {t : Sem α} {own : Own} {p : Addr × AObj} {P : α → Shared → Own → Prop} (f : p.2.fz)
    (h : WP { x with ro := p :: x.ro } A t own fun a s own' => P a s (p :: own')) : WP x A t (p :: own) P := fun s R =>
  wpAny_mono (h s (R.freeze f)) (fun a s' ⟨o, S, q⟩ => ⟨_, S.thaw R, q⟩) fun _ _ f => f

/-- known: mutable or frozen -/
def Kn (x : Cx) (own : Own) (p : Addr × AObj) : Prop := p ∈ own ∨ p ∈ x.ro
theorem Rel.kn {x : Cx} {own : Own} {s : Shared} (R : Rel x own s) {a : Addr} {o : AObj} (k : Kn x own (a, o)) : Has x.prog x.w x.bad s.heap a o :=
  k.elim (fun h => R.has _ h) fun h => (R.ro _ h).1

section
variable {x : Cx} {A : Around} {own : Own} {env : Env} {n : Nat} {nm gn : List Str}

def WA (x : Cx) (A : Around) (env : Env) (t : Expr) (a : AV) (own : Own) (K : Own → Prop) : Prop :=
  ∀ v s, Rel x own s → Rep x.bad s.heap a v → wpAny (model x.prog x.w) A (assign t env v) (fun _ s' => ∃ own', Step x own s own' s' ∧ K own') (fun _ _ => False) s
def WAs (x : Cx) (A : Around) (env : Env) : List Expr → List AV → Own → (Own → Prop) → Prop
  | [], [], own, K => K own
  | t :: ts, a :: as, own, K => WA x A env t a own fun own' => WAs x A env ts as own' K
  | _, _, _, _ => False
theorem WAs.run {ts : List Expr} : ∀ {as : List AV} {own : Own} {K : Own → Prop} {vs : List Value} {s : Shared}, WAs x A env ts as own K → Rel x own s → Reps x.bad s.heap as vs →
    wpAny (model x.prog x.w) A (assignInOrder (ts.map fun t => assign t env) vs) (fun _ s' => ∃ own', Step x own s own' s' ∧ K own') (fun _ _ => False) s := by
  induction ts with
  | nil =>
    intro as own K vs s h R r
    cases as with
    | nil => simp only [Reps] at r; subst r; exact wpAny_pure ⟨own, Step.refl R, h⟩
    | cons => exact h.elim
  | cons t ts ih =>
    intro as own K vs s h R r
    cases as with
    | nil => exact h.elim
    | cons a as =>
      simp only [Reps] at r
      obtain ⟨v, vs, rfl, r1, r2⟩ := r
      show wpAny _ _ (holding vs (assign t env v) >>= fun _ => assignInOrder _ vs) _ _ s
      refine wpAny_bind (wpAny_holding (wpAny_mono (h v s R r1) (fun _ s1 ⟨own1, S1, h1⟩ => ?_) fun _ _ f => f))
      exact wpAny_mono (ih h1 S1.rel (Reps.mono (S1.tup R) _ _ r2)) (fun _ s2 ⟨own2, S2, k⟩ => ⟨own2, S1.trans S2, k⟩) fun _ _ f => f

theorem A_loc (H : Fm n A env nm gn) (i : Nat) {y : Str} {p : Pos} {m m' : List AV} {a : AV} {own' : Own} {K : Own → Prop} (hi : nm[i]? = some y) (u : Upd env.locals (.ns nm m) (.ns nm m') own own') (w : SetAt a i m m') (k : a.known) (q : K own') :
    WA x A env (.Name y p) a own K := fun v s R r => by
  obtain ⟨f, hf, rr, nd⟩ := R.has _ u.mem
  obtain ⟨l1, l2⟩ := H.loc y (List.mem_of_getElem? hi)
  refine wpAny_assign_Name (wpAny_storeName_local l1 hf (fun h' hn hs => ?_) (by rw [H.kind]; rfl))
  have tk : TupKeep x.bad s.heap h' := fun b vs n _ e => hs.extBut b _ (fun eb => by subst eb; exact (R.has _ u.mem).notTup e) e
  exact ⟨own', Step.upd R u (fun b o hb e => hs.extBut b o hb e) ⟨_, hn, (rr.mono tk).set nd hi w (Rep.mono tk _ _ r) k, nd⟩, q⟩
theorem A_cell (H : Fm n A env nm gn) {y : Str} {p : Pos} {c : Addr} {a b : AV} {own' : Own} {K : Own → Prop} (hk : env.kindOf y = some .cell) (hc : env.cells.lookup y = some c) (u : Upd c (.cell b) (.cell a) own own') (q : K own') :
    WA x A env (.Name y p) a own K := fun v s R r => by
  obtain ⟨v0, hv, rr⟩ := R.has _ u.mem
  refine wpAny_assign_Name (wpAny_storeName_cell H.kind hk hc hv (fun h' hn hs => ?_))
  have tk : TupKeep x.bad s.heap h' := fun b vs n _ e => hs.extBut b _ (fun eb => by subst eb; exact (R.has _ u.mem).notTup e) e
  refine ⟨own', Step.upd (tk := s.toks) R u (fun b o hb e => hs.extBut b o hb e) ⟨_, hn, ?_⟩, q⟩
  cases a <;> first | trivial | exact ⟨v, rfl, Rep.mono tk _ _ r⟩
theorem A_tup (H : Fm n A env nm gn) {ts : List Expr} {k : Nat} {p : Pos} {as : List AV} {K : Own → Prop} (h : WAs x A env ts as own K)
    (he : assignEach ts env = ts.map fun t => (false, assign t env)) (hl : ts.length = as.length) : WA x A env (.Tuple ts k p) (.tup as) own K := fun v s R r => by
  obtain ⟨a, vs, n', rfl, _, e, rs⟩ := rep_tup r
  refine wpAny_assign_Tuple H.hnd ⟨_, e, rfl, n', rfl⟩ (by rw [he, List.length_map, hl, rs.length, Array.length_toList]) (by rw [he]; clear h he hl; induction ts <;> simp_all) fun h' hx => ?_
  have S : Step x own s own { s with heap := h', toks := s.toks } := Step.grow R fun b o eb => hx b o (fun q => by subst q; rw [fresh_none] at eb; cases eb) eb
  have e2 : (assignEach ts env).map (·.2) = ts.map fun t => assign t env := by rw [he, List.map_map]; rfl
  show wpAny _ _ (assignInOrder (List.map (fun y => y.2) (assignEach ts env)) vs.toList) _ _ { s with heap := h', toks := s.toks }
  rw [e2]
  exact wpAny_mono (h.run S.rel (Reps.mono (S.tup R) _ _ rs)) (fun _ s2 ⟨own2, S2, k⟩ => ⟨own2, S.trans S2, k⟩) fun _ _ f => f

variable {Q : AFlow → Own → Prop}
theorem S_asg {t e : Expr} {p : Pos} (h : WV x A (eval e env) own fun a own1 => WA x A env t a own1 fun own2 => Q .next own2)
    (h1 : swapsWithSole [t] e p.line env = pure false := by with_unfolding_all rfl) (h2 : swappedStores [t] e env = pure none := by with_unfolding_all rfl) (h3 : assignEach [t] env = [(false, assign t env)] := by with_unfolding_all rfl) :
    WS x A (exec (.Assign [t] e p) env) own Q := fun s R => by
  refine wpAny_Assign_stores (h.run (Step.refl R) fun v s1 own1 S1 k1 ⟨a, r1, h1⟩ => ?_) h1 h2
  rw [h3]
  show wpAny _ _ (assign t env v) _ _ s1
  exact wpAny_mono (h1 v s1 S1.rel r1) (fun _ s2 ⟨own2, S2, q⟩ => ⟨own2, S1.trans S2, .next, rfl, q⟩) fun _ _ f => f
theorem S_asg2 {t t' e : Expr} {p : Pos} (h : WV x A (eval e env) own fun a own1 => WA x A env t a own1 fun own2 => WA x A env t' a own2 fun own3 => Q .next own3)
    (h2 : swappedStores [t, t'] e env = pure none := by with_unfolding_all rfl) (h3 : List.map (fun x => x.2) (assignEach [t, t'] env) = [assign t env, assign t' env] := by with_unfolding_all rfl) :
    WS x A (exec (.Assign [t, t'] e p) env) own Q := fun s R => by
  refine wpAny_Assign_two (h.run (Step.refl R) fun v s1 own1 S1 k1 ⟨a, r1, h1⟩ => ?_) h3 h2
  refine wpAny_mono (h1 v s1 S1.rel r1) (fun _ s2 ⟨own2, S2, q⟩ => ?_) fun _ _ f => f.elim
  exact wpAny_mono (q v s2 S2.rel (Rep.mono (S2.tup S1.rel) _ _ r1)) (fun _ s3 ⟨own3, S3, q⟩ => ⟨own3, (S1.trans S2).trans S3, .next, rfl, q⟩) fun _ _ f => f

def Nx (x : Cx) (A : Around) (rest : List Stmt) (env : Env) (Q : AFlow → Own → Prop) : AFlow → Own → Prop
  | .next, own => WS x A (execs rest env) own Q
  | f, own => Q f own
theorem SS_nil (q : Q .next own) : WS x A (execs [] env) own Q := fun s R => wpAny_execs_nil ⟨own, Step.refl R, .next, rfl, q⟩
theorem SS_cons {st : Stmt} {rest : List Stmt} (h : WS x A (exec st env) own (Nx x A rest env Q)) : WS x A (execs (st :: rest) env) own Q := fun s R => by
  refine wpAny_execs_cons (WP.run h (Step.refl R) fun f s1 own1 S1 k1 ⟨af, r, q⟩ => ?_)
  cases af with
  | next => cases r; exact WP.run q S1 fun f s2 own2 S2 k2 q2 => ⟨own2, S2, q2⟩
  | brk => cases r; exact ⟨own1, S1, .brk, rfl, q⟩
  | cont => cases r; exact ⟨own1, S1, .cont, rfl, q⟩
  | ret v => obtain ⟨u, rfl, ru⟩ := r; exact ⟨own1, S1, .ret v, ⟨u, rfl, ru⟩, q⟩

theorem S_if {t : Expr} {b o : List Stmt} {p : Pos} (h : WB x A (isTrue t env (eval t env)) own fun c own1 => (c = true → WS x A (execs b env) own1 Q) ∧ (c = false → WS x A (execs o env) own1 Q)) :
    WS x A (exec (.If t b o p) env) own Q := fun s R =>
  wpAny_If (WP.run h (Step.refl R) fun c s1 own1 S1 k1 h1 => by
    cases c with
    | true => exact WP.run (h1.1 rfl) S1 fun v s2 own2 S2 k2 q => ⟨own2, S2, q⟩
    | false => exact WP.run (h1.2 rfl) S1 fun v s2 own2 S2 k2 q => ⟨own2, S2, q⟩)
theorem S_ret {e : Expr} {p : Pos} (h : WV x A (eval e env) own fun a own1 => Q (.ret a) own1) : WS x A (exec (.Return (some e) p) env) own Q := fun s R =>
  wpAny_Return_some (h.run (Step.refl R) fun v s1 own1 S1 k1 ⟨a, r1, q⟩ => ⟨own1, S1, .ret a, ⟨v, rfl, r1⟩, q⟩)
theorem S_expr (H : Fm n A env nm gn) {e : Expr} {p : Pos} (h : WV x A (eval e env) own fun a own1 => Q .next own1) (h2 : swapsWith e none p.line env = pure false := by with_unfolding_all rfl) : WS x A (exec (.Expr e p) env) own Q := fun s R =>
  wpAny_Expr_any (h.run (Step.refl R) fun v s1 own1 S1 k1 ⟨a, r1, q⟩ => ⟨own1, S1, .next, rfl, q⟩) (by unfold interactive; rw [H.kind]; rfl) h2
theorem S_assert {e : Expr} {m : Option Expr} {p : Pos} (h : WB x A (isTrue e env (eval e env)) own fun c own1 => c = true ∧ Q .next own1) : WS x A (exec (.Assert e m p) env) own Q := fun s R =>
  wpAny_Assert_holds (WP.run h (Step.refl R) fun c s1 own1 S1 k1 ⟨h1, q⟩ => ⟨h1, own1, S1, .next, rfl, q⟩)
theorem S_pass {p : Pos} (q : Q .next own) : WS x A (exec (.Pass p) env) own Q := fun s R => wpAny_Pass ⟨own, Step.refl R, .next, rfl, q⟩
theorem S_cont {p : Pos} (q : Q .cont own) : WS x A (exec (.Continue p) env) own Q := fun s R => wpAny_Continue ⟨own, Step.refl R, .cont, rfl, q⟩
theorem S_brk {p : Pos} (q : Q .brk own) : WS x A (exec (.Break p) env) own Q := fun s R => wpAny_Break ⟨own, Step.refl R, .brk, rfl, q⟩
def iop (op : Operator) (vs : List Value) : Sem Value := match vs with
  | [u, v] => inplaceOp op u v
  | _ => unsupported ""
theorem S_aug (H : Fm n A env nm gn) (i : Nat) {y : Str} {pn : Pos} {op : Operator} {e : Expr} {p : Pos} {m : List AV} {a : AV} (hi : nm[i]? = some y) (hm : (env.locals, AObj.ns nm m) ∈ own) (ha : m[i]? = some a) (k : a.known)
    (h : WV x A (eval e env) own fun b own1 => WO x A (iop op) [a, b] own1 fun c own2 => ∃ m₂ m' own3, Upd env.locals (.ns nm m₂) (.ns nm m') own2 own3 ∧ SetAt c i m₂ m' ∧ c.known ∧ Q .next own3) :
    WS x A (exec (.AugAssign (.Name y pn) op e p) env) own Q := fun s R => by
  obtain ⟨f, hf, r, nd⟩ := R.has _ hm
  obtain ⟨v, hv, rv⟩ := r.get hi ha k
  obtain ⟨l1, l2⟩ := H.loc y (List.mem_of_getElem? hi)
  refine wpAny_AugAssign_Name (wpAny_loadName_local H.kind l1 hf hv (h.run (Step.refl R) fun v1 s1 own1 S1 k1 ⟨b, r1, h1⟩ => ?_))
  refine wpAny_mono (h1 [v, v1] s1 S1.rel (Reps.cons (Rep.mono k1 _ _ rv) (Reps.cons r1 .nil))) (fun v2 s2 ⟨own2, S2, c, r2, m₂, m', own3, u, w, kc, q⟩ => ?_) fun _ _ f => f.elim
  obtain ⟨f, hf, rr, nd⟩ := S2.rel.has _ u.mem
  refine wpAny_storeName_local l1 hf (fun h' hn hs => ?_) (by rw [H.kind]; rfl)
  have tk : TupKeep x.bad s2.heap h' := fun b vs n _ e => hs.extBut b _ (fun eb => by subst eb; exact (S2.rel.has _ u.mem).notTup e) e
  exact ⟨own3, (S1.trans S2).trans (Step.upd S2.rel u (fun b o hb e => hs.extBut b o hb e) ⟨_, hn, (rr.mono tk).set nd hi w (Rep.mono tk _ _ r2) kc, nd⟩), .next, rfl, q⟩
end
end
section
structure Src (x : Cx) (A : Around) (tgt : Expr) (it : Value) (xs : List AV) (FP WR : List Addr) (St : Nat → Heap → Prop) : Prop where
  sub : ∀ b ∈ WR, b ∈ FP
  frame : ∀ i h h', St i h → (∀ b ∈ FP, ∀ o, h.get? b = some o → h'.get? b = some o) → St i h'
  live : ∀ i h, St i h → ∀ b ∈ FP, ∃ o, h.get? b = some o ∧ o.cls ≠ .none
  nt : ∀ i h, St i h → ∀ b ∈ WR, b ∉ x.bad → ∀ vs n, h.get? b ≠ some { cls := .type "tuple", data := .seq vs n }
  step : ∀ i s own, Rel x own s → St i s.heap → i < xs.length →
    wpAny (model x.prog x.w) A (pyNext it) (fun r s1 => ∃ v h1 t1, r = some v ∧ s1 = { s with heap := h1, toks := t1 } ∧ (∀ b o, b ∉ WR → s.heap.get? b = some o → h1.get? b = some o) ∧
      wpAny (model x.prog x.w) A (letOwnedTupleGo tgt it v) (fun _ s2 => ∃ h2 t2, s2 = { s with heap := h2, toks := t2 } ∧ (∀ b o, b ∉ WR → h1.get? b = some o → h2.get? b = some o) ∧ St (i + 1) h2 ∧ ∃ a, xs[i]? = some a ∧ Rep x.bad h2 a v)
        (fun _ _ => False) s1) (fun _ _ => False) s
  self : ∀ i s (Q : Value → Shared → Prop) (E : Value → Shared → Prop), St i s.heap → Q it s → wpAny (model x.prog x.w) A (pyIter it) Q E s
  stop : ∀ s own, Rel x own s → St xs.length s.heap →
    wpAny (model x.prog x.w) A (pyNext it) (fun r s1 => r = none ∧ ∃ h1 t1, s1 = { s with heap := h1, toks := t1 } ∧ (∀ b o, b ∉ WR → s.heap.get? b = some o → h1.get? b = some o) ∧ (∀ b ∈ WR, b ∈ x.bad → ∃ o, h1.get? b = some o)) (fun _ _ => False) s

/-- what an iterator turns beside the ledger -/
theorem Step.side {x : Cx} {own₀ own : Own} {s₀ s : Shared} {WR : List Addr} {h' : Heap} {tk : Nat} (S : Step x own₀ s₀ own s) (hk : ∀ b o, b ∉ WR → s.heap.get? b = some o → h'.get? b = some o)
    (off : ∀ b ∈ WR, b ∉ addrs own ∧ s₀.heap.get? b = none ∧ (b ∉ x.bad → ∀ vs n, s.heap.get? b ≠ some { cls := .type "tuple", data := .seq vs n }) ∧ x.h₀.get? b = none ∧ (∀ p ∈ x.ro, p.1 ≠ b))
    (bd : ∀ a ∈ x.bad, ∃ o, h'.get? a = some o) :
    Step x own₀ s₀ own { s with heap := h', toks := tk } := by
  have R := S.rel
  have tup : TupKeep x.bad s.heap h' := fun d vs n nb e => by
    by_cases hd : d ∈ WR
    · exact absurd e ((off d hd).2.2.1 nb vs n)
    · exact hk _ _ hd e
  have keepOwn : ∀ p ∈ own, Has x.prog x.w x.bad h' p.1 p.2 := fun p hp => by
    obtain ⟨ob, e⟩ := (R.has p hp).there
    exact (R.has p hp).keep tup ((hk _ _ (fun hm => (off _ hm).1 (mem_addrs hp)) e).trans e.symm)
  have old : ∀ b o, x.h₀.get? b = some o → b ∉ WR := fun b o e hm => by rw [(off b hm).2.2.2.1] at e; cases e
  refine ⟨⟨oldK_step R.old fun b o o' e e' => hk b o' (old b o e) e', ?_, R.os, R.gens, R.nodup, keepOwn, R.new, R.cs, fun p hp => ?_, bd, R.kh, fun b o e => hk b o (old b o (R.kh b o e)) (R.kin b o e), fun p hp => let ⟨⟨o1, e1⟩, ⟨o2, e2⟩, T⟩ := R.tb p hp; ⟨⟨o1, e1⟩, ⟨o2, e2⟩, T.keep fun b o hb e => hk b o (by rcases hb with rfl | rfl; exact old _ _ e1; exact old _ _ e2) e⟩⟩, fun a o e c n => ?_, S.sub, fun a o e => ?_⟩
  · obtain ⟨mc, ⟨o, es, ep, ho, r⟩, q⟩ := R.lim
    obtain ⟨oc, hoc⟩ := R.cs
    exact ⟨mc, ⟨o, es, ep, hk _ _ (old _ _ hoc) ho, r⟩, q⟩
  · obtain ⟨h1, h2, o, e, c⟩ := R.ro p hp
    have e' := hk _ _ (fun hm => (off _ hm).2.2.2.2 p hp rfl) e
    exact ⟨h1.keep tup (e'.trans e.symm), h2, o, e', c⟩
  · exact hk _ _ (fun hm => by rw [(off a hm).2.1] at e; cases e) (S.ext a o e c n)
  · obtain ⟨o', e'⟩ := S.there a o e
    exact ⟨o', hk _ _ (fun hm => by rw [(off a hm).2.1] at e; cases e) e'⟩

def LpPost (J : Own → Prop) (Q : AFlow → Own → Prop) : AFlow → Own → Prop
  | .next, own => J own
  | .cont, own => J own
  | .brk, own => Q .next own
  | .ret v, own => Q (.ret v) own

theorem loop_src {x : Cx} {A : Around} {env : Env} {target : Expr} {body : List Stmt} {it : Value} {xs : List AV} {FP WR : List Addr} {St : Nat → Heap → Prop} {own₀ own : Own} {s₀ s₂ : Shared} {Q : AFlow → Own → Prop}
    (S : Step x own₀ s₀ own s₂) (src : Src x A target it xs FP WR St) (st : St 0 s₂.heap) (hFP : ∀ b ∈ FP, b ∉ addrs own)
    (hWR : ∀ b ∈ WR, s₀.heap.get? b = none ∧ x.h₀.get? b = none ∧ (∀ p ∈ x.ro, p.1 ≠ b)) (hbd : ∀ b ∈ x.bad, b ∈ WR → b ∈ FP)
    (J : Nat → Own → Prop) (j0 : J 0 own)
    (turn : ∀ i a own1, xs[i]? = some a → J i own1 → WA x A env target a own1 fun own2 => WS x A (execs body env) own2 (LpPost (J (i + 1)) Q))
    (done : ∀ own1, J xs.length own1 → Q .next own1) :
    codeAny (model x.prog x.w) A (.forLoop target it body [] env) (fun r s' => match r with | .ok f => ∃ own', Step x own₀ s₀ own' s' ∧ ∃ af, FlowRep x.bad s'.heap af f ∧ Q af own' | .error _ => False) s₂ := by
  refine codeAny_forLoop_any (fun k s => ∃ i own1, k = xs.length - i ∧ i ≤ xs.length ∧ Step x own₀ s₀ own1 s ∧ St i s.heap ∧ (∀ b ∈ FP, b ∉ addrs own1) ∧ J i own1) ?_ xs.length ⟨0, own, rfl, Nat.zero_le _, S, st, hFP, j0⟩
  rintro k s ⟨i, own1, rfl, hi, S1, st1, hF1, j1⟩
  have off : ∀ (h : Heap) i, St i h → ∀ b ∈ WR, b ∉ addrs own1 ∧ s₀.heap.get? b = none ∧ (b ∉ x.bad → ∀ vs n, h.get? b ≠ some { cls := .type "tuple", data := .seq vs n }) ∧ x.h₀.get? b = none ∧ (∀ p ∈ x.ro, p.1 ≠ b) :=
    fun h i hst b hb => ⟨hF1 b (src.sub b hb), (hWR b hb).1, src.nt i h hst b hb, (hWR b hb).2⟩
  by_cases hlt : i < xs.length
  · refine wpAny_mono (src.step i s own1 S1.rel st1 hlt) (fun r s1 => ?_) fun _ _ f => f.elim
    rintro ⟨v, h1, t1, rfl, rfl, k1, hgo⟩
    refine wpAny_mono hgo (fun _ s2 => ?_) fun _ _ f => f.elim
    rintro ⟨h2, t2, rfl, k2, st2, a, ha, ra⟩
    have S2 : Step x own₀ s₀ own1 { s with heap := h2, toks := t2 } := S1.side (fun b o hb e => k2 b o hb (k1 b o hb e)) (off s.heap i st1) fun a ha => by
      by_cases hw : a ∈ WR
      · obtain ⟨o, e, _⟩ := src.live _ _ st2 a (src.sub a hw); exact ⟨o, e⟩
      · obtain ⟨o, e⟩ := S1.rel.bd a ha
        exact ⟨o, k2 _ _ hw (k1 _ _ hw e)⟩
    refine wpAny_mono (turn i a own1 ha j1 v _ S2.rel ra) (fun _ s3 => ?_) fun _ _ f => f.elim
    rintro ⟨own3, S3, h3⟩
    refine wpAny_mono (h3 s3 S3.rel) (fun f s4 => ?_) fun _ _ f => f.elim
    rintro ⟨own4, S4, af, raf, q⟩
    have S34 := S3.trans S4
    have keep : ∀ b ∈ FP, ∀ o, h2.get? b = some o → s4.heap.get? b = some o := fun b hb o e => by
      obtain ⟨o', e', c⟩ := src.live _ _ st2 b hb
      have : o' = o := Option.some.inj (e'.symm.trans e)
      exact S34.ext b o e (this ▸ c) (hF1 b hb)
    have hF4 : ∀ b ∈ FP, b ∉ addrs own4 := fun b hb hm => by
      rcases S34.sub b hm with h | h
      · exact hF1 b hb h
      · obtain ⟨o', e', c⟩ := src.live _ _ st2 b hb
        have h' : h2.get? b = none := h
        rw [h'] at e'; cases e'
    cases af with
    | next => cases raf; exact ⟨xs.length - (i + 1), by omega, i + 1, own4, rfl, hlt, S2.trans S34, src.frame _ _ _ st2 keep, hF4, q⟩
    | cont => cases raf; exact ⟨xs.length - (i + 1), by omega, i + 1, own4, rfl, hlt, S2.trans S34, src.frame _ _ _ st2 keep, hF4, q⟩
    | brk => cases raf; exact ⟨own4, S2.trans S34, .next, rfl, q⟩
    | ret v => obtain ⟨u, rfl, ru⟩ := raf; exact ⟨own4, S2.trans S34, .ret v, ⟨u, rfl, ru⟩, q⟩
  · have e : i = xs.length := by omega
    subst e
    refine wpAny_mono (src.stop s own1 S1.rel st1) (fun r s1 => ?_) fun _ _ f => f.elim
    rintro ⟨rfl, h1, t1, rfl, k1, kb⟩
    refine wpAny_execs_nil ⟨own1, S1.side k1 (off s.heap _ st1) (fun a ha => ?_), .next, rfl, done own1 j1⟩
    by_cases hw : a ∈ WR
    · exact kb a hw ha
    · obtain ⟨o, e⟩ := S1.rel.bd a ha
      exact ⟨o, k1 _ _ hw e⟩

section
variable {x : Cx} {A : Around} {own : Own} {env : Env} {n : Nat} {nm gn : List Str} {Q : AV → Own → Prop}

def WVs (x : Cx) (A : Around) (env : Env) : List Expr → Own → (List AV → Own → Prop) → Prop
  | [], own, Q => Q [] own
  | e :: es, own, Q => WV x A (eval e env) own fun a own1 => WVs x A env es own1 fun as own2 => Q (a :: as) own2
theorem WVs.run {es : List Expr} : ∀ {own₀ own : Own} {Q : List AV → Own → Prop} {s₀ s : Shared} {K : List Value → Shared → Prop} {E : Value → Shared → Prop}, WVs x A env es own Q → Step x own₀ s₀ own s →
    (∀ vs s' own' as, Step x own₀ s₀ own' s' → TupKeep x.bad s.heap s'.heap → Reps x.bad s'.heap as vs → Q as own' → K vs s') →
    wpAny (model x.prog x.w) A (spliced (es.map fun e => (false, eval e env))) K E s := by
  induction es with
  | nil => intro own₀ own Q s₀ s K E h S k; exact Calls.spliced_nil (k [] s own [] S (TupKeep.refl _) .nil h)
  | cons e es ih =>
    intro own₀ own Q s₀ s K E h S k
    refine Calls.spliced_cons (WP.run h S fun v s1 own1 S1 k1 ⟨a, r1, h1⟩ => ?_)
    exact ih h1 S1 fun vs s2 own2 as S2 k2 r2 q => k _ _ _ _ S2 (k1.trans k2) (Reps.cons (Rep.mono k2 _ _ r1) r2) q

def callv (g : Value) (vs : List Value) : Sem Value := call g vs
def Cle (x : Cx) (g : Value) : Prop := ∀ h, x.K.In h → ∃ k, (k = Keeper.frame ∨ k = Keeper.machine ∨ k = Keeper.boundFrame) ∧ Looks (model x.prog x.w) h (keeperOf g) k
theorem Cle.builtin {id : String} : Cle x (.builtin id) := fun h _ => ⟨.machine, .inr (.inl rfl), Looks.of_pure rfl⟩
theorem Cle.type {id : String} : Cle x (.type id) := fun h _ => ⟨.machine, .inr (.inl rfl), Looks.of_pure rfl⟩
theorem Cle.top {a : Addr} (e : keepIn x.K (.ref a) = true) : Cle x (.ref a) := fun h X => keeps_K e h X

theorem evalArgs_of {f : Value} {M : Model} {E : Value → Shared → Prop} {s : Shared} {es : List Expr} {K : Args → Shared → Prop}
    (h : wpAny M A (spliced (es.map fun e => (false, eval e env))) (fun vs s' => K ⟨vs, []⟩ s') E s) : wpAny M A (evalArgs f true (es.map fun e => (false, eval e env)) []) K E s := by
  cases es with
  | nil =>
    unfold evalArgs
    show wpAny M A (spliced [] >>= _) K E s
    refine wpAny_bind (wpAny_mono h (fun vs s' h' => ?_) fun _ _ x => x)
    refine wpAny_holding ?_
    exact wpAny_bind (wpAny_pure (wpAny_bind (wpAny_pure (wpAny_pure h'))))
  | cons e es => exact Calls.evalArgs_plain h

theorem anyFst {es : List Expr} : (es.map fun e => ((false, eval e env) : Bool × Sem Value)).any (·.1) = false := by
  induction es with
  | nil => rfl
  | cons e es ih => simpa using ih

theorem callWith_run {es : List Expr} {p : Pos} {g : Value} {first : List AV} {fv : List Value} {own₀ : Own} {s₀ s : Shared} (hg : Cle x g) (rf : Reps x.bad s.heap first fv) (S : Step x own₀ s₀ own s)
    (h : WVs x A env es own fun as own2 => WO x A (callv g) (first ++ as) own2 Q) :
    wpAny (model x.prog x.w) A (callWith p g fv (es.map fun e => (false, eval e env)) []) (fun v s' => ∃ own', Step x own₀ s₀ own' s' ∧ ∃ av, Rep x.bad s'.heap av v ∧ Q av own') (fun _ _ => False) s := by
  refine callWith_of (P := x.K.In) (by rw [anyFst]; rfl) hg (evalArgs_of (WVs.run h S fun vs s1 own1 as S1 k1 r1 h1 => ⟨S1.rel.kin, ?_⟩))
  exact wpAny_mono (h1 (fv ++ vs) s1 S1.rel ((Reps.mono k1 _ _ rf).append r1)) (fun v s2 ⟨own2, S2, q⟩ => ⟨own2, S1.trans S2, q⟩) fun _ _ f => f

theorem E_call {y : Str} {np p : Pos} {es : List Expr} (h : WV x A (eval (.Name y np) env) own fun fa own1 => ∃ g, fa = .val g ∧ Cle x g ∧ WVs x A env es own1 fun as own2 => WO x A (callv g) as own2 Q)
    (hs : backTo p (starEach es env) = es.map fun e => (false, eval e env) := by with_unfolding_all rfl) : WV x A (eval (.Call (.Name y np) es [] p) env) own Q := fun s R => by
  refine wpAny_Call_ofName (h.run (Step.refl R) fun v s1 own1 S1 k1 ⟨a, r1, g, e, hc, h1⟩ => ?_)
  subst e
  rw [hs, rep_val r1]
  exact callWith_run (first := []) hc .nil S1 h1

/-- what a value is, for a method of a built-in type -/
def AVTy (x : Cx) (own : Own) (a : AV) (T : String) : Prop := ∀ s v, Rel x own s → Rep x.bad s.heap a v → s.TypeIs v T ∧ (∀ b, v = .ref b → ∃ ob, s.heap.get? b = some ob ∧ ob.dict = none)
theorem AVTy.list {l : Addr} {xs : List AV} (k : Kn x own (l, .list xs)) : AVTy x own (.val (.ref l)) "list" := fun s v R r => by
  rw [rep_val r]
  obtain ⟨vs, ⟨n, e⟩, _⟩ := R.kn k
  exact ⟨⟨_, e, rfl⟩, fun b eb => by cases eb; exact ⟨_, e, rfl⟩⟩
theorem AVTy.int {i : Int} : AVTy x own (.int i) "int" := fun s v R r => by
  obtain ⟨t, rfl⟩ := rep_int r
  exact ⟨rfl, fun b eb => by cases eb⟩
theorem AVTy.byt {i : List Int} : AVTy x own (.byt i) "bytes" := fun s v R r => by
  obtain ⟨c, t, rfl, _⟩ := rep_byt r
  exact ⟨rfl, fun b eb => by cases eb⟩
theorem AVTy.dictI {l : Addr} {xs : List (Int × AV)} (k : Kn x own (l, .dictI xs)) : AVTy x own (.val (.ref l)) "dict" := fun s v R r => by
  rw [rep_val r]
  obtain ⟨_, vs, n, ⟨o, es, e, d, _⟩, _⟩ := R.kn k
  exact ⟨⟨_, e, d.1⟩, fun b eb => by cases eb; exact ⟨_, e, d.2.1⟩⟩
theorem AVTy.dictS {l : Addr} {xs : List (Str × AV)} (k : Kn x own (l, .dictS xs)) : AVTy x own (.val (.ref l)) "dict" := fun s v R r => by
  rw [rep_val r]
  obtain ⟨_, vs, n, ⟨o, es, e, d, _⟩, _⟩ := R.kn k
  exact ⟨⟨_, e, d.1⟩, fun b eb => by cases eb; exact ⟨_, e, d.2.1⟩⟩

theorem E_meth {o : Expr} {name : Str} {apos p : Pos} {es : List Expr} (T id : String) (hp : PlainAttrs T) (hsl : Slot T name id) (ht : typeOf (.builtin id) = pure (.type "method_descriptor"))
    (h : WV x A (eval o env) own fun oa own1 => AVTy x own1 oa T ∧ WVs x A env es own1 fun as own2 => WO x A (callv (.builtin id)) ([oa] ++ as) own2 Q)
    (hs : backTo p (starEach es env) = es.map fun e => (false, eval e env) := by with_unfolding_all rfl)
    (h1 : attributeBase o name env (eval o env) = eval o env := by with_unfolding_all rfl) (h3 : (apos.endLine == p.line) = true := by with_unfolding_all rfl) (h2 : decide (es.length + 0 + 0 < 30) = true := by with_unfolding_all rfl) :
    WV x A (eval (.Call (.Attribute o name apos) es [] p) env) own Q := fun s R => by
  refine wpAny_Call_method h1 ?_ h3 hp hsl ht (h.run (Step.refl R) fun v s1 own1 S1 k1 ⟨a, r1, ha, h1⟩ => ⟨(ha s1 v S1.rel r1).1, (ha s1 v S1.rel r1).2, ?_⟩)
  · rw [hs]
    have e1 : ((es.map fun e => ((false, eval e env) : Bool × Sem Value)).all fun x => !x.1) = true := by
      clear h2 hs h; induction es <;> simp_all
    rw [e1]; exact h2
  · rw [hs]
    exact callWith_run Cle.builtin (Reps.cons r1 .nil) S1 h1
end
end
section
section
variable {x : Cx} {A : Around} {own : Own} {env : Env} {n : Nat} {nm gn : List Str} {Q : AV → Own → Prop}

def getI (vs : List Value) : Sem Value := match vs with
  | [u, v] => getItem u v
  | _ => unsupported ""
theorem E_sub {v i : Expr} {p : Pos} (h : WV x A (eval v env) own fun a own1 => WV x A (eval i env) own1 fun b own2 => ∃ T id, AVTy x own2 a T ∧ typeLookup (.type T) "__getitem__" = pure (some (.builtin id)) ∧ WO x A getI [a, b] own2 Q)
    (hs : ∀ o k, subscripted i false o k = operate [o, k] (getItem o k) := by intro _ _; with_unfolding_all rfl) : WV x A (eval (.Subscript v i p) env) own Q := fun s R =>
  Subscript_ (h.run (Step.refl R) fun v1 s1 own1 S1 k1 ⟨a, r1, h1⟩ => h1.run S1 fun v2 s2 own2 S2 k2 ⟨b, r2, T, id, ht, hl, h2⟩ =>
    tail_any (ht s2 v1 S2.rel (Rep.mono k2 _ _ r1)).1 hl (wpAny_mono (h2 [v1, v2] s2 S2.rel (Reps.cons (Rep.mono k2 _ _ r1) (Reps.cons r2 .nil))) (fun v s3 ⟨own3, S3, q⟩ => ⟨own3, S2.trans S3, q⟩) fun _ _ f => f) (hs _ _))

theorem look_list : typeLookup (.type "list") "__getitem__" = pure (some (.builtin "list.__getitem__")) := slot_list_getitem.lookup
theorem G_list {l : Addr} {xs : List AV} {k : Int} {a : AV} (kn : Kn x own (l, .list xs)) (h0 : 0 ≤ k) (h1 : k < 2 ^ 63) (e : xs[k.toNat]? = some a) (q : Q a own) : WO x A getI [.val (.ref l), .int k] own Q := fun vs s R r => by
  obtain ⟨u, v, rfl, r1, r2⟩ := reps2 r
  rw [rep_val r1]; obtain ⟨t, rfl⟩ := rep_int r2
  obtain ⟨ws, pl, rs⟩ := R.kn kn
  obtain ⟨w, ew, rw'⟩ := rs.get e
  exact wpAny_getItem_list pl.isList h0 h1 (by simpa using ew) ⟨own, Step.refl R, a, rw', q⟩
theorem G_neg {l : Addr} {xs : List AV} {k : Int} {a : AV} (kn : Kn x own (l, .list xs)) (h0 : k < 0) (h1 : -(xs.length : Int) ≤ k) (hb : -2 ^ 63 ≤ k) (e : xs[(k + xs.length).toNat]? = some a) (q : Q a own) : WO x A getI [.val (.ref l), .int k] own Q := fun vs s R r => by
  obtain ⟨u, v, rfl, r1, r2⟩ := reps2 r
  rw [rep_val r1]; obtain ⟨t, rfl⟩ := rep_int r2
  obtain ⟨ws, pl, rs⟩ := R.kn kn
  have hl : (ws.size : Int) = xs.length := by have := rs.length; simp at this; omega
  obtain ⟨w, ew, rw'⟩ := rs.get e
  exact wpAny_getItem_list_neg pl.isList h0 (by omega) hb (by rw [hl]; simpa using ew) ⟨own, Step.refl R, a, rw', q⟩
theorem AVTy.tup {xs : List AV} : AVTy x own (.tup xs) "tuple" := fun s v R r => by
  obtain ⟨a, vs, k, rfl, _, e, _⟩ := rep_tup r
  exact ⟨⟨_, e, rfl⟩, fun b eb => by cases eb; exact ⟨_, e, rfl⟩⟩
theorem look_tuple : typeLookup (.type "tuple") "__getitem__" = pure (some (.builtin "tuple.__getitem__")) := by
  rw [typeLookup_type, builtinLookup_eq_fast]; kernel_rfl
theorem G_tup {xs : List AV} {k : Int} {a : AV} (h0 : 0 ≤ k) (h1 : k < 2 ^ 63) (e : xs[k.toNat]? = some a) (q : Q a own) : WO x A getI [.tup xs, .int k] own Q := fun vs s R r => by
  obtain ⟨u, v, rfl, r1, r2⟩ := reps2 r
  obtain ⟨b, ws, m, rfl, _, eb, rs⟩ := rep_tup r1; obtain ⟨t, rfl⟩ := rep_int r2
  obtain ⟨w, ew, rw'⟩ := rs.get e
  have hlt : k.toNat < ws.size := by
    have := (List.getElem?_eq_some_iff.mp ew).1; simpa using this
  refine getItem_tuple (j := k.toNat) (x := w) ⟨_, eb, rfl, m, rfl⟩ (by omega) h1 ?_ (by simpa using ew) ⟨own, Step.refl R, a, rw', q⟩
  have : ¬ k < 0 := by omega
  simp only [seqIndex?, this, if_false]
  have h2 : k < (ws.size : Int) := by omega
  simp [h0, h2]

def setI (vs : List Value) : Sem Unit := match vs with
  | [u, k, v] => setItem u k v
  | _ => unsupported ""
def WOU (x : Cx) (A : Around) (t : List Value → Sem Unit) (args : List AV) (own : Own) (K : Own → Prop) : Prop :=
  ∀ vs s, Rel x own s → Reps x.bad s.heap args vs → wpAny (model x.prog x.w) A (t vs) (fun _ s' => ∃ own', Step x own s own' s' ∧ K own') (fun _ _ => False) s
theorem S_asgsub {o i e : Expr} {p pp : Pos} {Q : AFlow → Own → Prop} (h : WV x A (eval e env) own fun a own1 => WV x A (eval o env) own1 fun b own2 => WV x A (eval i env) own2 fun c own3 => WOU x A setI [b, c, a] own3 fun own4 => Q .next own4)
    (hs : swapsWith e (some (.Subscript o i pp)) p.line env = pure false := by with_unfolding_all rfl) : WS x A (exec (.Assign [.Subscript o i pp] e p) env) own Q := fun s R =>
  wpAny_Assign_Subscript (h.run (Step.refl R) fun v1 s1 own1 S1 k1 ⟨a, r1, h1⟩ => h1.run S1 fun v2 s2 own2 S2 k2 ⟨b, r2, h2⟩ => h2.run S2 fun v3 s3 own3 S3 k3 ⟨c, r3, h3⟩ =>
    wpAny_mono (h3 [v2, v3, v1] s3 S3.rel (Reps.cons (Rep.mono k3 _ _ r2) (Reps.cons r3 (Reps.cons (Rep.mono k3 _ _ (Rep.mono k2 _ _ r1)) .nil)))) (fun _ s4 ⟨own4, S4, q⟩ => ⟨own4, S3.trans S4, .next, rfl, q⟩) fun _ _ f => f) hs
theorem S_augsub {o i e : Expr} {op : Operator} {p pp : Pos} {Q : AFlow → Own → Prop} (h : WV x A (eval o env) own fun a own1 => WV x A (eval i env) own1 fun b own2 => WO x A getI [a, b] own2 fun c own3 => WV x A (eval e env) own3 fun d own4 =>
      WO x A (iop op) [c, d] own4 fun f own5 => WOU x A setI [a, b, f] own5 fun own6 => Q .next own6)
    (hs : ∀ (ov iv new : Value), augStore i ov iv new = (do holding [new, ov, iv] (setItem ov iv new); release [new, ov, iv] []; pure .next) := by intro _ _ _; with_unfolding_all rfl) : WS x A (exec (.AugAssign (.Subscript o i pp) op e p) env) own Q := fun s R =>
  wpAny_AugAssign_SubscriptAny (h.run (Step.refl R) fun v1 s1 own1 S1 k1 ⟨a, r1, h1⟩ => h1.run S1 fun v2 s2 own2 S2 k2 ⟨b, r2, h2⟩ => by
    refine wpAny_mono (h2 [v1, v2] s2 S2.rel (Reps.cons (Rep.mono k2 _ _ r1) (Reps.cons r2 .nil))) (fun v3 s3 ⟨own3, S3, c, r3, h3⟩ => ?_) fun _ _ f => f.elim
    refine h3.run (S2.trans S3) fun v4 s4 own4 S4 k4 ⟨d, r4, h4⟩ => ?_
    refine wpAny_mono (h4 [v3, v4] s4 S4.rel (Reps.cons (Rep.mono k4 _ _ r3) (Reps.cons r4 .nil))) (fun v5 s5 ⟨own5, S5, f, r5, h5⟩ => ?_) fun _ _ f => f.elim
    have t3 := S3.tup S2.rel
    have t5 := S5.tup S4.rel
    have r1' := Rep.mono t5 _ _ (Rep.mono k4 _ _ (Rep.mono t3 _ _ (Rep.mono k2 _ _ r1)))
    have r2' := Rep.mono t5 _ _ (Rep.mono k4 _ _ (Rep.mono t3 _ _ r2))
    exact wpAny_mono (h5 [v1, v2, v5] s5 S5.rel (Reps.cons r1' (Reps.cons r2' (Reps.cons r5 .nil)))) (fun _ s6 ⟨own6, S6, q⟩ => ⟨own6, (S4.trans S5).trans S6, .next, rfl, q⟩) fun _ _ f => f) hs
theorem setItem_plain {prog : Program} {w : World} {A : Around} {E : Value → Shared → Prop} {s : Shared} {l : Addr} {items : Array Value} {k : Int} {t : Tok} {v : Value} {Q : Unit → Shared → Prop} (hl : s.heap.PlainList l items)
    (h0 : 0 ≤ k) (hfit : k < 2 ^ 63) (hn : k < items.size)
    (hQ : ∀ h', h'.PlainList l (items.setIfInBounds k.toNat v) → Heap.SameBut l s.heap h' → Q () { s with heap := h' }) :
    wpAny (model prog w) A (setItem (.ref l) (.int k t) v) Q E s := by
  have hL := hl.isList
  obtain ⟨ne, ho⟩ := hl
  unfold setItem
  try with_reducible refine wpAny_holding ?_
  first | refine wpAny_bind (wpAny_pure ?_) | skip
  refine wpAny_bind (wpAny_sequenceKey hL.typeIs (by decide) ?_)
  refine wpAny_bind (wpAny_callSpecial?_slot (name := Str.ofString "__setitem__") hL.typeIs slot_list_setitem
    (wpAny_call_entry slot_list_setitem hL.typeIs entry_list_setitem ?_ (args_list_setitem _ _ _)))
  show wpAny _ _ (Builtin.List.listSubscript? (.int k t) >>= _) _ _ s
  refine wpAny_bind (wpAny_listSubscript_int (fitsIndex_of h0 hfit) ?_)
  clear hfit
  obtain ⟨j, rfl⟩ := Int.eq_ofNat_of_zero_le h0
  have hj : j < items.size := by omega
  have hx' : items[j]? = some items[j] := Array.getElem?_eq_getElem hj
  show wpAny _ _ ((seqItemAt l j >>= fun r => pure (r.map (j, ·))) >>= _) _ _ s
  refine wpAny_bind (wpAny_bind (wpAny_seqItemAt ho rfl (wpAny_pure ?_)))
  rw [hx']
  show wpAny _ _ (setSeqItemAt l j v >>= _) _ _ s
  have e : Obj.mapSeq (·.setIfInBounds j v) { cls := .type "list", data := .seq items ne } = { cls := .type "list", data := .seq (items.setIfInBounds j v) ne } := by
    simp [Obj.mapSeq]
  have hq := hQ (s.heap.update l (Obj.mapSeq (·.setIfInBounds j v))) ⟨ne, by rw [Heap.get?_update_self _ ho (by rw [e]; rfl), e]; rfl⟩ (Heap.SameBut.update ..)
  refine wpAny_bind (wpAny_setSeqItemAt ho rfl ?_)
  first
    | exact wpAny_pure ⟨_, rfl, wpAny_pure hq⟩
    | exact wpAny_pure ⟨_, rfl, hq⟩
    | exact wpAny_bind (wpAny_pure ⟨_, rfl, wpAny_pure hq⟩)
theorem SI_list {l : Addr} {xs : List AV} {k : Int} {a : AV} {own' : Own} {K : Own → Prop} (h0 : 0 ≤ k) (h1 : k < 2 ^ 63) (h2 : k < xs.length) (u : Upd l (.list xs) (.list (xs.set k.toNat a)) own own') (q : K own') :
    WOU x A setI [.val (.ref l), .int k, a] own K := fun vs s R r => by
  obtain ⟨u1, v, w, rfl, r1, r2, r3⟩ := reps3 r
  rw [rep_val r1]; obtain ⟨t, rfl⟩ := rep_int r2
  obtain ⟨ws, pl, rs⟩ := R.has _ u.mem
  have hl := rs.length
  refine setItem_plain pl h0 h1 (by simp at hl; omega) fun h' hl' hs => ?_
  have tk : TupKeep x.bad s.heap h' := fun b vs n _ e => hs.extBut b _ (fun eb => by subst eb; exact (R.has _ u.mem).notTup e) e
  refine ⟨own', Step.upd (tk := s.toks) R u (fun b o hb e => hs.extBut b o hb e) ⟨_, hl', ?_⟩, q⟩
  rw [Array.toList_setIfInBounds]
  exact Reps.set (Reps.mono tk _ _ rs) (Rep.mono tk _ _ r3)
end
end
section
theorem letOwned_any {prog : Program} {w : World} {A : Around} {E : Value → Shared → Prop} {s : Shared} {tgt : Expr} {v : Value} {I : Addr} {o : Obj} {T : String} {Q : Unit → Shared → Prop} (ho : s.heap.get? I = some o) (hc : o.cls = .type T)
    (hT : (["enumerate", "zip", "dict_itemiterator", "dict_reverseitemiterator", "odict_iterator", "itertools.zip_longest", "itertools.pairwise"].contains T) = false) (hQ : Q () s) :
    wpAny (model prog w) A (letOwnedTupleGo tgt (.ref I) v) Q E s := by
  unfold letOwnedTupleGo
  have core : ∀ a, wpAny (model prog w) A (do
      let o ← load I
      match o.cls, o.data with
      | .type n, .fields vs =>
        if ["enumerate", "zip", "dict_itemiterator", "dict_reverseitemiterator", "odict_iterator", "itertools.zip_longest", "itertools.pairwise"].contains n && vs[0]? == some (rawInt a) then
          rule "for.unpacks-the-owned-tuple"
          updateField I 0 .none
      | _, _ => pure () : Sem Unit) Q E s := fun a => by
    refine wpAny_bind (wpAny_load ho ?_)
    rw [hc]
    split
    · rename_i n vs e1 e2
      cases e1
      rw [if_neg (by rw [hT, Bool.false_and]; exact Bool.false_ne_true)]
      exact wpAny_pure hQ
    · exact wpAny_pure hQ
  split
  · cases v with
    | ref a => exact core a
    | _ => exact wpAny_pure hQ
  · cases v with
    | ref a => exact core a
    | _ => exact wpAny_pure hQ
  · exact wpAny_pure hQ

section
variable {x : Cx} {A : Around} {own : Own} {env : Env} {n : Nat} {nm gn : List Str}

theorem Src.list {tgt : Expr} {l I : Addr} {xs : List AV} {vs : Array Value} (hh : A.handled = none) (hnb : I ∉ x.bad) (hro : (l, AObj.list xs) ∈ x.ro) (hne : l ≠ I) (hl : vs.size = xs.length) :
    Src x A tgt (.ref I) xs [I, l] [I] (fun i h => h.IsListIter I l i ∧ h.PlainList l vs) where
  sub := fun b hb => by simp at hb; simp [hb]
  frame := fun i h h' st hk => ⟨st.1.at fun o e => hk I (by simp) o e, st.2.at fun o e => hk l (by simp) o e⟩
  live := fun i h st b hb => by
    rcases List.mem_cons.mp hb with rfl | hb
    · obtain ⟨o, e, c, _⟩ := st.1; exact ⟨o, e, by rw [c]; simp⟩
    · rw [List.mem_singleton.mp hb]; obtain ⟨k, e⟩ := st.2; exact ⟨_, e, by simp⟩
  nt := fun i h st b hb _ ws k e => by
    rw [List.mem_singleton.mp hb] at e
    obtain ⟨o, e', c, _⟩ := st.1; rw [e] at e'; cases e'; simp at c
  step := fun i s own R st hi => by
    have hx : vs[i]? = some vs[i] := Array.getElem?_eq_getElem (by omega)
    refine wpAny_pyNext_list_item st.1 st.2.isList hx fun h' hit' hs' => ⟨vs[i], h', s.toks, rfl, rfl, fun b o hb e => hs'.extBut b o (fun q => hb (by simp [q])) e, ?_⟩
    obtain ⟨o, e, c, _⟩ := id hit'
    refine letOwned_any e c (by decide) ⟨h', s.toks, rfl, fun _ _ _ e => e, ⟨hit', st.2.extBut hs'.extBut hne⟩, ?_⟩
    obtain ⟨h1, _⟩ := R.ro _ hro
    obtain ⟨ws, ⟨k, ew⟩, rs⟩ := h1
    have : ws = vs := by
      obtain ⟨k', e'⟩ := st.2
      have := ew.symm.trans e'
      simp at this; exact this.1
    subst this
    obtain ⟨a, ea, ra⟩ := rs.at (i := i) (v := ws[i]) (by simp at hx ⊢)
    refine ⟨a, ea, Rep.mono (fun b us m _ e2 => hs'.extBut b _ (fun q => ?_) e2) _ _ ra⟩
    subst q
    obtain ⟨o', e', c', _⟩ := st.1; rw [e2] at e'; cases e'; simp at c'
  self := fun i s Q E st hQ => wpAny_pyIter_listiter st.1 hQ
  stop := fun s own R st => wpAny_pyNext_list_end hh st.1 st.2.isList (by simp [hl]) fun h' he' => ⟨rfl, h', s.toks, rfl, fun b o hb e => he' b o (fun q => hb (by simp [q])) e, fun b hb hbb => absurd (List.mem_singleton.mp hb ▸ hbb) hnb⟩


@[reducible] def wr (x : Cx) (r : Own) : Cx := { x with ro := r }

theorem wpAny_For_nil {M : Model} {E : Value → Shared → Prop} {s : Shared} {target iter : Expr} {body : List Stmt} {pos : Pos} {Q : Flow → Shared → Prop}
    (h : wpAny M A (eval iter env) (fun v s₁ => wpAny M A (pyIter v) (fun it s₂ => codeAny M A (.forLoop target it body [] env) (fun r s' => match r with | .ok f => Q f s' | .error _ => False) s₂) E s₁) E s)
    (hs : ∀ v, foldedSetIterable iter env v = pure v) : wpAny M A (exec (.For target iter body [] pos) env) Q E s :=
  wpAny_For (wpAny_mono h (fun v s1 h1 => wpAny_mono h1 (fun it s2 h2 => codeAny_mono h2 fun r s' hr => by
    cases r with
    | ok f => exact hr
    | error e => exact hr.elim) fun _ _ e => e) fun _ _ e => e) hs

/-- what is iterated -/
structure Itb (x : Cx) (A : Around) (own : Own) (a : AV) (tgt : Expr) (xs : List AV) (r : Own) (own' : Own) (bk : Own → Own) : Prop where
  go : ∀ v s, Rel x own s → Rep x.bad s.heap a v → wpAny (model x.prog x.w) A (pyIter v) (fun it s2 => ∃ FP WR St, Src (wr x r) A tgt it xs FP WR St ∧ St 0 s2.heap ∧ Step (wr x r) own' s own' s2 ∧
    (∀ b ∈ FP, b ∉ addrs own') ∧ (∀ b ∈ WR, s.heap.get? b = none ∧ x.h₀.get? b = none ∧ ∀ p ∈ r, p.1 ≠ b) ∧ (∀ a ∈ x.bad, a ∉ WR)) (fun _ _ => False) s
  back : ∀ s o s', Rel x own s → Step (wr x r) own' s o s' → Step x own s (bk o) s'

theorem S_for (H : Fm n A env nm gn) {target iter : Expr} {body : List Stmt} {p : Pos} {Q : AFlow → Own → Prop}
    (h : WV x A (eval iter env) own fun a own1 => ∃ xs r own2 bk, ∃ J : Nat → Own → Prop, Itb x A own1 a target xs r own2 bk ∧ J 0 own2 ∧
      (∀ i a own3, xs[i]? = some a → J i own3 → WA (wr x r) A env target a own3 fun own4 => WS (wr x r) A (execs body env) own4 (LpPost (J (i + 1)) fun f o => Q f (bk o))) ∧
      (∀ own3, J xs.length own3 → Q .next (bk own3)))
    (hs : ∀ v, foldedSetIterable iter env v = pure v := by intro _; with_unfolding_all rfl) :
    WS x A (exec (.For target iter body [] p) env) own Q := fun s R => by
  refine wpAny_For_nil (h.run (Step.refl R) fun v s1 own1 S1 k1 ⟨a, r1, xs, r, own2, bk, J, I, j0, turn, done⟩ => ?_) hs
  refine wpAny_mono (I.go v s1 S1.rel r1) (fun it s2 => ?_) fun _ _ f => f.elim
  rintro ⟨FP, WR, St, src, st, S2, hF, hW, hb⟩
  refine codeAny_mono (loop_src (x := wr x r) (Q := fun f o => Q f (bk o)) S2 src st hF hW (fun b hb' hm => src.sub b hm) J j0 turn done) fun r' s' hr => ?_
  cases r' with
  | error e => exact hr
  | ok f =>
    obtain ⟨own', S', af, raf, q⟩ := hr
    exact ⟨_, S1.trans (I.back s1 own' s' S1.rel S'), af, raf, q⟩

theorem Itb.list {l : Addr} {xs : List AV} {tgt : Expr} {own2 : Own} (hh : A.handled = none) (sel : Sel (l, .list xs) own own2) :
    Itb x A own (.val (.ref l)) tgt xs ((l, .list xs) :: x.ro) own2 (fun o => (l, .list xs) :: o) where
  go := fun v s1 R1 r1 => by
    rw [rep_val r1]
    have Rp : Rel x ((l, .list xs) :: own2) s1 := R1.perm sel.perm
    have Rf : Rel (wr x ((l, .list xs) :: x.ro)) own2 s1 := Rp.freeze trivial
    obtain ⟨vs, pl, rs⟩ := Rp.has _ (.head _)
    have pl : s1.heap.PlainList l vs := pl
    have hlt : l < s1.heap.objs.size := by obtain ⟨k, e⟩ := pl; exact Heap.lt_size e
    refine wpAny_pyIter_list pl.isList ?_
    have gr : ∀ b o, s1.heap.get? b = some o → (s1.heap.push { cls := .type "list_iterator", data := .fields #[.ref l, .int 0 0] }).get? b = some o := fun b o e => Heap.get?_push_of_some _ e
    have S2 : Step (wr x ((l, .list xs) :: x.ro)) own2 s1 own2 { s1 with heap := s1.heap.push { cls := .type "list_iterator", data := .fields #[.ref l, .int 0 0] }, toks := s1.toks } := Step.grow Rf gr
    have hsz : vs.size = xs.length := by have := rs.length; simp at this; omega
    have hI : ∀ b o, s1.heap.get? b = some o → b ≠ s1.heap.objs.size := fun b o e q => by rw [q, fresh_none] at e; cases e
    refine ⟨_, _, _, Src.list (x := wr x ((l, .list xs) :: x.ro)) (vs := vs) hh (fun hm => by obtain ⟨o, eo⟩ := Rf.bd _ hm; exact absurd rfl (hI _ _ eo)) (.head _) (Nat.ne_of_lt hlt) hsz, ⟨⟨_, Heap.get?_push_size _ rfl, rfl, rfl⟩, pl.at fun o e => gr _ _ e⟩, S2, ?_, ?_, ?_⟩
    · intro b hb hm
      rcases List.mem_cons.mp hb with rfl | hb
      · obtain ⟨q, hq, e⟩ := List.mem_map.mp hm
        obtain ⟨o, eo⟩ := (Rf.has q hq).there
        exact hI _ _ eo e
      · rw [List.mem_singleton.mp hb] at hm
        exact (Rf.ro _ (.head _)).2.1 hm
    · intro b hb
      rw [List.mem_singleton.mp hb]
      refine ⟨fresh_none _, ?_, fun q hq => ?_⟩
      · cases e : x.h₀.get? s1.heap.objs.size with
        | none => rfl
        | some o => obtain ⟨o', e'⟩ := Rf.old.there _ _ e; exact absurd rfl (hI _ _ e')
      · obtain ⟨_, _, o, eo, _⟩ := Rf.ro q hq
        exact hI _ _ eo
    · intro b hb hm
      rw [List.mem_singleton.mp hm] at hb
      obtain ⟨o, eo⟩ := Rf.bd _ hb
      exact absurd rfl (hI _ _ eo)
  back := fun s o s' R S => (S.thaw (R.perm sel.perm)).perm sel.perm.symm

theorem Src.range {tgt : Expr} {I : Addr} {a c : Int} {k : Nat} (hh : A.handled = none) (hnb : I ∉ x.bad) :
    Src x A tgt (.ref I) ((List.range k).map fun i => .int (a + c * (i : Nat))) [I] [I] (fun i h => IsRangeIter h I (a + c * (i : Nat)) ((k : Int) - (i : Nat)) c) where
  sub := fun b hb => hb
  frame := fun i h h' st hk => hk I (by simp) _ st
  live := fun i h st b hb => by rw [List.mem_singleton.mp hb]; exact ⟨_, st, by simp⟩
  nt := fun i h st b hb _ ws m e => by
    rw [List.mem_singleton.mp hb] at e
    have e' := e.symm.trans st
    simp at e'
  step := fun i s own R st hi => by
    have hi' : i < k := by simpa using hi
    refine wpAny_pyNext_range_item st (by omega) fun h' hit' hs' => ⟨_, h', s.toks + 1, rfl, rfl, fun b o hb e => hs'.extBut b o (fun q => hb (by simp [q])) e, ?_⟩
    refine letOwned_any hit' rfl (by decide) ⟨h', _, rfl, fun _ _ _ e => e, ?_, .int (a + c * (i : Nat)), by simp [hi'], rep_mk_int⟩
    have e1 : a + c * ((i + 1 : Nat) : Int) = a + c * (i : Nat) + c := by rw [Int.natCast_succ, Int.mul_add, Int.mul_one]; omega
    have e2 : (k : Int) - ((i + 1 : Nat) : Int) = (k : Int) - (i : Nat) - 1 := by omega
    rw [e1, e2]
    exact hit'
  self := fun i s Q E st hQ => wpAny_pyIter_rangeiter st hQ
  stop := fun s own R st => wpAny_pyNext_range_end hh st (by simp) fun h' he' => ⟨rfl, h', s.toks, rfl, fun b o hb e => he' b o (fun q => hb (by simp [q])) e, fun b hb hbb => absurd (List.mem_singleton.mp hb ▸ hbb) hnb⟩

theorem Itb.range {r : Addr} {a b c : Int} {k : Nat} {tgt : Expr} (hh : A.handled = none) (kn : Kn x own (r, .rng a b c)) (hsm : Builtin.Range.small a b c = true) (hk : Builtin.Range.rangeSize a b c = k) :
    Itb x A own (.val (.ref r)) tgt ((List.range k).map fun i => .int (a + c * (i : Nat))) x.ro own id where
  go := fun v s1 R1 r1 => by
    rw [rep_val r1]
    obtain ⟨t, u, w, hr⟩ := R1.kn kn
    refine wpAny_pyIter_range hr hsm ?_
    have hI : ∀ b o, s1.heap.get? b = some o → b ≠ s1.heap.objs.size := fun b o e q => by rw [q, fresh_none] at e; cases e
    refine ⟨_, _, _, Src.range (x := wr x x.ro) (a := a) (c := c) (k := k) hh (fun hm => by obtain ⟨o, eo⟩ := R1.bd _ hm; exact absurd rfl (hI _ _ eo)), ?_, Step.grow (x := wr x x.ro) (tk := s1.toks) R1 fun b o e => Heap.get?_push_of_some _ e, ?_, ?_, ?_⟩
    · show IsRangeIter _ _ _ _ _
      rw [show a + c * ((0 : Nat) : Int) = a by simp, show (k : Int) - ((0 : Nat) : Int) = k by simp, ← hk]
      exact Heap.get?_push_size _ rfl
    · intro b hb hm
      rw [List.mem_singleton.mp hb] at hm
      obtain ⟨q, hq, e⟩ := List.mem_map.mp hm
      obtain ⟨o, eo⟩ := (R1.has q hq).there
      exact hI _ _ eo e
    · intro b hb
      rw [List.mem_singleton.mp hb]
      refine ⟨fresh_none _, ?_, fun q hq => ?_⟩
      · cases e : x.h₀.get? s1.heap.objs.size with
        | none => rfl
        | some o => obtain ⟨o', e'⟩ := R1.old.there _ _ e; exact absurd rfl (hI _ _ e')
      · obtain ⟨_, _, o, eo, _⟩ := R1.ro q hq
        exact hI _ _ eo
    · intro b hb hm
      rw [List.mem_singleton.mp hm] at hb
      obtain ⟨o, eo⟩ := R1.bd _ hb
      exact absurd rfl (hI _ _ eo)
  back := fun s o s' R S => S

theorem S_while {test : Expr} {body : List Stmt} {p : Pos} {Q : AFlow → Own → Prop} (J : Nat → Own → Prop) (m : Nat) (j0 : J m own)
    (turn : ∀ m own1, J m own1 → WB x A (isTrue test env (eval test env)) own1 fun b own2 => (b = true → WS x A (execs body env) own2 (LpPost (fun o => ∃ m', m' < m ∧ J m' o) Q)) ∧ (b = false → Q .next own2)) :
    WS x A (exec (.While test body [] p) env) own Q := fun s R => by
  refine wpAny_While (codeAny_mono (R := fun r s' => match r with | .ok f => ∃ own', Step x own s own' s' ∧ ∃ af, FlowRep x.bad s'.heap af f ∧ Q af own' | .error _ => False) ?_ fun r s' hr => by
    cases r with
    | ok f => exact hr
    | error e => exact hr.elim)
  refine codeAny_whileLoop (fun k s' => ∃ own1, Step x own s own1 s' ∧ J k own1) ?_ m ⟨own, Step.refl R, j0⟩
  rintro k s' ⟨own1, S1, j1⟩
  refine WP.run (turn k own1 j1) S1 fun b s2 own2 S2 k2 h2 => ?_
  cases b with
  | false =>
    simp only [Bool.false_eq_true, if_false]
    exact wpAny_execs_nil ⟨own2, S2, .next, rfl, h2.2 rfl⟩
  | true =>
    simp only [if_true]
    refine WP.run (h2.1 rfl) S2 fun f s3 own3 S3 k3 ⟨af, raf, q⟩ => ?_
    cases af with
    | next => cases raf; obtain ⟨m', hm, j'⟩ := q; exact ⟨m', hm, own3, S3, j'⟩
    | cont => cases raf; obtain ⟨m', hm, j'⟩ := q; exact ⟨m', hm, own3, S3, j'⟩
    | brk => cases raf; exact ⟨own3, S3, .next, rfl, q⟩
    | ret v => obtain ⟨u, rfl, ru⟩ := raf; exact ⟨own3, S3, .ret v, ⟨u, rfl, ru⟩, q⟩
end
end
section
structure Lv (n : Nat) (A : Around) : Prop where
  hnd : A.handled = none
  dep : A.depth + n < recursionLimit
  uni : A.units + 20 * n < cLine
theorem Fm.lv {n : Nat} {A : Around} {env : Env} {nm gn : List Str} (H : Fm n A env nm gn) : Lv n A := ⟨H.hnd, H.dep, H.uni⟩
theorem Lv.le {n m : Nat} {A : Around} (H : Lv n A) (h : m ≤ n) : Lv m A := ⟨H.hnd, by have := H.dep; omega, by have := H.uni; omega⟩

def initAV (ps : List Str) (as : List AV) (y : Str) : AV := ((ps.zip as).reverse.lookup y).getD .any

theorem lookup_append {α : Type} (l r : List (Str × α)) (y : Str) : (l ++ r).lookup y = (l.lookup y).or (r.lookup y) := by
  induction l with
  | nil => simp
  | cons p l ih =>
    obtain ⟨k, v⟩ := p
    simp only [List.cons_append, List.lookup_cons]
    cases y == k <;> simp [ih]

theorem bindL_eq (k : Str → Option NameKind) (y : Str) (hk : k y = some .local) : ∀ (binds : List (Str × Value)) (m : Str → Option Value), bindL k binds m y = (binds.reverse.lookup y).or (m y)
  | [], m => by simp [bindL]
  | (n, v) :: r, m => by
    rw [bindL, bindL_eq k y hk r, List.reverse_cons, lookup_append, Option.or_assoc]
    congr 1
    by_cases e : y = n
    · subst e; simp [hk]
    · have : (y == n) = false := beq_eq_false_iff_ne.mpr e
      simp only [List.lookup_cons, this, List.lookup_nil, Option.none_or]
      split <;> simp [e]
theorem bindC_eq (k : Str → Option NameKind) (y : Str) (hk : k y ≠ some .local) : ∀ (binds : List (Str × Value)) (m : Str → Option Value), bindC k binds m y = (binds.reverse.lookup y).or (m y)
  | [], m => by simp [bindC]
  | (n, v) :: r, m => by
    rw [bindC, bindC_eq k y hk r, List.reverse_cons, lookup_append, Option.or_assoc]
    congr 1
    by_cases e : y = n
    · subst e; simp [hk]
    · have : (y == n) = false := beq_eq_false_iff_ne.mpr e
      simp only [List.lookup_cons, this, List.lookup_nil, Option.none_or]
      split <;> simp [e]

theorem zip_none {y : Str} : ∀ {ps : List Str} {as : List AV} {vs : List Value}, as.length = vs.length → (ps.zip as).reverse.lookup y = none → (ps.zip vs).reverse.lookup y = none
  | [], _, _, _, _ => by simp
  | p :: ps, [], [], _, _ => by simp
  | p :: ps, a :: as, v :: vs, hl, e => by
    simp only [List.zip_cons_cons, List.reverse_cons, lookup_append] at e ⊢
    cases h1 : (ps.zip as).reverse.lookup y with
    | some c => rw [h1] at e; simp at e
    | none =>
      rw [h1] at e
      rw [zip_none (by simpa using hl) h1]
      simp only [Option.none_or, List.lookup_cons, List.lookup_nil] at e ⊢
      cases hq : y == p with
      | true => rw [hq] at e; simp at e
      | false => rfl
theorem zip_rep {B : List Addr} {h : Heap} {y : Str} {a : AV} : ∀ {ps : List Str} {as : List AV} {vs : List Value}, Reps B h as vs → (ps.zip as).reverse.lookup y = some a → ∃ v, (ps.zip vs).reverse.lookup y = some v ∧ Rep B h a v
  | [], _, _, _, e => by simp at e
  | p :: ps, [], vs, r, e => by simp at e
  | p :: ps, b :: as, vs, r, e => by
    simp only [Reps] at r
    obtain ⟨v, vs, rfl, r1, r2⟩ := r
    simp only [List.zip_cons_cons, List.reverse_cons, lookup_append] at e ⊢
    cases h1 : (ps.zip as).reverse.lookup y with
    | some c =>
      rw [h1] at e
      simp at e
      subst e
      obtain ⟨w, h2, h3⟩ := zip_rep r2 h1
      exact ⟨w, by rw [h2]; rfl, h3⟩
    | none =>
      rw [h1] at e
      rw [zip_none r2.length h1]
      simp only [Option.none_or, List.lookup_cons, List.lookup_nil] at e ⊢
      cases hq : y == p with
      | true => rw [hq] at e; simp at e; subst e; exact ⟨v, rfl, r1⟩
      | false => rw [hq] at e; simp at e

theorem ns_init {B : List Addr} {h : Heap} {k : Str → Option NameKind} {ps : List Str} {as : List AV} {vs : List Value} (r : Reps B h as vs) : ∀ {nm : List Str}, (∀ y ∈ nm, k y = some .local) →
    NsRep B h (bindL k (ps.zip vs) fun _ => none) nm (nm.map (initAV ps as))
  | [], _ => .nil
  | y :: nm, hk => by
    have ih := ns_init (ps := ps) r (fun z hz => hk z (.tail _ hz))
    simp only [List.map_cons]
    unfold initAV at ih ⊢
    cases e : (ps.zip as).reverse.lookup y with
    | none => exact .any ih
    | some a =>
      obtain ⟨v, h1, h2⟩ := zip_rep r e
      exact .cons (by rw [bindL_eq k y (hk y (.head _)), h1]; rfl) h2 ih

theorem mem_cells {g : Str → AV} : ∀ {cn : List Str} {cs : List Addr} {p : Addr × AObj}, p ∈ (cs.zip (cn.map g)).map (fun p => (p.1, AObj.cell p.2)) → ∃ y, (y, p.1) ∈ cn.zip cs ∧ p.2 = AObj.cell (g y)
  | [], cs, p, h => by simp at h
  | y :: cn, [], p, h => by simp at h
  | y :: cn, c :: cs, p, h => by
    simp only [List.map_cons, List.zip_cons_cons, List.mem_cons] at h
    rcases h with rfl | h
    · exact ⟨y, .head _, rfl⟩
    · obtain ⟨z, h1, h2⟩ := mem_cells (cn := cn) (cs := cs) h
      exact ⟨z, .tail _ h1, h2⟩
theorem lookup_of_mem {y : Str} {c : Addr} : ∀ {l : List (Str × Addr)}, (l.map (·.1)).Nodup → (y, c) ∈ l → l.lookup y = some c
  | [], _, h => by simp at h
  | q :: l, nd, h => by
    obtain ⟨q1, q2⟩ := q
    have nd' := List.nodup_cons.mp nd
    simp only [List.lookup_cons]
    rcases List.mem_cons.mp h with h | h
    · cases h; simp
    · have : (y == q1) = false := beq_eq_false_iff_ne.mpr fun e => nd'.1 (e ▸ List.mem_map.mpr ⟨_, h, rfl⟩)
      rw [this]
      exact lookup_of_mem nd'.2 h
theorem addrs_cells {g : Str → AV} : ∀ {cn : List Str} {cs : List Addr}, cs.length = cn.length → addrs ((cs.zip (cn.map g)).map (fun p => (p.1, AObj.cell p.2))) = cs
  | [], [], _ => rfl
  | y :: cn, c :: cs, h => by
    have := addrs_cells (g := g) (cn := cn) (cs := cs) (by simpa using h)
    simp only [List.map_cons, List.zip_cons_cons]
    show c :: addrs _ = _
    rw [this]
theorem zip_snd_nodup : ∀ {cn : List Str} {cs : List Addr}, cs.length = cn.length → (cn.zip cs).Pairwise (fun x y => x.2 ≠ y.2) → cs.Nodup
  | [], [], _, _ => List.nodup_nil
  | y :: cn, c :: cs, h, p => by
    simp only [List.zip_cons_cons, List.pairwise_cons] at p
    refine List.nodup_cons.mpr ⟨fun hm => ?_, zip_snd_nodup (by simpa using h) p.2⟩
    have hl : cs.length = cn.length := by simpa using h
    obtain ⟨i, hi, e⟩ := List.mem_iff_getElem.mp hm
    have : (cn[i]'(by omega), cs[i]) ∈ cn.zip cs := by
      rw [List.mem_iff_getElem]
      exact ⟨i, by simp; omega, by simp⟩
    exact p.1 _ this e.symm
theorem mem_zip_snd : ∀ {cn : List Str} {cs : List Addr} {c : Addr}, cs.length = cn.length → c ∈ cs → ∃ y, (y, c) ∈ cn.zip cs
  | [], [], c, _, h => by simp at h
  | y :: cn, d :: cs, c, hl, h => by
    rcases List.mem_cons.mp h with rfl | h
    · exact ⟨y, .head _⟩
    · obtain ⟨z, hz⟩ := mem_zip_snd (cn := cn) (by simpa using hl) h
      exact ⟨z, .tail _ hz⟩

/-- the binding of the arguments -/
def BindsTo (K : Frag) (fd : FuncData) (vals : List Value) (binds : List (Str × Value)) : Prop := ∀ (prog : Program) (w : World) (A : Around) (Q : List (Str × Value) → Shared → Prop) (E : Value → Shared → Prop) (s : Shared), K.In s.heap → Q binds s → wpAny (model prog w) A (bindArgs fd ⟨vals, []⟩) Q E s
theorem BindsTo.of {K : Frag} {fd : FuncData} {vals : List Value} {binds : List (Str × Value)} (h : bindArgs fd ⟨vals, []⟩ = pure binds) : BindsTo K fd vals binds := fun prog w A Q E s _ q => by
  rw [h]; exact wpAny_pure q
theorem call_cells_w {prog : Program} {w : World} {A : Around} {s : Shared} {R : Result → Shared → Prop} {a : Addr} {o : Obj} {fd : FuncData} {body : List Stmt} {vals : List Value} {binds : List (Str × Value)}
    (hroom : A.depth < recursionLimit) (ho : s.heap.get? a = some o) (hdata : o.data = .func fd) (hlim : s.heap.NoLimit) (hcd : s.heap.CodeRec fd.code fd.qualname)
    (hbody : fd.body = .stmts body) (hbind : ∀ (A : Around) (Q : List (Str × Value) → Shared → Prop) (E : Value → Shared → Prop), Q binds s → wpAny (model prog w) A (bindArgs fd ⟨vals, []⟩) Q E s) (hclo : fd.closure = [])
    (hkind : ∀ x ∈ binds, fd.scope.names.lookup x.1 = some .local ∨ (fd.scope.names.lookup x.1 = some .cell ∧ ((cellsFrom (s.heap.objs.size + 1) fd.scope.names []).lookup x.1).isSome = true))
    (h : ∀ s₁, InCallC s (callEnvC fd s.heap.objs.size a).locals (bindL (callEnvC fd s.heap.objs.size a).kindOf binds fun _ => none) (callEnvC fd s.heap.objs.size a).cells
        (bindC (callEnvC fd s.heap.objs.size a).kindOf binds fun _ => none) s₁ →
      wpAny (model prog w) (A.deeper (callEnvC fd s.heap.objs.size a)) (execs body (callEnvC fd s.heap.objs.size a)) (fun f s' => R (.ok (.ret (match f with | .ret v => v | _ => .none))) s')
        (fun e s' => wpAny (model prog w) (A.deeper (callEnvC fd s.heap.objs.size a)) (leaving (callEnvC fd s.heap.objs.size a) e) (fun _ s'' => R (.error e) s'') (fun e' s'' => R (.error e') s'') s') s₁)
    (hco : fd.scope.isCoroutine = false) (hgen : fd.scope.isGenerator = false) (hk : fd.scope.kind = .function) :
    codeAny (model prog w) A (.call (.ref a) ⟨vals, []⟩) R s := by
  refine codeAny_call_function hroom ho hdata hco hgen hbody hcd ?_
  refine hbind _ _ _ ?_
  rw [hclo]
  refine wpAny_newFunctionEnv_cells hk hkind fun env he s' x => ?_
  subst he
  exact ⟨hlim.keeps x.toInCall.keep, codeAny_func (h s' x)⟩
structure FnAt (K : Frag) (a : Addr) (fd : FuncData) (body : List Stmt) (ps : List Str) (dv : List Value) : Prop where
  k : K.lookup a = some { cls := .type "function", data := .func fd }
  bd : fd.body = .stmts body
  cd : ∃ c o vs t, fd.code = .ref c ∧ K.lookup c = some o ∧ o.data = .fields vs ∧ vs[1]? = some (.str fd.qualname t)
  bi : ∀ vals : List Value, vals.length + dv.length = ps.length → BindsTo K fd vals (ps.zip (vals ++ dv))
  gl : fd.globals = mainGlobals
  cl : fd.closure = []
  bu : fd.builtins = builtinsNs
  co : fd.scope.isCoroutine = false
  ge : fd.scope.isGenerator = false
  ki : fd.scope.kind = .function

def RetQ (Q : AV → Own → Prop) (f : AFlow) (own : Own) : Prop := ∃ o, List.Sublist o own ∧ match f with
  | .ret v => Q v o
  | .next => Q (.val .none) o
  | _ => False

def cellNames (sc : Scope) : List Str := (cellsFrom 0 sc.names []).map (·.1)

def WCd (x : Cx) (A : Around) (a : Addr) (as : List AV) (own : Own) (Q : AV → Own → Prop) : Prop := ∀ vs s, Rel x own s → Reps x.bad s.heap as vs →
  codeAny (model x.prog x.w) A (.call (.ref a) ⟨vs, []⟩) (fun r s' => match r with | .ok (.ret v) => ∃ own', Step x own s own' s' ∧ ∃ av, Rep x.bad s'.heap av v ∧ Q av own' | .ok _ => False | .error e => False) s
theorem WCd.wo {x : Cx} {A : Around} {a : Addr} {as : List AV} {own : Own} {Q : AV → Own → Prop} (h : WCd x A a as own Q) : WO x A (callv (.ref a)) as own Q := fun vs s R r => wpAny_call (h vs s R r)
theorem C_fn {x : Cx} {A : Around} {own : Own} {n : Nat} {nm gn : List Str} {Q : AV → Own → Prop} {a : Addr} {fd : FuncData} {body : List Stmt} {ps : List Str} {as : List AV} {dv : List Value}
    (F : FnAt x.K a fd body ps dv) (hl : Lv (n + 1) A) (hlen : as.length + dv.length = ps.length)
    (hnm : ∀ y ∈ nm, fd.scope.names.lookup y = some .local ∧ (y == ("__debug__" : Str)) = false) (hnd : nm.Nodup)
    (hgn : ∀ y ∈ gn, fd.scope.names.lookup y = some .globalImplicit ∧ (y == ("__debug__" : Str)) = false)
    (hps : ∀ y ∈ ps, fd.scope.names.lookup y = some .local ∨ (fd.scope.names.lookup y = some .cell ∧ y ∈ cellNames fd.scope))
    (hcn : ∀ y ∈ cellNames fd.scope, fd.scope.names.lookup y ≠ some .local) (hcd : (cellNames fd.scope).Nodup)
    (h : ∀ env, env.scope = fd.scope → env.code = fd.code → Fm n (A.deeper env) env nm gn → ∀ cs, cs.length = (cellNames fd.scope).length → env.cells = (cellNames fd.scope).zip cs →
      WS x (A.deeper env) (execs body env) ((env.locals, .ns nm (nm.map (initAV ps (as ++ dv.map .val)))) :: ((cs.zip ((cellNames fd.scope).map (initAV ps (as ++ dv.map .val)))).map (fun p => (p.1, AObj.cell p.2)) ++ own)) (RetQ Q)) :
    WCd x A a as own Q := fun vs s R r₀ => by
  have r : Reps x.bad s.heap (as ++ dv.map .val) (vs ++ dv) := r₀.append (by
    clear F hlen h
    induction dv with
    | nil => exact .nil
    | cons d dv ih => exact Reps.cons rep_mk_val ih)
  obtain ⟨c, o, fs, t, hc1, hc2, hc3, hc4⟩ := F.cd
  refine (call_cells_w (fd := fd) (by have := hl.dep; omega) (R.kin _ _ F.k) rfl R.lim ⟨c, o, fs, t, hc1, R.kin _ _ hc2, hc3, hc4⟩ F.bd (fun A Q E q => F.bi vs (by rw [← r₀.length]; exact hlen) _ _ A Q E s R.kin q) F.cl ?_ (fun s₁ X => ?_) F.co F.ge F.ki)
  · intro p hp
    obtain ⟨k, v⟩ := p
    have hk : k ∈ ps := (List.of_mem_zip hp).1
    rcases hps k hk with h1 | ⟨h1, h2⟩
    · exact .inl h1
    · refine .inr ⟨h1, ?_⟩
      have e := cellsFrom_names fd.scope.names 0 (s.heap.objs.size + 1) [] [] rfl
      unfold cellNames at h2
      rw [e] at h2
      clear e h1 hp hk h
      generalize cellsFrom (s.heap.objs.size + 1) fd.scope.names [] = l at h2
      induction l with
      | nil => simp at h2
      | cons q l ih =>
        obtain ⟨q1, q2⟩ := q
        simp only [List.lookup_cons]
        cases hq : k == q1 with
        | true => rfl
        | false =>
          simp only [List.map_cons, List.mem_cons] at h2
          rcases h2 with h2 | h2
          · subst h2; simp at hq
          · exact ih h2
  · obtain ⟨h', tk, e⟩ := X.toInCall.same
    have hcs : ∃ cs, cs.length = (cellNames fd.scope).length ∧ cellsFrom (s.heap.objs.size + 1) fd.scope.names [] = (cellNames fd.scope).zip cs ∧ cs = (cellsFrom (s.heap.objs.size + 1) fd.scope.names []).map (·.2) := by
      have e := cellsFrom_names fd.scope.names 0 (s.heap.objs.size + 1) [] [] rfl
      unfold cellNames
      rw [e]
      refine ⟨_, ?_, ?_, rfl⟩
      · simp
      · generalize cellsFrom (s.heap.objs.size + 1) fd.scope.names [] = l
        induction l with
        | nil => rfl
        | cons q l ih => simp [← ih]
    obtain ⟨cs, hcl, hce, hcs2⟩ := hcs
    have env_cells : (callEnvC fd s.heap.objs.size a).cells = (cellNames fd.scope).zip cs := hce
    have hfm : Fm n (A.deeper (callEnvC fd s.heap.objs.size a)) (callEnvC fd s.heap.objs.size a) nm gn :=
      ⟨hl.hnd, by have := hl.dep; show A.depth + 1 + n < _; omega, by have := hl.uni; show A.units + 3 + 20 * n < _; omega, F.ki, hnm, hgn, F.gl, F.bu⟩
    have step : Step x own s (((callEnvC fd s.heap.objs.size a).locals, AObj.ns nm (nm.map (initAV ps (as ++ dv.map .val)))) :: ((cs.zip ((cellNames fd.scope).map (initAV ps (as ++ dv.map .val)))).map (fun p => (p.1, AObj.cell p.2)) ++ own)) s₁ := by
      rw [e]
      have keep : ∀ b o, s.heap.get? b = some o → h'.get? b = some o := fun b o eb => by have := X.toInCall.keep b o eb; rw [e] at this; exact this
      have hz : ∀ p ∈ own, p.1 < s.heap.objs.size := fun p hp => by obtain ⟨o, eo⟩ := (R.has p hp).there; exact Heap.lt_size eo
      have habove : ∀ c ∈ cs, s.heap.objs.size < c := fun c hc => by
        obtain ⟨y, hy⟩ := mem_zip_snd hcl hc
        exact X.above y c (env_cells ▸ hy)
      have hnone : ∀ c, s.heap.objs.size ≤ c → s.heap.get? c = none := fun c hc => by
        cases eb : s.heap.get? c with
        | none => rfl
        | some o => exact absurd (Heap.lt_size eb) (Nat.not_lt.mpr hc)
      have had : addrs (((callEnvC fd s.heap.objs.size a).locals, AObj.ns nm (nm.map (initAV ps (as ++ dv.map .val)))) :: ((cs.zip ((cellNames fd.scope).map (initAV ps (as ++ dv.map .val)))).map (fun p => (p.1, AObj.cell p.2)) ++ own)) = s.heap.objs.size :: (cs ++ addrs own) := by
        show s.heap.objs.size :: addrs (_ ++ _) = _
        congr 1
        unfold addrs
        rw [List.map_append]
        congr 1
        exact addrs_cells hcl
      refine Step.make R (fun b o _ eb => keep b o eb) (fun p hp => let ⟨o, eo⟩ := (R.has p hp).there; ⟨o, keep _ _ eo⟩) ?_ ?_ ?_ R.gens
      · rw [had]
        refine List.nodup_cons.mpr ⟨fun hm => ?_, List.nodup_append.mpr ⟨zip_snd_nodup hcl (env_cells ▸ X.apart), R.nodup, fun c hc d hd ecd => ?_⟩⟩
        · rcases List.mem_append.mp hm with hm | hm
          · exact Nat.lt_irrefl _ (habove _ hm)
          · obtain ⟨p, hp, ep⟩ := List.mem_map.mp hm
            have ep' : p.1 = s.heap.objs.size := ep
            have h1 := hz p hp
            rw [ep'] at h1; exact Nat.lt_irrefl _ h1
        · obtain ⟨p, hp, ep⟩ := List.mem_map.mp hd
          have ep' : p.1 = d := ep
          have h1 := hz p hp; have h2 := habove _ hc
          subst ecd; rw [ep'] at h1; exact Nat.lt_irrefl _ (Nat.lt_trans h1 h2)
      · intro p hp
        rcases List.mem_cons.mp hp with rfl | hp
        · have ens := X.toInCall.ns
          rw [e] at ens
          exact ⟨_, ens, ns_init (Reps.mono (fun b us m _ eb => keep _ _ eb) _ _ r) (fun y hy => (hnm y hy).1), hnd⟩
        · rcases List.mem_append.mp hp with hp | hp
          · obtain ⟨y, h1, h2⟩ := mem_cells hp
            have hlk : (callEnvC fd s.heap.objs.size a).cells.lookup y = some p.1 := by
              rw [env_cells]
              refine lookup_of_mem ?_ h1
              rw [List.map_fst_zip (by omega)]
              exact hcd
            have hc := X.cell y p.1 hlk
            rw [e] at hc
            rw [h2]
            refine ⟨_, hc, ?_⟩
            have hy : y ∈ cellNames fd.scope := (List.of_mem_zip h1).1
            rw [bindC_eq _ y (hcn y hy)]
            unfold initAV
            cases ea : (ps.zip (as ++ dv.map .val)).reverse.lookup y with
            | none => trivial
            | some b =>
              obtain ⟨v, hv, rv⟩ := zip_rep r ea
              rw [hv]
              have rv' := Rep.mono (h' := h') (fun b us m _ eb => keep _ _ eb) _ _ rv
              show CellRep x.bad h' b (some v)
              cases b <;> first | trivial | exact ⟨v, rfl, rv'⟩
          · exact (R.has p hp).grow keep
      · rw [had]
        intro b hb
        rcases List.mem_cons.mp hb with rfl | hb
        · exact .inr (hnone _ (Nat.le_refl _))
        · rcases List.mem_append.mp hb with hb | hb
          · exact .inr (hnone _ (Nat.le_of_lt (habove _ hb)))
          · exact .inl hb
    refine wpAny_mono (WP.run (K := fun f s' => ∃ own', Step x own s own' s' ∧ ∃ av, Rep x.bad s'.heap av (match f with | .ret v => v | _ => .none) ∧ Q av own') (E := fun _ _ => False) (h _ rfl rfl hfm cs hcl env_cells) step fun f s2 own2 S2 k2 ⟨af, raf, o, sub, q⟩ => ?_) (fun _ _ q => q) (fun _ _ f => f.elim)
    cases af with
    | next => cases raf; exact ⟨o, S2.forget sub, _, rep_mk_val, q⟩
    | brk => exact q.elim
    | cont => exact q.elim
    | ret v => obtain ⟨u, rfl, ru⟩ := raf; exact ⟨o, S2.forget sub, v, ru, q⟩
end
section
inductive Look (y : Str) (a : AV) : List Str → List AV → Prop
  | z {nm : List Str} {m : List AV} : Look y a (y :: nm) (a :: m)
  | s {z : Str} {b : AV} {nm : List Str} {m : List AV} : Look y a nm m → Look y a (z :: nm) (b :: m)
inductive SetL (y : Str) (a : AV) : List Str → List AV → List AV → Prop
  | z {nm : List Str} {b : AV} {m : List AV} : SetL y a (y :: nm) (b :: m) (a :: m)
  | s {z : Str} {b : AV} {nm : List Str} {m m' : List AV} : SetL y a nm m m' → SetL y a (z :: nm) (b :: m) (b :: m')
theorem Look.idx {y : Str} {a : AV} {nm : List Str} {m : List AV} (h : Look y a nm m) : ∃ i : Nat, nm[i]? = some y ∧ m[i]? = some a := by
  induction h with
  | z => exact ⟨0, rfl, rfl⟩
  | s _ ih => obtain ⟨i, h1, h2⟩ := ih; exact ⟨i + 1, by simpa using h1, by simpa using h2⟩
theorem SetL.idx {y : Str} {a : AV} {nm : List Str} {m m' : List AV} (h : SetL y a nm m m') : ∃ i : Nat, nm[i]? = some y ∧ SetAt a i m m' := by
  induction h with
  | z => exact ⟨0, rfl, .z⟩
  | s _ ih => obtain ⟨i, h1, h2⟩ := ih; exact ⟨i + 1, by simpa using h1, .s h2⟩

theorem Upd.mem2 {a : Addr} {o o' : AObj} {l l' : Own} (u : Upd a o o' l l') : (a, o') ∈ l' := by
  induction u with
  | z => exact .head _
  | s _ ih => exact .tail _ ih
theorem Kn.own {x : Cx} {own : Own} {p : Addr × AObj} (h : p ∈ own) : Kn x own p := .inl h
theorem Kn.ro {x : Cx} {own : Own} {p : Addr × AObj} (h : p ∈ x.ro) : Kn x own p := .inr h
theorem Kn.tail {x : Cx} {own : Own} {p q : Addr × AObj} (h : Kn x own p) : Kn x (q :: own) p := h.imp (List.mem_cons_of_mem _) id
def Glob (h₀ : Heap) (y : Str) (v : Value) : Prop := ∃ mg mb, Tp h₀ mg mb ∧ (mg y = some v ∨ (mg y = none ∧ mb y = some v))

section
variable {x : Cx} {A : Around} {own : Own} {env : Env} {n : Nat} {nm gn : List Str} {Q : AV → Own → Prop}

theorem N_loc (H : Fm n A env nm gn) {y : Str} {p : Pos} {m : List AV} {a : AV} (hm : (env.locals, AObj.ns nm m) ∈ own) (l : Look y a nm m) (k : a.known) (q : Q a own) : WV x A (eval (.Name y p) env) own Q :=
  let ⟨i, h1, h2⟩ := l.idx; E_loc H i h1 hm h2 k q
theorem N_glo (H : Fm n A env nm gn) {y : Str} {p : Pos} {v : Value} (hy : y ∈ gn) (g : Glob x.h₀ y v) (q : Q (.val v) own) : WV x A (eval (.Name y p) env) own Q := by
  obtain ⟨mg, mb, T, h⟩ := g
  obtain ⟨i, hi⟩ := List.getElem?_of_mem hy
  rcases h with h | ⟨h1, h2⟩
  · exact E_glo T H i hi h q
  · exact E_bui T H i hi h1 h2 q
theorem N_call (H : Fm n A env nm gn) {y : Str} {np p : Pos} {es : List Expr} {v : Value} (hy : y ∈ gn) (g : Glob x.h₀ y v) (hc : Cle x v) (h : WVs x A env es own fun as own2 => WO x A (callv v) as own2 Q)
    (hs : backTo p (starEach es env) = es.map fun e => (false, eval e env) := by with_unfolding_all rfl) : WV x A (eval (.Call (.Name y np) es [] p) env) own Q :=
  E_call (N_glo H hy g ⟨v, rfl, hc, h⟩) hs
theorem V_nil {Q : List AV → Own → Prop} (q : Q [] own) : WVs x A env [] own Q := q
theorem V_cons {e : Expr} {es : List Expr} {Q : List AV → Own → Prop} (h : WV x A (eval e env) own fun a own1 => WVs x A env es own1 fun as own2 => Q (a :: as) own2) : WVs x A env (e :: es) own Q := h
theorem N_set (H : Fm n A env nm gn) {y : Str} {p : Pos} {m m' : List AV} {a : AV} {own' : Own} {K : Own → Prop} (u : Upd env.locals (.ns nm m) (.ns nm m') own own') (w : SetL y a nm m m') (k : a.known) (q : K own') :
    WA x A env (.Name y p) a own K := let ⟨i, h1, h2⟩ := w.idx; A_loc H i h1 u h2 k q
def WSt (env : Env) (nm : List Str) (y : Str) (c : AV) (own : Own) (K : Own → Prop) : Prop := ∃ m m' own3, Upd env.locals (.ns nm m) (.ns nm m') own own3 ∧ SetL y c nm m m' ∧ c.known ∧ K own3
theorem N_store {y : Str} {c : AV} {K : Own → Prop} {m m' : List AV} {own3 : Own} (u : Upd env.locals (.ns nm m) (.ns nm m') own own3) (w : SetL y c nm m m') (k : c.known) (q : K own3) : WSt env nm y c own K := ⟨m, m', own3, u, w, k, q⟩
theorem N_aug (H : Fm n A env nm gn) {y : Str} {pn : Pos} {op : Operator} {e : Expr} {p : Pos} {m : List AV} {a : AV} {Q : AFlow → Own → Prop} (hm : (env.locals, AObj.ns nm m) ∈ own) (l : Look y a nm m) (k : a.known)
    (h : WV x A (eval e env) own fun b own1 => WO x A (iop op) [a, b] own1 fun c own2 => WSt env nm y c own2 fun own3 => Q .next own3) :
    WS x A (exec (.AugAssign (.Name y pn) op e p) env) own Q := by
  obtain ⟨i, hi, ha⟩ := l.idx
  refine S_aug H i hi hm ha k (WV.mono h fun b own1 h1 vs s R r => ?_)
  refine wpAny_mono (h1 vs s R r) (fun v s' => ?_) fun _ _ f => f
  rintro ⟨own', S, c, rc, m2, m', own3, u, w, kc, q⟩
  obtain ⟨j, hj, wj⟩ := w.idx
  obtain ⟨_, _, _, nd⟩ := S.rel.has _ u.mem
  have e : i = j := (List.getElem?_inj (List.getElem?_eq_some_iff.mp hi).1 nd).mp (hi.trans hj.symm)
  subst e
  exact ⟨own', S, c, rc, m2, m', own3, u, wj, kc, q⟩

theorem Nx.nx {rest : List Stmt} {Q : AFlow → Own → Prop} (h : WS x A (execs rest env) own Q) : Nx x A rest env Q .next own := h
theorem Nx.r {rest : List Stmt} {Q : AFlow → Own → Prop} {v : AV} (h : Q (.ret v) own) : Nx x A rest env Q (.ret v) own := h
theorem Nx.b {rest : List Stmt} {Q : AFlow → Own → Prop} (h : Q .brk own) : Nx x A rest env Q .brk own := h
theorem Nx.c {rest : List Stmt} {Q : AFlow → Own → Prop} (h : Q .cont own) : Nx x A rest env Q .cont own := h
theorem RetQ.r {v : AV} {o : Own} (q : Q v o) (h : List.Sublist o own) : RetQ Q (.ret v) own := ⟨o, h, q⟩
theorem RetQ.no {o : Own} (q : Q (.val .none) o) (h : List.Sublist o own) : RetQ Q .next own := ⟨o, h, q⟩
/-- comparisons, as tests -/
def WC (x : Cx) (A : Around) (op : CmpOp) (a b : AV) (own : Own) (Q : Bool → Own → Prop) : Prop := WO x A (cop op) [a, b] own fun c own3 => ∃ t, c = .val (.bool t) ∧ Q t own3
theorem T_cmp {l r : Expr} {op : CmpOp} {p : Pos} {w : Sem Value} {Q : Bool → Own → Prop} (h : WV x A (eval l env) own fun a own1 => WV x A (eval r env) own1 fun b own2 => WC x A op a b own2 Q)
    (hm : behindInMarks op r = false := by with_unfolding_all rfl) : WB x A (isTrue (.Compare l [op] [r] p) env w) own Q := B_cmp h hm
theorem of_bool {P : Prop} [Decidable P] {Q : Bool → Own → Prop} (h1 : P → Q true own) (h2 : ¬ P → Q false own) : Q (decide P) own := by
  by_cases h : P
  · rw [decide_eq_true h]; exact h1 h
  · rw [decide_eq_false h]; exact h2 h
theorem C_lt {a b : Int} {Q : Bool → Own → Prop} (h1 : a < b → Q true own) (h2 : ¬ a < b → Q false own) : WC x A .Lt (.int a) (.int b) own Q := O_lt ⟨_, rfl, of_bool h1 h2⟩
theorem C_le {a b : Int} {Q : Bool → Own → Prop} (h1 : a ≤ b → Q true own) (h2 : ¬ a ≤ b → Q false own) : WC x A .LtE (.int a) (.int b) own Q := O_le ⟨_, rfl, of_bool h1 h2⟩
theorem C_gt {a b : Int} {Q : Bool → Own → Prop} (h1 : b < a → Q true own) (h2 : ¬ b < a → Q false own) : WC x A .Gt (.int a) (.int b) own Q := O_gt ⟨_, rfl, of_bool h1 h2⟩
theorem C_ge {a b : Int} {Q : Bool → Own → Prop} (h1 : b ≤ a → Q true own) (h2 : ¬ b ≤ a → Q false own) : WC x A .GtE (.int a) (.int b) own Q := O_ge ⟨_, rfl, of_bool h1 h2⟩
theorem C_eq {a b : Int} {Q : Bool → Own → Prop} (h1 : a = b → Q true own) (h2 : ¬ a = b → Q false own) : WC x A .Eq (.int a) (.int b) own Q := O_eq ⟨_, rfl, of_bool (P := a = b) h1 h2⟩
theorem C_ne {a b : Int} {Q : Bool → Own → Prop} (h1 : a ≠ b → Q true own) (h2 : a = b → Q false own) : WC x A .NotEq (.int a) (.int b) own Q := O_ne ⟨_, rfl, by
  by_cases h : a = b
  · rw [show (a != b) = false from by simp [h]]; exact h2 h
  · rw [show (a != b) = true from by simp [h]]; exact h1 h⟩

def IfB (c : Bool) (P R : Prop) : Prop := match c with
  | true => P
  | false => R
theorem IfB.t {P R : Prop} (h : P) : IfB true P R := h
theorem IfB.f {P R : Prop} (h : R) : IfB false P R := h
theorem IfB.two {c : Bool} {P R : Prop} (h : IfB c P R) : (c = true → P) ∧ (c = false → R) := by
  cases c
  · exact ⟨fun e => (by cases e), fun _ => h⟩
  · exact ⟨fun _ => h, fun e => (by cases e)⟩
theorem N_if {t : Expr} {b o : List Stmt} {p : Pos} {Q : AFlow → Own → Prop} (h : WB x A (isTrue t env (eval t env)) own fun c own1 => IfB c (WS x A (execs b env) own1 Q) (WS x A (execs o env) own1 Q)) :
    WS x A (exec (.If t b o p) env) own Q := S_if (WP.mono h fun _ _ _ q => q.two)
theorem N_ife {t b o : Expr} {p : Pos} (h : WB x A (isTrue t env (eval t env)) own fun c own1 => IfB c (WV x A (eval b env) own1 Q) (WV x A (eval o env) own1 Q)) :
    WV x A (eval (.IfExp t b o p) env) own Q := E_if (WP.mono h fun _ _ _ q => q.two)
theorem N_assert {e : Expr} {m : Option Expr} {p : Pos} {Q : AFlow → Own → Prop} (h : WB x A (isTrue e env (eval e env)) own fun c own1 => IfB c (Q .next own1) False) : WS x A (exec (.Assert e m p) env) own Q :=
  S_assert (WP.mono h fun c _ _ q => by cases c <;> first | exact ⟨rfl, q⟩ | exact q.elim)

theorem O_mulr {a b : Int} (h : -1000000000 ≤ b ∧ b ≤ 1000000000) (q : Q (.int (a * b)) own) : WO x A (bop .Mult) [.int a, .int b] own Q := O_mul (IntMulOk.of_right (by rw [← X.oBits.2]; exact X.bits_le (by omega) (by omega))) q
theorem O_divs {a b : Int} (h : 0 < b ∧ b ≤ 1000000000) (q : Q (.int (a / b)) own) : WO x A (bop .FloorDiv) [.int a, .int b] own Q := O_div h.1 q (PyProof.noPylong_of_log2 (by
  have : b.natAbs.log2 < 64 := by
    rw [Nat.log2_lt (by omega)]; omega
  omega))

theorem SetAt.eq {v : AV} {n : Nat} {m m' : List AV} (h : SetAt v n m m') : m' = m.set n v ∧ n < m.length := by
  induction h with
  | z => simp
  | s _ ih => exact ⟨by rw [ih.1]; rfl, by simp [ih.2]⟩
theorem N_seti {l : Addr} {xs xs' : List AV} {k : Int} {a : AV} {own' : Own} {K : Own → Prop} (hm : (l, AObj.list xs) ∈ own) (h0 : 0 ≤ k) (h1 : k < 1000000000) (w : SetAt a k.toNat xs xs') (u : Upd l (.list xs) (.list xs') own own') (q : K own') :
    WOU x A setI [.val (.ref l), .int k, a] own K := by
  obtain ⟨e, hl⟩ := w.eq
  subst e
  exact SI_list h0 (by omega) (by omega) u q
theorem G_lit {l : Addr} {xs : List AV} {k : Int} {a : AV} (kn : Kn x own (l, .list xs)) (h0 : 0 ≤ k) (h1 : k < 1000000000) (e : xs[k.toNat]? = some a) (q : Q a own) : WO x A getI [.val (.ref l), .int k] own Q := G_list kn h0 (by omega) e q
theorem G_ints {l : Addr} {xs : List Int} {k : Int} (kn : Kn x own (l, .list (xs.map .int))) (h0 : 0 ≤ k) (h2 : k < xs.length) (h1 : k < 1000000000) (q : Q (.int (xs.getD k.toNat 0)) own) : WO x A getI [.val (.ref l), .int k] own Q :=
  G_list kn h0 (by omega) (by
    have : k.toNat < xs.length := by omega
    rw [List.getElem?_map, List.getElem?_eq_getElem this, List.getD_eq_getElem?_getD, List.getElem?_eq_getElem this]; rfl) q
theorem O_iadd {a b : Int} (q : Q (.int (a + b)) own) : WO x A (iop .Add) [.int a, .int b] own Q := fun vs s R r => by
  obtain ⟨u, v, rfl, r1, r2⟩ := reps2 r; obtain ⟨t, rfl⟩ := rep_int r1; obtain ⟨t', rfl⟩ := rep_int r2
  exact wpAny_iadd_int ⟨own, Step.toks R, _, rep_mk_int, q⟩
theorem C_len_list {l : Addr} {xs : List AV} (k : Kn x own (l, .list xs)) (hz : (xs.length : Int) < 1000000000) (q : Q (.int xs.length) own) : WO x A (callv (.builtin "len")) [.val (.ref l)] own Q := fun vs s R r => by
  obtain ⟨u, rfl, r1⟩ := reps1 r
  rw [rep_val r1]
  obtain ⟨ws, pl, rs⟩ := R.kn k
  have hl : ws.size = xs.length := by have := rs.length; simp at this; omega
  exact len_list pl.isList (by omega) ⟨own, Step.toks R, _, rep_mk_int, by rw [hl]; exact q⟩
theorem C_len_ints {l : Addr} {xs : List Int} (k : Kn x own (l, .list (xs.map .int))) (hz : (xs.length : Int) < 1000000000) (q : Q (.int xs.length) own) : WO x A (callv (.builtin "len")) [.val (.ref l)] own Q := C_len_list k (by simpa using hz) (by simpa using q)
end
end
section
/-- a turn of a comprehension, its inner part left open -/
def IsTurn (e : Expr) (d : Nat) (it acc : Value) (env : Env) (tgt : Expr) (inner : Sem Unit) : Prop := ∃ p : Pos,
  compTurn e d it acc env = (standAt p >>= fun _ => pyNext it >>= fun r => match r with
    | none => pure (.done .next)
    | some v => letOwnedTupleGo tgt it v >>= fun _ => assign tgt env v >>= fun _ => inner >>= fun _ => again (.compLoop e d it acc env))

theorem comp_src {x : Cx} {A : Around} {env : Env} {target : Expr} {e : Expr} {d : Nat} {it acc : Value} {inner : Sem Unit} {xs : List AV} {FP WR : List Addr} {St : Nat → Heap → Prop} {own₀ own : Own} {s₀ s₂ : Shared}
    (ht : IsTurn e d it acc env target inner) (hfr : (Code.compLoop e d it acc env).isFrame = false) (hq : (Code.compLoop e d it acc env).quiet = true)
    (S : Step x own₀ s₀ own s₂) (src : Src x A target it xs FP WR St) (st : St 0 s₂.heap) (hFP : ∀ b ∈ FP, b ∉ addrs own)
    (hWR : ∀ b ∈ WR, s₀.heap.get? b = none ∧ x.h₀.get? b = none ∧ (∀ p ∈ x.ro, p.1 ≠ b))
    (J : Nat → Own → Prop) (j0 : J 0 own)
    (turn : ∀ i a own1, xs[i]? = some a → J i own1 → WA x A env target a own1 fun own2 => WU x A inner own2 fun own3 => J (i + 1) own3) :
    codeAny (model x.prog x.w) A (.compLoop e d it acc env) (fun r s' => match r with | .ok f => f = .next ∧ ∃ own', Step x own₀ s₀ own' s' ∧ J xs.length own' | .error _ => False) s₂ := by
  refine codeAny_loop hq (fun k s => ∃ i own1, k = xs.length - i ∧ i ≤ xs.length ∧ Step x own₀ s₀ own1 s ∧ St i s.heap ∧ (∀ b ∈ FP, b ∉ addrs own1) ∧ J i own1) ?_ xs.length ⟨0, own, rfl, Nat.zero_le _, S, st, hFP, j0⟩
  rintro k s ⟨i, own1, rfl, hi, S1, st1, hF1, j1⟩
  have hw : (Code.compLoop e d it acc env).frames = 0 := by
    show (if (Code.compLoop e d it acc env).isFrame = true then 1 else 0) = 0
    rw [hfr]; rfl
  have hu : A.under (.compLoop e d it acc env) = A := Around.under_of_weight (by
    show (Code.compLoop e d it acc env).frames + 0 + 0 + 0 = 0
    rw [hw]) (by show 3 * (Code.compLoop e d it acc env).frames = 0; rw [hw])
  rw [hu]
  show wpAny _ A (if (Code.compLoop e d it acc env).isFrame then _ else (compTurn e d it acc env).onRaise (fun x => do noteFrame x env; theTreesLotGoes x)) _ _ s
  rw [hfr]
  simp only [Bool.false_eq_true, if_false]
  refine wpAny_noted ?_
  obtain ⟨p, hp⟩ := ht
  rw [hp]
  refine wpAny_bind (wpAny_standAt (wpAny_bind ?_))
  have off : ∀ (h : Heap) i, St i h → ∀ b ∈ WR, b ∉ addrs own1 ∧ s₀.heap.get? b = none ∧ (b ∉ x.bad → ∀ vs n, h.get? b ≠ some { cls := .type "tuple", data := .seq vs n }) ∧ x.h₀.get? b = none ∧ (∀ p ∈ x.ro, p.1 ≠ b) :=
    fun h i hst b hb => ⟨hF1 b (src.sub b hb), (hWR b hb).1, src.nt i h hst b hb, (hWR b hb).2⟩
  by_cases hlt : i < xs.length
  · refine wpAny_mono (src.step i s own1 S1.rel st1 hlt) (fun r s1 => ?_) fun _ _ f => f.elim
    rintro ⟨v, h1, t1, rfl, rfl, k1, hgo⟩
    refine wpAny_bind (wpAny_mono hgo (fun _ s2 => ?_) fun _ _ f => f.elim)
    rintro ⟨h2, t2, rfl, k2, st2, a, ha, ra⟩
    have S2 : Step x own₀ s₀ own1 { s with heap := h2, toks := t2 } := S1.side (fun b o hb e => k2 b o hb (k1 b o hb e)) (off s.heap i st1) fun a ha => by
      by_cases hw : a ∈ WR
      · obtain ⟨o, e, _⟩ := src.live _ _ st2 a (src.sub a hw); exact ⟨o, e⟩
      · obtain ⟨o, e⟩ := S1.rel.bd a ha
        exact ⟨o, k2 _ _ hw (k1 _ _ hw e)⟩
    refine wpAny_bind (wpAny_mono (turn i a own1 ha j1 v _ S2.rel ra) (fun _ s3 => ?_) fun _ _ f => f.elim)
    rintro ⟨own3, S3, h3⟩
    refine wpAny_bind (wpAny_mono (h3 s3 S3.rel) (fun f s4 => ?_) fun _ _ f => f.elim)
    rintro ⟨own4, S4, q⟩
    have S34 := S3.trans S4
    have keep : ∀ b ∈ FP, ∀ o, h2.get? b = some o → s4.heap.get? b = some o := fun b hb o e => by
      obtain ⟨o', e', c⟩ := src.live _ _ st2 b hb
      have : o' = o := Option.some.inj (e'.symm.trans e)
      exact S34.ext b o e (this ▸ c) (hF1 b hb)
    have hF4 : ∀ b ∈ FP, b ∉ addrs own4 := fun b hb hm => by
      rcases S34.sub b hm with h | h
      · exact hF1 b hb h
      · obtain ⟨o', e', c⟩ := src.live _ _ st2 b hb
        have h' : h2.get? b = none := h
        rw [h'] at e'; cases e'
    exact wpAny_pure ⟨rfl, xs.length - (i + 1), by omega, i + 1, own4, rfl, hlt, S2.trans S34, src.frame _ _ _ st2 keep, hF4, q⟩
  · have e : i = xs.length := by omega
    subst e
    refine wpAny_mono (src.stop s own1 S1.rel st1) (fun r s1 => ?_) fun _ _ f => f.elim
    rintro ⟨rfl, h1, t1, rfl, k1, kb⟩
    refine wpAny_pure ⟨rfl, own1, S1.side k1 (off s.heap _ st1) (fun a ha => ?_), j1⟩
    by_cases hw : a ∈ WR
    · exact kb a hw ha
    · obtain ⟨o, e⟩ := S1.rel.bd a ha
      exact ⟨o, k1 _ _ hw e⟩
end
section
theorem Step.lose {x : Cx} {own₀ own own' : Own} {s₀ s : Shared} {C : Addr} {o : AObj} {h' : Heap} {tk : Nat} (S : Step x own₀ s₀ own s) (sel : Sel (C, o) own own') (h0 : s₀.heap.get? C = none) (hb : C ∉ x.bad)
    (hk : ∀ b o, b ≠ C → s.heap.get? b = some o → h'.get? b = some o) : Step x own₀ s₀ own' { s with heap := h', toks := tk } := by
  have R := S.rel.perm sel.perm
  have hC := (List.nodup_cons.mp R.nodup).1
  have hnew := R.new _ (.head _)
  have tup : TupKeep x.bad s.heap h' := fun d vs n _ e => hk d _ (fun q => by subst q; exact (R.has _ (.head _)).notTup e) e
  have off : ∀ b o, x.h₀.get? b = some o → b ≠ C := fun b o e q => by subst q; rw [hnew] at e; cases e
  refine ⟨⟨oldK_step R.old fun b o o' e e' => hk b o' (off b o e) e', ?_, R.os, R.gens, (List.nodup_cons.mp R.nodup).2, fun p hp => ?_, fun p hp => R.new p (.tail _ hp), R.cs, fun p hp => ?_, fun a ha => ?_, R.kh, fun b o e => hk b o (off b o (R.kh b o e)) (R.kin b o e), fun p hp => let ⟨⟨o1, e1⟩, ⟨o2, e2⟩, T⟩ := R.tb p hp; ⟨⟨o1, e1⟩, ⟨o2, e2⟩, T.keep fun b o hb e => hk b o (by rcases hb with rfl | rfl; exact off _ _ e1; exact off _ _ e2) e⟩⟩, fun a o e c n => ?_, fun a ha => ?_, fun a o e => ?_⟩
  · obtain ⟨mc, ⟨o, es, ep, ho, r⟩, q⟩ := R.lim
    obtain ⟨oc, hoc⟩ := R.cs
    exact ⟨mc, ⟨o, es, ep, hk _ _ (off _ _ hoc) ho, r⟩, q⟩
  · have hne : p.1 ≠ C := fun q => by have h1 := mem_addrs hp; rw [q] at h1; exact hC h1
    obtain ⟨ob, e⟩ := (R.has p (.tail _ hp)).there
    exact (R.has p (.tail _ hp)).keep tup ((hk _ _ hne e).trans e.symm)
  · obtain ⟨h1, h2, o, e, c⟩ := R.ro p hp
    have hne : p.1 ≠ C := fun q => h2 (by rw [q]; exact .head _)
    have e' := hk _ _ hne e
    exact ⟨h1.keep tup (e'.trans e.symm), fun hm => h2 (.tail _ hm), o, e', c⟩
  · obtain ⟨o, e⟩ := S.rel.bd a ha
    exact ⟨o, hk _ _ (fun q => hb (q ▸ ha)) e⟩
  · exact hk _ _ (fun q => by subst q; rw [h0] at e; cases e) (S.ext a o e c n)
  · have : a ∈ addrs own := (sel.perm.map (·.1)).mem_iff.mpr (.tail _ ha)
    exact S.sub a this
  · obtain ⟨o', e'⟩ := S.there a o e
    exact ⟨o', hk _ _ (fun q => by subst q; rw [h0] at e; cases e) e'⟩

theorem Step.perm' {x : Cx} {own₀ own own' : Own} {s₀ s : Shared} (S : Step x own₀ s₀ own s) (p : own.Perm own') : Step x own₀ s₀ own' s :=
  ⟨S.rel.perm p, S.ext, fun a ha => S.sub a ((p.map (·.1)).mem_iff.mpr ha), S.there⟩
theorem WP.frame {x : Cx} {A : Around} {α : Type} {t : Sem α} {own : Own} {p : Addr × AObj} {P : α → Shared → Own → Prop} (f : p.2.fz) (h : WP x A t own P) : WP x A t (p :: own) (fun a s own' => ∃ o, own' = p :: o ∧ P a s o) := by
  refine WP.freeze f fun s R => ?_
  have R' : Rel x own s := ⟨R.old, R.lim, R.os, R.gens, R.nodup, R.has, R.new, R.cs, fun q hq => R.ro q (.tail _ hq), R.bd, R.kh, R.kin, R.tb⟩
  refine wpAny_mono (h s R') (fun a s' => ?_) fun _ _ f => f
  rintro ⟨o, S, q⟩
  obtain ⟨h1, h2, ob, e, c⟩ := R.ro p (.head _)
  have e' := S.ext _ _ e c h2
  have tk : TupKeep x.bad s.heap s'.heap := S.tup R'
  refine ⟨o, ⟨⟨S.rel.old, S.rel.lim, S.rel.os, S.rel.gens, S.rel.nodup, S.rel.has, S.rel.new, S.rel.cs, fun q hq => ?_, S.rel.bd, S.rel.kh, S.rel.kin, S.rel.tb⟩, S.ext, S.sub, S.there⟩, o, rfl, q⟩
  rcases List.mem_cons.mp hq with rfl | hq
  · refine ⟨h1.keep tk (e'.trans e.symm), fun hm => ?_, ob, e', c⟩
    rcases S.sub _ hm with h | h
    · exact h2 h
    · rw [e] at h; cases h
  · exact S.rel.ro q hq

theorem turn_list (elt target iter : Expr) (scope : Scope) (pos : Pos) (it acc : Value) (env : Env) :
    IsTurn (.ListComp elt [⟨target, iter, [], 0⟩] scope pos) 0 it acc env target (eval elt env >>= fun x => call (.builtin "list.append") [acc, x] >>= fun _ => pure ()) := ⟨iter.pos, compTurn_list1 ..⟩

/-- what is known of a comprehension's frame -/
structure Ce (env : Env) (scope : Scope) (cl : List (Str × Addr)) (cenv : Env) : Prop where
  sc : cenv.scope = relabel scope env
  cells : cenv.cells = cl
  code : cenv.code = env.code
  gl : cenv.globals = env.globals
  bi : cenv.builtins = env.builtins

section
variable {x : Cx} {A : Around} {own : Own} {env : Env} {n : Nat} {nm gn : List Str}

def mapQ (C : Addr) (t : List Str) (own : Own) (b : AV) (v : AV) (own' : Own) : Prop := v = b ∧ ∃ m', List.Sublist ((C, AObj.ns t [m']) :: own) own'

/-- the block of a list comprehension, from its iterator on -/
theorem lcomp_block (H : Fm n A env nm gn) {elt iter : Expr} {t : Str} {px : Pos} {scope : Scope} {pos : Pos} {cl : List (Str × Addr)} {cgn : List Str} {xs : List AV} {f : AV → AV} {own2 : Own} {s1 s2 : Shared} {it : Value} {FP WR : List Addr} {St : Nat → Heap → Prop}
    (hkind : scope.kind = .function) (hcell : ∀ y ∈ scope.names, y.2 ≠ .cell) (ht : scope.names.lookup t = some .local) (htd : (t == ("__debug__" : Str)) = false) (hgl : env.globals = mainGlobals) (hbi : env.builtins = builtinsNs)
    (hcg : ∀ y ∈ cgn, (relabel scope env).names.lookup y = some .globalImplicit ∧ (y == ("__debug__" : Str)) = false)
    (src : Src x A (.Name t px) it xs FP WR St) (st : St 0 s2.heap) (S2 : Step x own2 s1 own2 s2) (hF : ∀ b ∈ FP, b ∉ addrs own2) (hW : ∀ b ∈ WR, s1.heap.get? b = none ∧ x.h₀.get? b = none ∧ ∀ p ∈ x.ro, p.1 ≠ b) (hb : ∀ a ∈ x.bad, a ∉ WR)
    (hz : xs.length ≤ 1000000)
    (turn : ∀ b, b ∈ xs → b.known ∧ ∀ cenv, Ce env scope cl cenv → Fm n A cenv [t] cgn → WV x A (eval elt cenv) ((cenv.locals, .ns [t] [b]) :: own2) (mapQ cenv.locals [t] own2 (f b)))
    {E : Value → Shared → Prop} {R : Value → Env → Result → Shared → Prop}
    (k : ∀ D C s' m, Step x own2 s1 ((C, .ns [t] m) :: (D, .list (xs.map f)) :: own2) s' → s1.heap.get? C = none → C ∉ x.bad → R (.ref D) (compEnvC scope cl C env) (.ok .next) s') :
    wpAny (model x.prog x.w) A (newList []) (fun acc s₃ => wpAny (model x.prog x.w) A (newFunctionEnv scope env.globals cl [] env.qual none .none (some env)) (fun cenv s₄ =>
      codeAny (model x.prog x.w) A (.compStart (.ListComp elt [⟨.Name t px, iter, [], 0⟩] scope pos) 0 it acc { cenv with scope := relabel scope env }) (R acc { cenv with scope := relabel scope env }) s₄) E s₃) E s2 := by
  refine wpAny_newList ?_ (by show 0 ≤ sizeLine; exact Nat.zero_le _)
  refine wpAny_newFunctionEnv hcell (by intro y hy; simp at hy) (fun h1 hns hsb => ?_) hkind
  dsimp only at hns hsb ⊢
  generalize hH2 : s2.heap.push { cls := .type "list", dict := none, data := .seq ([] : List Value).toArray } = H2 at hns hsb ⊢
  have hC : H2.objs.size = s2.heap.objs.size + 1 := by rw [← hH2, Heap.size_push]
  have R2 := S2.rel
  have g1 : ∀ b o, s2.heap.get? b = some o → H2.get? b = some o := fun b o e => hH2 ▸ Heap.get?_push_of_some _ e
  have S3 : Step x own2 s2 ((s2.heap.objs.size, .list []) :: own2) { s2 with heap := H2, toks := s2.toks } :=
    Step.new R2 g1 (fresh_none _) ⟨#[], ⟨0, by rw [← hH2]; exact Heap.get?_push_size _ rfl⟩, by simp [Reps]⟩
  have g2 : ∀ b o, H2.get? b = some o → h1.get? b = some o := fun b o e => hsb.extBut b o (fun q => by rw [q, fresh_none] at e; cases e) (Heap.get?_push_of_some _ e)
  have S4 : Step x ((s2.heap.objs.size, .list []) :: own2) { s2 with heap := H2, toks := s2.toks } ((H2.objs.size, .ns [t] [.any]) :: (s2.heap.objs.size, .list []) :: own2) { s2 with heap := h1, toks := s2.toks + ([] : List (Str × Value)).length } :=
    Step.new (s := { s2 with heap := H2, toks := s2.toks }) S3.rel g2 (fresh_none _) ⟨_, hns, .any .nil, by simp⟩
  have S24 := (S2.trans S3).trans S4
  have st4 : St 0 h1 := src.frame _ _ _ st fun b _ o e => g2 _ _ (g1 _ _ e)
  have n1 : s1.heap.get? H2.objs.size = none := by
    cases e : s1.heap.get? H2.objs.size with
    | none => rfl
    | some o =>
      obtain ⟨o', e'⟩ := S2.there _ _ e
      have h1 : (H2.objs.size : Nat) < s2.heap.objs.size := Heap.lt_size e'
      omega
  have nb : H2.objs.size ∉ x.bad := fun hm => by
    obtain ⟨o, e⟩ := R2.bd _ hm
    have h1 : (H2.objs.size : Nat) < s2.heap.objs.size := Heap.lt_size e
    omega
  have hce : Ce env scope cl (compEnvC scope cl H2.objs.size env) := ⟨rfl, rfl, rfl, rfl, rfl⟩
  have hfm : Fm n A (compEnvC scope cl H2.objs.size env) [t] cgn := ⟨H.hnd, H.dep, H.uni, hkind, fun y hy => by
    rw [List.mem_singleton.mp hy]; exact ⟨lookup_relabel_local ht, htd⟩, hcg, hgl, hbi⟩
  have loop : ∀ s₃ : Shared, s₃ = { s2 with heap := h1, toks := s2.toks + ([] : List (Str × Value)).length } →
      codeAny (model x.prog x.w) A (.compLoop (.ListComp elt [⟨.Name t px, iter, [], 0⟩] scope pos) 0 it (.ref s2.heap.objs.size) (compEnvC scope cl H2.objs.size env)) (R (.ref s2.heap.objs.size) (compEnvC scope cl H2.objs.size env)) s₃ := by
    rintro s₃ rfl
    refine codeAny_mono (comp_src (turn_list elt (.Name t px) iter scope pos it _ _) rfl rfl S24 src st4 ?_ hW
      (fun i own => ∃ m, own = (H2.objs.size, AObj.ns [t] [m]) :: (s2.heap.objs.size, .list ((xs.take i).map f)) :: own2) ⟨.any, by simp⟩ ?_) fun r s' hr => ?_
    · intro b hb hm
      obtain ⟨o, e, _⟩ := src.live _ _ st b hb
      have hl : @LT.lt Nat _ b s2.heap.objs.size := Heap.lt_size e
      rcases List.mem_cons.mp hm with h | hm
      · have h' : @Eq Nat b H2.objs.size := h
        omega
      · rcases List.mem_cons.mp hm with h | hm
        · have h' : @Eq Nat b s2.heap.objs.size := h
          omega
        · exact hF b hb hm
    · rintro i a own1 hia ⟨m, rfl⟩
      obtain ⟨kn, hel⟩ := turn a (List.mem_of_getElem? hia)
      refine A_loc hfm 0 rfl .z .z kn ?_
      intro s R
      have W := (WP.frame (p := (s2.heap.objs.size, .list ((xs.take i).map f))) trivial (hel _ hce hfm)).perm (List.Perm.swap ..)
      refine wpAny_bind (WP.run W (Step.refl R) fun v s3 own3 S3' k3 ⟨o, eo, b, rb, eb, m', sub⟩ => ?_)
      subst eo eb
      obtain ⟨vs, pl, rs⟩ := S3'.rel.has _ (.head _)
      have pl : s3.heap.PlainList s2.heap.objs.size vs := pl
      have hsz : vs.size ≤ sizeLine := by
        have := rs.length
        simp at this
        rw [← this, sizeLine_eq]; omega
      refine wpAny_bind (wpAny_list_append_plain (hsz := hsz) pl fun h' pl' hs' => wpAny_pure ?_)
      have tk : TupKeep x.bad s3.heap h' := fun d us k _ e => hs'.extBut d _ (fun q => by subst q; exact (S3'.rel.has _ (.head _)).notTup e) e
      have S4' := Step.upd (tk := s3.toks) (o' := .list ((xs.take (i + 1)).map f)) S3'.rel (.z (a := s2.heap.objs.size) (o := .list ((xs.take i).map f))) (fun b o hb e => hs'.extBut b o hb e) ⟨_, pl', by
        rw [List.take_add_one, hia, List.map_append, Array.toList_push]
        exact Reps.append (Reps.mono tk _ _ rs) (Reps.cons (Rep.mono tk _ _ rb) .nil)⟩
      have S5 := (S3'.trans S4').forget (List.Sublist.cons_cons _ sub)
      exact ⟨_, S5.perm' (List.Perm.swap ..), m', rfl⟩
    · cases r with
      | error e => exact hr.elim
      | ok fl =>
        obtain ⟨rfl, own', S', m, rfl⟩ := hr
        rw [List.take_length] at S'
        exact k _ _ _ _ S' n1 nb
  exact codeAny_compStart_list (loop _ rfl) (src.self 0 _ _ _ st4 (loop _ rfl))
end
end
section
theorem closure_go {env : Env} {g : Str → Addr} : ∀ (names : List (Str × NameKind)) (cs : List (Str × Addr)), (∀ p ∈ names, p.2 = .free → env.cells.lookup p.1 = some (g p.1)) →
    (forIn names cs (fun (x : Str × NameKind) cs => match x with | (name, kind) => if (kind == NameKind.free) = true then (cellOf env name >>= fun a => pure (ForInStep.yield ((name, a) :: cs))) else pure (ForInStep.yield cs)) : Sem (List (Str × Addr))) =
      pure ((((names.filter fun p => p.2 == .free).map fun p => (p.1, g p.1)).reverse) ++ cs)
  | [], cs, _ => by simp
  | (nme, kd) :: r, cs, h => by
    have ih := closure_go (env := env) (g := g) r
    rw [List.forIn_cons]
    cases kd with
    | free =>
      have e := h _ (.head _) rfl
      simp only at e
      have e2 : cellOf env nme = pure (g nme) := by unfold cellOf; rw [e]
      simp only [beq_self_eq_true, if_true, e2, pure_bind, List.filter_cons, List.map_cons, List.reverse_cons]
      rw [ih _ fun p hp => h p (.tail _ hp)]
      simp
    | _ =>
      simp only [List.filter_cons]
      rw [if_neg (by decide)]
      simp only [pure_bind]
      rw [ih _ fun p hp => h p (.tail _ hp)]
      simp
theorem closure_of {env : Env} {scope : Scope} (g : Str → Addr) (h : ∀ p ∈ scope.names, p.2 = .free → env.cells.lookup p.1 = some (g p.1)) :
    closureFor scope env = pure ((((scope.names.filter fun p => p.2 == .free).map fun p => (p.1, g p.1)).reverse)) := by
  have := closure_go (env := env) (g := g) scope.names [] h
  simp only [List.append_nil] at this
  rw [← this]
  unfold closureFor
  exact bind_pure _

section
variable {x : Cx} {A : Around} {own : Own} {env : Env} {n : Nat} {nm gn : List Str}

/-- the source of a list comprehension and what is done to each -/
def LcSrc (x : Cx) (A : Around) (env : Env) (n : Nat) (elt : Expr) (t : Str) (px : Pos) (scope : Scope) (cl : List (Str × Addr)) (cgn : List Str) (fin : Addr → List AV → Own → (Own → Own) → Prop) (a : AV) (own1 : Own) : Prop :=
  ∃ xs r own2 bk, ∃ f : AV → AV, Itb x A own1 a (.Name t px) xs r own2 bk ∧ xs.length ≤ 1000000 ∧
    (∀ b, b ∈ xs → b.known ∧ ∀ cenv, Ce env scope cl cenv → Fm n A cenv [t] cgn → WV (wr x r) A (eval elt cenv) ((cenv.locals, .ns [t] [b]) :: own2) (mapQ cenv.locals [t] own2 (f b))) ∧
    ∀ D, fin D (xs.map f) own2 bk

theorem E_lmap (H : Fm n A env nm gn) {elt iter : Expr} {t : Str} {px : Pos} {scope : Scope} {pos : Pos} {Q : AV → Own → Prop} (cl : List (Str × Addr)) (cgn : List Str)
    (hclos : closureFor scope env = pure cl) (hkind : scope.kind = .function) (hcell : ∀ y ∈ scope.names, y.2 ≠ .cell) (hnames : ∀ x ∈ scope.names, x.2 = .local → scope.names.lookup x.1 = some .local)
    (ht : scope.names.lookup t = some .local) (htd : (t == ("__debug__" : Str)) = false)
    (hcg : ∀ y ∈ cgn, (relabel scope env).names.lookup y = some .globalImplicit ∧ (y == ("__debug__" : Str)) = false)
    (h : WV x A (eval iter env) own (LcSrc x A env n elt t px scope cl cgn fun D ys own2 bk => Q (.val (.ref D)) (bk ((D, .list ys) :: own2))))
    (hs : ∀ v, foldedSetIterable iter env v = pure v := by intro _; with_unfolding_all rfl) :
    WV x A (eval (.ListComp elt [⟨.Name t px, iter, [], 0⟩] scope pos) env) own Q := fun s R => by
  rw [eval_ListComp]
  refine wpAny_comprehension_free (use := none) rfl hs hclos hkind hnames (h.run (Step.refl R) fun v s1 own1 S1 k1 ⟨a, r1, xs, r, own2, bk, f, I, hz, turn, fin⟩ => ?_)
  refine wpAny_mono (I.go v s1 S1.rel r1) (fun it s2 => ?_) fun _ _ f => f.elim
  rintro ⟨FP, WR, St, src, st, S2, hF, hW, hb⟩
  refine lcomp_block (x := wr x r) H (f := f) (R := fun v cenv r s' => compPost _ _ _ _ _ v cenv.locals r s') hkind hcell ht htd H.gl H.bi hcg src st S2 hF hW hb hz turn ?_
  intro D C s' m S' hC hbC
  obtain ⟨mm, hns, _⟩ := S'.rel.has _ (.head _)
  exact ⟨mm, hns, fun h' hs' => ⟨_, S1.trans (I.back _ _ _ S1.rel (S'.lose .z hC hbC fun b o hne e => hs'.extBut b o hne e)), _, rep_mk_val, fin D⟩⟩

theorem S_lmap (H : Fm n A env nm gn) {elt iter : Expr} {t y : Str} {px py : Pos} {scope : Scope} {pos spos : Pos} {Q : AFlow → Own → Prop} (cl : List (Str × Addr)) (cgn : List Str)
    (hclos : closureFor scope env = pure cl) (hkind : scope.kind = .function) (hcell : ∀ y ∈ scope.names, y.2 ≠ .cell) (hnames : ∀ x ∈ scope.names, x.2 = .local → scope.names.lookup x.1 = some .local)
    (ht : scope.names.lookup t = some .local) (htd : (t == ("__debug__" : Str)) = false)
    (hcg : ∀ y ∈ cgn, (relabel scope env).names.lookup y = some .globalImplicit ∧ (y == ("__debug__" : Str)) = false)
    (hsw : swapsWith (.ListComp elt [⟨.Name t px, iter, [], 0⟩] scope pos) (some (.Name y py)) spos.line env = pure true)
    (h : WV x A (eval iter env) own (LcSrc x A env n elt t px scope cl cgn fun D ys own2 bk => WSt env nm y (.val (.ref D)) own2 fun own3 => Q .next (bk ((D, .list ys) :: own3))))
    (hs : ∀ v, foldedSetIterable iter env v = pure v := by intro _; with_unfolding_all rfl) :
    WS x A (exec (.Assign [.Name y py] (.ListComp elt [⟨.Name t px, iter, [], 0⟩] scope pos) spos) env) own Q := fun s R => by
  rw [exec_Assign_Name_used _ _ _ _ hsw]
  refine wpAny_bind (wpAny_standAt (wpAny_bind ?_))
  show wpAny _ A (do let _ ← comprehension (.ListComp elt [⟨.Name t px, iter, [], 0⟩] scope pos) scope env _ (newList []) false (eval iter env) (some (assign (.Name y py) env))) _ _ s
  refine wpAny_bind (wpAny_mono (wpAny_comprehension_free (use := some (assign (.Name y py) env)) (Q := fun _ s' => ∃ own', Step x own s own' s' ∧ Q .next own') rfl hs hclos hkind hnames
    (h.run (Step.refl R) fun v s1 own1 S1 k1 ⟨a, r1, xs, r, own2, bk, f, I, hz, turn, fin⟩ => ?_)) (fun _ s' ⟨own', S', q⟩ => wpAny_pure (wpAny_pure ⟨own', S', .next, rfl, q⟩)) fun _ _ e => e)
  refine wpAny_mono (I.go v s1 S1.rel r1) (fun it s2 => ?_) fun _ _ f => f.elim
  rintro ⟨FP, WR, St, src, st, S2, hF, hW, hb⟩
  refine lcomp_block (x := wr x r) H (f := f) (R := fun v cenv r s' => compPost _ _ _ _ _ v cenv.locals r s') hkind hcell ht htd H.gl H.bi hcg src st S2 hF hW hb hz turn ?_
  intro D C s' m S' hC hbC
  obtain ⟨m1, m2, own3, u, w, kn, q⟩ := fin D
  show wpAny _ A (assign (.Name y py) env (.ref D)) _ _ _
  refine wpAny_mono (N_set (x := wr x r) H (p := py) (K := fun o => o = _) (Upd.s (Upd.s u)) w kn rfl _ s' S'.rel rep_mk_val) (fun _ s3 => ?_) fun _ _ f => f.elim
  rintro ⟨_, S3, rfl⟩
  obtain ⟨mm, hns, _⟩ := S3.rel.has _ (.head _)
  exact ⟨mm, hns, fun h' hs' => ⟨_, S1.trans (I.back _ _ _ S1.rel ((S'.trans S3).lose .z hC hbC fun b o hne e => hs'.extBut b o hne e)), q⟩⟩
end
end
section
section
variable {x : Cx} {A : Around} {own : Own} {env : Env} {n : Nat} {nm gn : List Str} {Q : AV → Own → Prop}

/-- ranges -/
theorem C_range1 {a : Int} (q : ∀ r, Q (.val (.ref r)) ((r, .rng 0 a 1) :: own)) : WO x A (callv (.type "range")) [.int a] own Q := fun vs s R r => by
  obtain ⟨u, rfl, r1⟩ := reps1 r; obtain ⟨t, rfl⟩ := rep_int r1
  exact call_range_1 ⟨_, Step.new (o := .rng 0 a 1) R (fun b o e => Heap.get?_push_of_some _ e) (fresh_none _) ⟨_, _, _, IsRange.new ..⟩, _, rep_mk_val, q _⟩
theorem C_range2 {a b : Int} (q : ∀ r, Q (.val (.ref r)) ((r, .rng a b 1) :: own)) : WO x A (callv (.type "range")) [.int a, .int b] own Q := fun vs s R r => by
  obtain ⟨u, v, rfl, r1, r2⟩ := reps2 r; obtain ⟨t, rfl⟩ := rep_int r1; obtain ⟨t', rfl⟩ := rep_int r2
  exact call_range_2 ⟨_, Step.new (o := .rng a b 1) R (fun b o e => Heap.get?_push_of_some _ e) (fresh_none _) ⟨_, _, _, IsRange.new ..⟩, _, rep_mk_val, q _⟩
theorem C_range3 {a b c : Int} (hc : 0 < c ∧ c ≤ 1000000000) (q : ∀ r, Q (.val (.ref r)) ((r, .rng a b c) :: own)) : WO x A (callv (.type "range")) [.int a, .int b, .int c] own Q := fun vs s R r => by
  obtain ⟨u, v, w, rfl, r1, r2, r3⟩ := reps3 r; obtain ⟨t, rfl⟩ := rep_int r1; obtain ⟨t', rfl⟩ := rep_int r2; obtain ⟨t'', rfl⟩ := rep_int r3
  exact call_range_3 (by omega) ⟨_, Step.new (o := .rng a b c) R (fun b o e => Heap.get?_push_of_some _ e) (fresh_none _) ⟨_, _, _, IsRange.new ..⟩, _, rep_mk_val, q _⟩
    (.inl (PyProof.noPylong_of_log2 (by
      have : c.natAbs.log2 < 64 := by rw [Nat.log2_lt (by omega)]; omega
      omega)))

/-- slices -/
def WPart (x : Cx) (A : Around) (env : Env) (e : Option Expr) (own : Own) (Q : Option Int → Own → Prop) : Prop := match e with
  | none => Q none own
  | some e => WV x A (eval e env) own fun a own1 => ∃ i, a = .int i ∧ Q (some i) own1
theorem P_none {Q : Option Int → Own → Prop} (q : Q none own) : WPart x A env none own Q := q
theorem P_some {e : Expr} {Q : Option Int → Own → Prop} (h : WV x A (eval e env) own fun a own1 => ∃ i, a = .int i ∧ Q (some i) own1) : WPart x A env (some e) own Q := h
theorem P_int {i : Int} {Q : Option Int → Own → Prop} (q : Q (some i) own) : ∃ j, AV.int i = .int j ∧ Q (some j) own := ⟨i, rfl, q⟩
theorem WPart.run {e : Option Expr} {Q : Option Int → Own → Prop} {own₀ : Own} {s₀ s : Shared} {K : Value → Shared → Prop} {E : Value → Shared → Prop} (h : WPart x A env e own Q) (S : Step x own₀ s₀ own s)
    (k : ∀ v s' own' o, Step x own₀ s₀ own' s' → TupKeep x.bad s.heap s'.heap → IsPart v o → Q o own' → K v s') : wpAny (model x.prog x.w) A (evalPart e env) K E s := by
  cases e with
  | none => exact wpAny_pure (k _ _ _ _ S (TupKeep.refl _) .none h)
  | some e =>
    refine WP.run h S fun v s' own' S' k' ⟨a, ra, i, e1, q⟩ => ?_
    subst e1
    obtain ⟨t, rfl⟩ := rep_int ra
    exact k _ _ _ _ S' k' (.int i t) q
def WSl (x : Cx) (A : Around) (a : AV) (lo hi : Option Int) (own : Own) (Q : AV → Own → Prop) : Prop :=
  ∀ v s sl vl vu, Rel x own s → Rep x.bad s.heap a v → s.heap.IsSliceOf sl vl vu .none → IsPart vl lo → IsPart vu hi →
    wpAny (model x.prog x.w) A (getItem v (.ref sl)) (fun v s' => ∃ own', Step x own s own' s' ∧ ∃ av, Rep x.bad s'.heap av v ∧ Q av own') (fun _ _ => False) s
theorem E_slice {v : Expr} {lo hi : Option Expr} {pp p : Pos} (h : WV x A (eval v env) own fun a own1 => WPart x A env lo own1 fun l own2 => WPart x A env hi own2 fun u own3 =>
      ∃ T id, AVTy x own3 a T ∧ typeLookup (.type T) "__getitem__" = pure (some (.builtin id)) ∧ WSl x A a l u own3 Q) :
    WV x A (eval (.Subscript v (.Slice lo hi none pp) p) env) own Q := fun s R =>
  Subscript_ (h.run (Step.refl R) fun v1 s1 own1 S1 k1 ⟨a, r1, h1⟩ => wpAny_Slice (WPart.run h1 S1 fun v2 s2 own2 l S2 k2 p2 h2 => WPart.run h2 S2 fun v3 s3 own3 u S3 k3 p3 ⟨T, id, ht, hl, h3⟩ => by
    have gr : ∀ b o, s3.heap.get? b = some o → (s3.heap.push { cls := .type "slice", data := .fields #[v2, v3, .none] }).get? b = some o := fun b o e => Heap.get?_push_of_some _ e
    refine wpAny_pure ?_
    have S4 : Step x own3 s3 own3 { s3 with heap := s3.heap.push { cls := .type "slice", data := .fields #[v2, v3, .none] }, toks := s3.toks } := Step.grow S3.rel gr
    have ra := Rep.mono (S4.tup S3.rel) _ _ (Rep.mono k3 _ _ (Rep.mono k2 _ _ r1))
    exact tail_any (ht _ v1 S4.rel ra).1 hl (wpAny_mono (h3 v1 _ _ _ _ S4.rel ra (Heap.IsSliceOf.new ..) p2 p3) (fun v s5 ⟨own5, S5, q⟩ => ⟨own5, (S3.trans S4).trans S5, q⟩) fun _ _ f => f) rfl))

theorem Reps.filterMap {B : List Addr} {h : Heap} {xs : List AV} {vs : List Value} (r : Reps B h xs vs) : ∀ (ks : List Nat), Reps B h (ks.filterMap (xs[·]?)) (ks.filterMap (vs[·]?))
  | [] => .nil
  | k :: ks => by
    have ih := Reps.filterMap r ks
    simp only [List.filterMap_cons]
    cases e : xs[k]? with
    | none =>
      have : vs[k]? = none := by rw [List.getElem?_eq_none_iff] at e ⊢; rw [← r.length]; exact e
      rw [this]; exact ih
    | some a =>
      obtain ⟨v, ev, ra⟩ := r.get e
      rw [ev]; exact .cons ra ih
theorem pickL_eq (vs : Array Value) (lo hi : Option Int) : (slicePick vs lo hi none).toList = (sliceRange (sliceBounds lo hi none vs.toList.length).1 (sliceBounds lo hi none vs.toList.length).2.1 (sliceBounds lo hi none vs.toList.length).2.2).filterMap (vs.toList[·]?) := by
  simp [slicePick]
def pickL {α : Type} (xs : List α) (lo hi : Option Int) : List α := (sliceRange (sliceBounds lo hi none xs.length).1 (sliceBounds lo hi none xs.length).2.1 (sliceBounds lo hi none xs.length).2.2).filterMap (xs[·]?)
theorem sliceRange_one (a b : Nat) : sliceRange a b 1 = (List.range (b - a)).map (a + ·) := by
  unfold sliceRange
  simp only [show (1 : Int) > 0 by decide, if_true, Int.one_mul, Int.ediv_one]
  by_cases h : (a : Int) < b
  · rw [if_pos h]
    have : ((b : Int) - a + 1 - 1).toNat = b - a := by omega
    rw [this]
    refine List.map_congr_left fun k _ => ?_
    omega
  · rw [if_neg h]
    have : b - a = 0 := by omega
    simp [this]
theorem range_pick {α : Type} (xs : List α) (a b : Nat) (h : b ≤ xs.length) : ((List.range (b - a)).map (a + ·)).filterMap (xs[·]?) = (xs.drop a).take (b - a) := by
  induction hk : b - a generalizing a with
  | zero => simp
  | succ k ih =>
    have ih' := ih (a + 1) (by omega)
    rw [List.range_succ_eq_map, List.map_cons, List.filterMap_cons]
    have : xs[a + 0]? = some xs[a] := List.getElem?_eq_getElem (by omega)
    rw [this, List.map_map]
    simp only
    rw [List.drop_eq_getElem_cons (by omega), List.take_succ_cons, ← ih']
    congr 2
    refine List.map_congr_left fun k _ => ?_
    show a + (k + 1) = a + 1 + k
    omega
theorem clip_lo (i n : Nat) : max (0 : Int) (min (if (i : Int) < 0 then (i : Int) + n else (i : Int)) n) = ((min i n : Nat) : Int) := by
  rw [if_neg (by omega)]; omega
theorem pickL_from {α : Type} (xs : List α) (i : Nat) : pickL xs (some (i : Int)) none = xs.drop i := by
  have e : sliceBounds (some (i : Int)) none none xs.length = (((min i xs.length : Nat) : Int), ((xs.length : Nat) : Int), 1) := by
    simp only [sliceBounds, Option.getD_none, show (1 : Int) > 0 by decide, if_true]
    rw [clip_lo]
  unfold pickL
  rw [e]
  simp only
  rw [sliceRange_one, range_pick _ _ _ (Nat.le_refl _)]
  by_cases h : i ≤ xs.length
  · rw [Nat.min_eq_left h, List.take_of_length_le (by simp)]
  · rw [Nat.min_eq_right (by omega), List.drop_eq_nil_of_le (Nat.le_refl _), List.drop_eq_nil_of_le (by omega)]; simp
theorem pickL_upto {α : Type} (xs : List α) (i : Nat) : pickL xs none (some (i : Int)) = xs.take i := by
  have e : sliceBounds none (some (i : Int)) none xs.length = (((0 : Nat) : Int), ((min i xs.length : Nat) : Int), 1) := by
    simp only [sliceBounds, Option.getD_none, show (1 : Int) > 0 by decide, if_true]
    rw [clip_lo]; rfl
  unfold pickL
  rw [e]
  simp only
  rw [sliceRange_one, range_pick _ _ _ (Nat.min_le_right _ _)]
  rw [List.drop_zero, Nat.sub_zero, List.take_eq_take_iff]; omega
theorem pickL_run {α : Type} (xs : List α) (i j : Nat) : pickL xs (some (i : Int)) (some (j : Int)) = (xs.drop i).take (j - i) := by
  have e : sliceBounds (some (i : Int)) (some (j : Int)) none xs.length = (((min i xs.length : Nat) : Int), ((min j xs.length : Nat) : Int), 1) := by
    simp only [sliceBounds, Option.getD_none, show (1 : Int) > 0 by decide, if_true]
    rw [clip_lo, clip_lo]
  unfold pickL
  rw [e]
  simp only
  rw [sliceRange_one, range_pick _ _ _ (Nat.min_le_right _ _)]
  by_cases h : i ≤ xs.length
  · rw [Nat.min_eq_left h, List.take_eq_take_iff, List.length_drop]; omega
  · have h' : xs.length ≤ i := by omega
    rw [show min i xs.length = xs.length from Nat.min_eq_right h', List.drop_eq_nil_of_le (Nat.le_refl _), List.drop_eq_nil_of_le h']; simp

theorem Sl_list {l : Addr} {xs : List AV} {lo hi : Option Int} (kn : Kn x own (l, .list xs)) (hz : (xs.length : Int) < 10000000) (q : ∀ D, Q (.val (.ref D)) ((D, .list (pickL xs lo hi)) :: own)) : WSl x A (.val (.ref l)) lo hi own Q := fun v s sl vl vu R r hs pl pu => by
  rw [rep_val r]
  obtain ⟨ws, pw, rs⟩ := R.kn kn
  have hl := rs.length
  have hl' : ws.size = xs.length := by simp at hl; omega
  refine wpAny_getItem_list_slice pw.isList hs pl pu .none (by simp) ?_ (by rw [sizeLine_eq]; omega)
  have gr : ∀ b o, s.heap.get? b = some o → (s.heap.push { cls := .type "list", data := .seq (slicePick ws lo hi none) }).get? b = some o := fun b o e => Heap.get?_push_of_some _ e
  refine ⟨_, Step.new (tk := s.toks) (a := s.heap.objs.size) (o := .list (pickL xs lo hi)) R gr (fresh_none _) ⟨slicePick ws lo hi none, ⟨_, Heap.get?_push_size _ rfl⟩, ?_⟩, _, rep_mk_val, q _⟩
  rw [pickL_eq, ← hl]
  exact (Reps.mono (fun b us m _ e => gr _ _ e) _ _ rs).filterMap _
end
end
section
section
variable {x : Cx} {A : Around} {own : Own} {env : Env} {n : Nat} {nm gn : List Str} {Q : AV → Own → Prop}

theorem look_bytes : typeLookup (.type "bytes") "__getitem__" = pure (some (.builtin "bytes.__getitem__")) := FB.slot_bytes_getitem.lookup
theorem look_str : typeLookup (.type "str") "__getitem__" = pure (some (.builtin "str.__getitem__")) := by rw [typeLookup_type, builtinLookup_eq_fast]; kernel_rfl
theorem AVTy.str {i : Str} : AVTy x own (.str i) "str" := fun s v R r => by
  obtain ⟨t, rfl⟩ := rep_str r
  exact ⟨rfl, fun b eb => by cases eb⟩
theorem G_byt {ks : List Int} {i : Int} (h0 : 0 ≤ i) (h1 : i < ks.length) (hz : (ks.length : Int) < 10000000) (q : 0 ≤ ks.getD i.toNat 0 ∧ ks.getD i.toNat 0 < 256 → Q (.int (ks.getD i.toNat 0)) own) : WO x A getI [.byt ks, .int i] own Q := fun vs s R r => by
  obtain ⟨u, v, rfl, r1, r2⟩ := reps2 r
  obtain ⟨b, t, rfl, hb⟩ := rep_byt r1; obtain ⟨t', rfl⟩ := rep_int r2
  have e : b.toList.toArray = b := Array.toArray_toList
  subst hb
  have hin := KBw.getD_in (ks := KBw.bInts b) (j := i.toNat) fun k hk => KBw.ints_in hk
  have hl : (KBw.bInts b).length = b.toList.length := by rw [KBw.ints_length]; simp
  rw [hl] at h1 hz
  have := getItem_bytes (prog := x.prog) (w := x.w) (A := A) (E := fun _ _ => False) (s := s) (t := t) (u := t') (l := b.toList) (i := i) (Q := fun v s' => ∃ own', Step x own s own' s' ∧ ∃ av, Rep x.bad s'.heap av v ∧ Q av own') (by omega) h0 h1 ⟨own, Step.toks R, .int ((KBw.bInts b).getD i.toNat 0), by rw [KBw.getD_ints]; exact rep_mk_int, q hin⟩
  rw [e] at this
  exact this
theorem ints_sliced {b : Array UInt8} (lo hi : Option Int) : KBw.bInts (KBy.picked b lo hi) = pickL (KBw.bInts b) lo hi := by
  unfold KBy.picked pickL PySem.Builtin.Bytes.sliced
  rw [KBw.ints_length]
  generalize sliceRange _ _ _ = ks
  induction ks with
  | nil => rfl
  | cons k ks ih =>
    simp only [List.filterMap_cons]
    unfold KBw.bInts at ih ⊢
    rw [List.getElem?_map]
    rw [show b[k]? = b.toList[k]? by simp]
    cases b.toList[k]? with
    | none => exact ih
    | some c => simp only [Option.map_some, List.map_cons]; rw [← ih]
theorem Sl_byt {ks : List Int} {lo hi : Option Int} (hz : (ks.length : Int) < 10000000) (q : Q (.byt (pickL ks lo hi)) own) : WSl x A (.byt ks) lo hi own Q := fun v s sl vl vu R r hs pl pu => by
  obtain ⟨b, t, rfl, hb⟩ := rep_byt r
  subst hb
  refine getItem_meets (typeIs_bytes _ _ _) (by decide) FB.slot_bytes_getitem FB.entry_bytes_getitem (FB.args_bytes_getitem_2 _ _) (KBc.meets_slice2 b t _ pl pu) ⟨hs, Nat.le_trans (KBc.size_picked_le b lo hi) ?_, fun t' k => ⟨own, Step.toks R, _, rep_mk_byt (ints_sliced lo hi), q⟩⟩
  rw [KBw.ints_length] at hz
  rw [sizeLine_eq]; omega
theorem C_len_byt {ks : List Int} (hz : (ks.length : Int) < 10000000) (q : Q (.int ks.length) own) : WO x A (callv (.builtin "len")) [.byt ks] own Q := fun vs s R r => by
  obtain ⟨u, rfl, r1⟩ := reps1 r
  obtain ⟨b, t, rfl, hb⟩ := rep_byt r1
  exact KBw.len_K hb (by omega) ⟨own, Step.toks R, _, rep_mk_int, q⟩
theorem O_catb {a b : List Int} (hz : (a.length : Int) + b.length < 10000000) (q : Q (.byt (a ++ b)) own) : WO x A (bop .Add) [.byt a, .byt b] own Q := fun vs s R r => by
  obtain ⟨u, v, rfl, r1, r2⟩ := reps2 r
  obtain ⟨c, t, rfl, hc⟩ := rep_byt r1; obtain ⟨d, t', rfl, hd⟩ := rep_byt r2
  exact KBa.add_K hc hd (by omega) fun t' k e => ⟨own, Step.toks R, _, rep_mk_byt e, q⟩
theorem reps_ints {B : List Addr} {h : Heap} : ∀ {ns : List Int} {vs : List Value}, Reps B h (ns.map .int) vs → IntsAre vs ns
  | [], vs, r => by simp only [List.map_nil, Reps] at r; subst r; exact .nil
  | k :: ns, vs, r => by
    simp only [List.map_cons, Reps] at r
    obtain ⟨v, ws, rfl, r1, r2⟩ := r
    obtain ⟨t, rfl⟩ := rep_int r1
    exact .cons k t (reps_ints r2)
theorem C_bytes {l : Addr} {ns : List Int} (hh : A.handled = none) (kn : Kn x own (l, .list (ns.map .int))) (hr : ∀ n ∈ ns, 0 ≤ n ∧ n < 256) (hz : (ns.length : Int) < 10000000) (q : Q (.byt ns) own) : WO x A (callv (.type "bytes")) [.val (.ref l)] own Q := fun vs s R r => by
  obtain ⟨u, rfl, r1⟩ := reps1 r
  rw [rep_val r1]
  obtain ⟨ws, pl, rs⟩ := R.kn kn
  have hi := reps_ints rs
  have hl := hi.length
  refine call_bytes_ints (vs := ws.toList) (by simpa using pl.isList) hi hr (by rw [sizeLine_eq]; omega) hh fun h' t k hk => ⟨own, Step.grow R hk, _, rep_mk_byt (KBa.ints_make hr), q⟩
theorem C_to_bytes {i : Int} (h0 : 0 ≤ i) (h1 : i < 65536) (q : Q (.byt [i / 256, i % 256]) own) : WO x A (callv (.builtin "int.to_bytes")) [.int i, .int 2, .str "big"] own Q := fun vs s R r => by
  obtain ⟨u, v, w, rfl, r1, r2, r3⟩ := reps3 r
  obtain ⟨t, rfl⟩ := rep_int r1; obtain ⟨t', rfl⟩ := rep_int r2; obtain ⟨t'', rfl⟩ := rep_str r3
  refine KTBy.to_big (k := 2) (B := 65536) (by decide) (by decide) h0 h1 fun b t' k' e _ => ⟨own, Step.toks R, _, rep_mk_byt (e.trans ?_), q⟩
  simp only [KTBy.little, List.reverse_cons, List.reverse_nil, List.nil_append, List.cons_append]
  congr 1
  omega

/-- text -/
theorem G_str {a : Str} {i : Int} {c : Nat} (h0 : 0 ≤ i) (h1 : i < 1000000000) (e : a.cps[i.toNat]? = some c) (q : Q (.str ⟨#[c]⟩) own) : WO x A getI [.str a, .int i] own Q := fun vs s R r => by
  obtain ⟨u, v, rfl, r1, r2⟩ := reps2 r
  obtain ⟨t, rfl⟩ := rep_str r1; obtain ⟨t', rfl⟩ := rep_int r2
  refine PyProof.Rows.getItem_str (i := i) (c := c) ?_ ?_ ⟨own, Step.toks R, _, rep_mk_str, q⟩
  · rw [decide_eq_false (by omega), decide_eq_false (by omega)]; rfl
  · have hlt : i.toNat < a.cps.size := (Array.getElem?_eq_some_iff.mp e).1
    have hn : ¬ i < 0 := by omega
    have h2 : i < (a.length : Int) := by show i < (a.cps.size : Int); omega
    simp [seqIndex?, hn, h0, h2, e]

/-- displays -/
theorem E_tup {es : List Expr} {k : Nat} {p : Pos} (h : WVs x A env es own fun as own1 => (as.length : Int) < 10000000 ∧ Q (.tup as) own1)
    (hs : backTo p (starEach es env) = es.map fun e => (false, eval e env) := by with_unfolding_all rfl) : WV x A (eval (.Tuple es k p) env) own Q := fun s R => by
  refine wpAny_Tuple ?_
  rw [hs]
  refine WVs.run h (Step.refl R) fun vs s1 own1 as S1 k1 r1 ⟨hz, q⟩ => ⟨by rw [← r1.length, sizeLine_eq]; omega, ?_⟩
  have gr : ∀ b o, s1.heap.get? b = some o → (s1.heap.push { cls := .type "tuple", data := .seq vs.toArray }).get? b = some o := fun b o e => Heap.get?_push_of_some _ e
  refine ⟨own1, S1.trans (Step.grow (tk := s1.toks) S1.rel gr), .tup as, ?_, q⟩
  simp only [Rep]
  refine ⟨_, _, _, rfl, fun hm => ?_, Heap.get?_push_size _ rfl, Reps.mono (fun b us m _ e => gr _ _ e) _ _ r1⟩
  obtain ⟨o, e⟩ := S1.rel.bd _ hm
  rw [fresh_none] at e; cases e
theorem E_list {es : List Expr} {p : Pos} (h : WVs x A env es own fun as own1 => (as.length : Int) < 10000000 ∧ ∀ D, Q (.val (.ref D)) ((D, .list as) :: own1))
    (hs : backTo p (starEach es env) = es.map fun e => (false, eval e env) := by with_unfolding_all rfl) : WV x A (eval (.List es p) env) own Q := fun s R => by
  refine wpAny_List ?_
  rw [hs]
  refine WVs.run h (Step.refl R) fun vs s1 own1 as S1 k1 r1 ⟨hz, q⟩ => ⟨by rw [← r1.length, sizeLine_eq]; omega, ?_⟩
  have gr : ∀ b o, s1.heap.get? b = some o → (s1.heap.push { cls := .type "list", data := .seq vs.toArray }).get? b = some o := fun b o e => Heap.get?_push_of_some _ e
  exact ⟨_, S1.trans (Step.new (tk := s1.toks) (a := s1.heap.objs.size) (o := .list as) S1.rel gr (fresh_none _) ⟨vs.toArray, ⟨_, Heap.get?_push_size _ rfl⟩, Reps.mono (fun b us m _ e => gr _ _ e) _ _ r1⟩), _, rep_mk_val, q _⟩

/-- and, or -/
theorem T_and {es : List Expr} {p : Pos} {w : Sem Value} {Q : Bool → Own → Prop} (h : WB x A (allTrue .And es env) own Q) : WB x A (isTrue (.BoolOp .And es p) env w) own Q := fun s R => wpAny_isTrue_BoolOp (h s R)
theorem T_or {es : List Expr} {p : Pos} {w : Sem Value} {Q : Bool → Own → Prop} (h : WB x A (allTrue .Or es env) own Q) : WB x A (isTrue (.BoolOp .Or es p) env w) own Q := fun s R => wpAny_isTrue_BoolOp (h s R)
theorem Al_nil {Q : Bool → Own → Prop} (q : Q true own) : WB x A (allTrue .And [] env) own Q := fun s R => wpAny_allTrue_And_nil ⟨own, Step.refl R, q⟩
theorem Ol_nil {Q : Bool → Own → Prop} (q : Q false own) : WB x A (allTrue .Or [] env) own Q := fun s R => wpAny_allTrue_Or_nil ⟨own, Step.refl R, q⟩
theorem Al_cons {e : Expr} {es : List Expr} {Q : Bool → Own → Prop} (h : WB x A (isTrue e env (eval e env)) own fun b own1 => IfB b (WB x A (allTrue .And es env) own1 Q) (Q false own1)) : WB x A (allTrue .And (e :: es) env) own Q := fun s R =>
  wpAny_allTrue_And_cons (WP.run h (Step.refl R) fun b s1 own1 S1 k1 q => by
    cases b with
    | true => exact WP.run (q : WB x A _ _ _) S1 fun b s2 own2 S2 _ q => ⟨own2, S2, q⟩
    | false => exact ⟨own1, S1, q⟩)
theorem Ol_cons {e : Expr} {es : List Expr} {Q : Bool → Own → Prop} (h : WB x A (isTrue e env (eval e env)) own fun b own1 => IfB b (Q true own1) (WB x A (allTrue .Or es env) own1 Q)) : WB x A (allTrue .Or (e :: es) env) own Q := fun s R =>
  wpAny_allTrue_Or_cons (WP.run h (Step.refl R) fun b s1 own1 S1 k1 q => by
    cases b with
    | false => exact WP.run (q : WB x A _ _ _) S1 fun b s2 own2 S2 _ q => ⟨own2, S2, q⟩
    | true => exact ⟨own1, S1, q⟩)

/-- more on ints -/
theorem O_lsh {a b : Int} (hn : 0 ≤ b ∧ b ≤ 1000) (ha : -1000000000 ≤ a ∧ a ≤ 1000000000) (q : Q (.int (a * 2 ^ b.toNat)) own) : WO x A (bop .LShift) [.int a, .int b] own Q := fun vs s R r => by
  obtain ⟨u, v, rfl, r1, r2⟩ := reps2 r; obtain ⟨t, rfl⟩ := rep_int r1; obtain ⟨t', rfl⟩ := rep_int r2
  refine lshift_int hn.1 ?_ ⟨own, Step.toks R, _, rep_mk_int, q⟩
  have : PySem.Builtin.Int.intBits a ≤ 64 := by rw [← X.oBits.2]; exact X.bits_le (by omega) (by omega)
  omega
theorem O_rsh1 {a : Int} (h0 : 0 ≤ a) (q : Q (.int (a / 2)) own) : WO x A (bop .RShift) [.int a, .int 1] own Q := fun vs s R r => by
  obtain ⟨u, v, rfl, r1, r2⟩ := reps2 r; obtain ⟨t, rfl⟩ := rep_int r1; obtain ⟨t', rfl⟩ := rep_int r2
  exact wpAny_rshift1_int h0 ⟨own, Step.toks R, _, rep_mk_int, q⟩
theorem O_and {a b : Int} (q : Q (.int (PySem.Builtin.bitAnd a b)) own) : WO x A (bop .BitAnd) [.int a, .int b] own Q := fun vs s R r => by
  obtain ⟨u, v, rfl, r1, r2⟩ := reps2 r; obtain ⟨t, rfl⟩ := rep_int r1; obtain ⟨t', rfl⟩ := rep_int r2
  exact and_int ⟨own, Step.toks R, _, rep_mk_int, q⟩
theorem O_or {a b : Int} (q : Q (.int (PySem.Builtin.bitOr a b)) own) : WO x A (bop .BitOr) [.int a, .int b] own Q := fun vs s R r => by
  obtain ⟨u, v, rfl, r1, r2⟩ := reps2 r; obtain ⟨t, rfl⟩ := rep_int r1; obtain ⟨t', rfl⟩ := rep_int r2
  exact or_int ⟨own, Step.toks R, _, rep_mk_int, q⟩
theorem O_pow2 {b : Int} (h0 : 0 ≤ b) (h1 : b ≤ 1000000) (q : Q (.int (2 ^ b.toNat)) own) : WO x A (bop .Pow) [.int 2, .int b] own Q := fun vs s R r => by
  obtain ⟨u, v, rfl, r1, r2⟩ := reps2 r; obtain ⟨t, rfl⟩ := rep_int r1; obtain ⟨t', rfl⟩ := rep_int r2
  refine pow_int h0 ?_ ⟨own, Step.toks R, _, rep_mk_int, q⟩
  have : PySem.Builtin.Int.intBits 2 ≤ 64 := by rw [← X.oBits.2]; exact X.bits_le (by omega) (by omega)
  have h2 : ((PySem.Builtin.Int.intBits 2 : Nat) : Int) * b ≤ 64 * b := Int.mul_le_mul_of_nonneg_right (by omega) h0
  omega
theorem C_max {a b : Int} (hh : A.handled = none) (q : Q (.int (max a b)) own) : WO x A (callv (.builtin "max")) [.int a, .int b] own Q := fun vs s R r => by
  obtain ⟨u, v, rfl, r1, r2⟩ := reps2 r; obtain ⟨t, rfl⟩ := rep_int r1; obtain ⟨t', rfl⟩ := rep_int r2
  refine max_two_ints hh fun h' tk hk => ⟨own, Step.grow R hk, .int (max a b), ?_, q⟩
  by_cases h : b > a
  · rw [if_pos h, show max a b = b by omega]; exact rep_mk_int
  · rw [if_neg h, show max a b = a by omega]; exact rep_mk_int
theorem C_min {a b : Int} (hh : A.handled = none) (q : Q (.int (min a b)) own) : WO x A (callv (.builtin "min")) [.int a, .int b] own Q := fun vs s R r => by
  obtain ⟨u, v, rfl, r1, r2⟩ := reps2 r; obtain ⟨t, rfl⟩ := rep_int r1; obtain ⟨t', rfl⟩ := rep_int r2
  refine min_two_ints hh fun h' tk hk => ⟨own, Step.grow R hk, .int (min a b), ?_, q⟩
  by_cases h : b < a
  · rw [if_pos h, show min a b = b by omega]; exact rep_mk_int
  · rw [if_neg h, show min a b = a by omega]; exact rep_mk_int
theorem T_int {a : Int} {Q : Bool → Own → Prop} (h1 : a ≠ 0 → Q true own) (h2 : a = 0 → Q false own) : WT x A (.int a) own Q := fun v s R r => by
  obtain ⟨t, rfl⟩ := rep_int r
  refine truthy_int ⟨own, Step.toks R, ?_⟩
  by_cases h : a = 0
  · rw [show (a != 0) = false by simp [h]]; exact h2 h
  · rw [show (a != 0) = true by simp [h]]; exact h1 h
theorem T_none {Q : Bool → Own → Prop} (h : Q false own) : WT x A (.val .none) own Q := fun v s R r => by
  rw [rep_val r]
  exact truthy_none ⟨own, Step.refl R, h⟩
end
end
section
open PySem PySem.W PyProof.Rows PySem.Builtin PySem.Builtin.ObjectAttr

/-- attributes put -/
inductive PutA (y : Str) (b : AV) : List (Str × AV) → List (Str × AV) → Prop
  | nil : PutA y b [] [(y, b)]
  | here {a : AV} {l : List (Str × AV)} : PutA y b ((y, a) :: l) ((y, b) :: l)
  | skip {z : Str} {a : AV} {l l' : List (Str × AV)} : (y == z) = false → PutA y b l l' → PutA y b ((z, a) :: l) ((z, a) :: l')
theorem PutA.look {y : Str} {b : AV} {l l' : List (Str × AV)} (h : PutA y b l l') : ∀ z, l'.lookup z = if z = y then some b else l.lookup z := by
  induction h with
  | nil =>
    intro z
    by_cases e : z = y
    · subst e; simp
    · have : (z == y) = false := beq_eq_false_iff_ne.mpr e
      simp [List.lookup_cons, e, this]
  | here =>
    intro z
    by_cases e : z = y
    · subst e; simp
    · have : (z == y) = false := beq_eq_false_iff_ne.mpr e
      simp [List.lookup_cons, e, this]
  | @skip z' a l l' n _ ih =>
    intro z
    simp only [List.lookup_cons]
    by_cases e : z = z'
    · subst e
      have : z ≠ y := fun q => by subst q; simp at n
      simp [this]
    · have : (z == z') = false := beq_eq_false_iff_ne.mpr e
      rw [this]; exact ih z
theorem PutA.len {y : Str} {b : AV} {l l' : List (Str × AV)} (h : PutA y b l l') : l'.length = if (l.lookup y).isSome then l.length else l.length + 1 := by
  induction h with
  | nil => simp
  | here => simp
  | @skip z' a l l' n _ ih =>
    simp only [List.lookup_cons, n, List.length_cons, ih]
    split <;> rfl

theorem at_put {M : Model} {A : Around} {E : Value → Shared → Prop} {s : Shared} {B : List Addr} {a : Addr} {es es' : List (Str × AV)} {y : Str} {b : AV} {v : Value} {Q : Unit → Shared → Prop}
    (H : At B s.heap a es) (p : PutA y b es es') (hz : es.length ≤ 1000)
    (tk : ∀ h', Heap.SameBut a s.heap h' → TupKeep B s.heap h') (rv : Rep B s.heap b v)
    (hQ : ∀ h', At B h' a es' → Heap.SameBut a s.heap h' → (∃ ob, h'.get? a = some ob ∧ ob.data.pastItsLine = none) → Q () { s with heap := h', toks := s.toks + 1 }) : wpAny M A (nsSet a y v) Q E s := by
  obtain ⟨o, ents, ep, ho, hc, hd, hsz, hk, hm⟩ := H
  intro Γ pp hΓ
  unfold nsSet
  simp only [strHash, Sem.wp_bind', Sem.wp_cmd_ask, Sem.wp_pure', Sem.wp_cmd_mkText]
  rw [Sem.wp_loadPart_of M Γ _ pp { s with toks := s.toks + 1 } (o := o) _ ho]
  have hany : ents.any (·.refKey) = false := by
    rw [Array.any_eq_false']; intro e he; obtain ⟨n, t, h⟩ := hk e he; simp [DictEntry.refKey, h]
  simp only [hd, aRefKeyMayBeTheName_eq, aRefKeyMayBeTheNameByArray, hany, Bool.and_false, Bool.false_eq_true, if_false, Sem.wp_cmd_updatePart]
  generalize (if y.cps.isEmpty = true then 0 else reduceHash (M.w.params.strHash y.cps)) = hash
  have sb : Heap.SameBut a s.heap (s.heap.update a (Obj.putName y hash (.str y s.toks) v)) := Heap.SameBut.update ..
  have tkk := tk _ sb
  have found : ∀ z, (match es'.lookup z with | some b => ∃ v', (if z = y then some v else nsFind ents z) = some v' ∧ Rep B (s.heap.update a (Obj.putName y (hash) (.str y s.toks) v)) b v' | none => (if z = y then some v else nsFind ents z) = none) := by
    intro z
    rw [p.look z]
    by_cases e : z = y
    · simp only [e, if_true]
      exact ⟨v, rfl, Rep.mono tkk _ _ rv⟩
    · simp only [e, if_false]
      have := hm z
      split
      · rename_i b' eb; rw [eb] at this; obtain ⟨v', h1, h2⟩ := this; exact ⟨v', h1, Rep.mono tkk _ _ h2⟩
      · rename_i eb; rw [eb] at this; exact this
  have hfy : (es.lookup y).isSome = (nsFind ents y).isSome := by
    have := hm y
    split at this
    · rename_i b' eb; obtain ⟨v', h1, _⟩ := this; rw [eb, h1]; rfl
    · rename_i eb; rw [eb, this]; rfl
  refine ⟨by rw [ho]; rfl, ?_⟩
  obtain ⟨c, d, dt, sl⟩ := o
  dsimp only at hd hc
  subst hd hc
  cases hi : ents.findIdx? (·.key.isStr y) with
  | some i =>
    have hs : (nsFind ents y).isSome = true := by
      unfold nsFind findBy
      rw [Option.isSome_map]
      have hlt := (Array.findIdx?_eq_some_iff_getElem.mp hi)
      obtain ⟨h1, h2, _⟩ := hlt
      rw [Array.find?_isSome]
      exact ⟨_, Array.getElem_mem h1, h2⟩
    have e1 : (s.heap.update a (Obj.putName y (hash) (.str y s.toks) v)).get? a = some ⟨.type "dict", d, .dict (ents.modify i fun e => { e with val := v }) ep, sl⟩ :=
      (Heap.get?_update_self _ ho (by simp only [Obj.putName_eq, Obj.putNameByArray, hi]; rfl)).trans (by simp only [Obj.putName_eq, Obj.putNameByArray, hi])
    refine hQ _ ⟨_, _, ep, e1, rfl, rfl, ?_, hk.modify _ _, fun z => ?_⟩ sb ⟨_, e1, pastItsLine_dict (by simp [hsz]; rw [sizeLine_eq]; omega)⟩
    · rw [p.len, hfy, hs]; simp [hsz]
    · have := found z
      rw [show nsFind (ents.modify i fun e => { e with val := v }) z = if z = y then some v else nsFind ents z from findBy_modify (fun n v => v.isStr n) Value.isStr_inj ents y z v i hi]
      exact this
  | none =>
    have hs : (nsFind ents y).isSome = false := by
      unfold nsFind findBy
      rw [Option.isSome_map]
      have h1 := Array.findIdx?_eq_none_iff.mp hi
      have : ents.find? (·.key.isStr y) = none := by
        rw [Array.find?_eq_none]
        intro e he
        simpa using h1 e he
      rw [this]; rfl
    have e1 : (s.heap.update a (Obj.putName y (hash) (.str y s.toks) v)).get? a = some ⟨.type "dict", d, .dict (ents.push ⟨hash, .str y s.toks, v⟩) (ep + 1), sl⟩ :=
      (Heap.get?_update_self _ ho (by simp only [Obj.putName_eq, Obj.putNameByArray, hi]; rfl)).trans (by simp only [Obj.putName_eq, Obj.putNameByArray, hi])
    refine hQ _ ⟨_, _, ep + 1, e1, rfl, rfl, ?_, hk.push _ _ _ _, fun z => ?_⟩ sb ⟨_, e1, pastItsLine_dict (by simp [hsz]; rw [sizeLine_eq]; omega)⟩
    · rw [p.len, hfy, hs]; simp [hsz]
    · have := found z
      rw [show nsFind (ents.push ⟨hash, .str y s.toks, v⟩) z = if z = y then some v else nsFind ents z from findBy_push (fun n v => v.isStr n) ents y z _ _ v (fun x => by
        show (y == x) = decide (x = y)
        by_cases h : x = y
        · subst h; simp
        · have : ¬ y = x := fun e => h e.symm
          simp [h, this]) hi]
      exact this

theorem at_look {B : List Addr} {h : Heap} {a : Addr} {es : List (Str × AV)} (H : At B h a es) (y : Str) : ∃ o r, h.get? a = some o ∧ lookIn y o = some r ∧ (match es.lookup y with | some b => ∃ v, r = some v ∧ Rep B h b v | none => r = none) := by
  obtain ⟨o, ents, ep, ho, hc, hd, hsz, hk, hm⟩ := H
  refine ⟨o, nsFind ents y, ho, ?_, hm y⟩
  unfold lookIn
  rw [hd]
  dsimp only
  unfold nsFind findBy
  rw [← Array.find?_toList]
  cases e : ents.toList.find? (fun x => x.key.isStr y) with
  | some en => rfl
  | none =>
    have hany : ents.toList.any (·.refKey) = false := by
      rw [List.any_eq_false]; intro e he; obtain ⟨n, t, h⟩ := hk e (by simpa using he); simp [DictEntry.refKey, h]
    simp [hany]

/-- what is known of a class -/
structure ClsOk (K : Frag) (C : Addr) : Prop where
  ga : findIn K (.ref C) "__getattribute__" = some (some (.builtin "object.__getattribute__"))
  noga : findIn K (.ref C) "__getattr__" = some none
  sa : findIn K (.ref C) "__setattr__" = some (some (.builtin "object.__setattr__"))
  po : plainOver K C = true
  hd : (clsIn K C).any (·.hasDict) = true
  mkc : makesIn K C = true
def OwnA (K : Frag) (C : Addr) (y : Str) : Prop := ∀ od v, lookIn y od = some (some v) → findObj K C (some od) y = some (.value v)
def ClsA (K : Frag) (C : Addr) (y : Str) (v : Value) : Prop := ∀ od, lookIn y od = some none → findObj K C (some od) y = some (.value v)
def MethA (K : Frag) (C : Addr) (y : Str) (f : Addr) : Prop := findIn K (.ref C) y = some (some (.ref f)) ∧ typeIn K (.ref f) = some (.type "function")
def TakeA (K : Frag) (C : Addr) (y : Str) : Prop := takerIn K C y = some none

section
variable {x : Cx} {A : Around} {own : Own} {env : Env} {n : Nat} {nm gn : List Str} {Q : AV → Own → Prop}

theorem inst_at {P : Program} {W : World} {B : List Addr} {h : Heap} {a d C : Addr} {es : List (Str × AV)} (h1 : Has P W B h a (.inst C d)) (h2 : Has P W B h d (.attrs es)) (y : Str) :
    ∃ ox od, InstAt h a ox C (some od) ∧ ox.dict = some d ∧ h.get? d = some od ∧ ∃ r, lookIn y od = some r ∧ (match es.lookup y with | some b => ∃ v, r = some v ∧ Rep B h b v | none => r = none) := by
  obtain ⟨sl, e⟩ := h1
  obtain ⟨o, r, ho, hl, hm⟩ := at_look h2 y
  exact ⟨_, o, ⟨e, rfl, rfl, ho⟩, rfl, ho, r, hl, hm⟩

/-- an attribute, the object's own -/
theorem G_own {a d C : Addr} {es : List (Str × AV)} {y : Str} {b : AV} (CO : ClsOk x.K C) (oa : OwnA x.K C y) (k1 : Kn x own (a, .inst C d)) (k2 : Kn x own (d, .attrs es)) (l : es.lookup y = some b)
    (hb : b ≠ .val .none ∨ True) {s : Shared} (R : Rel x own s) {own₀ : Own} {s₀ : Shared} (S : Step x own₀ s₀ own s) (q : Q b own)
    (hv : ∀ v, Rep x.bad s.heap b v → handedIn v = true) :
    wpAny (model x.prog x.w) A (getAttr (.ref a) y true) (fun v s' => ∃ own', Step x own₀ s₀ own' s' ∧ ∃ av, Rep x.bad s'.heap av v ∧ Q av own') (fun _ _ => False) s := by
  obtain ⟨ox, od, I, _, _, r, hl, hm⟩ := inst_at (R.kn k1) (R.kn k2) y
  rw [l] at hm
  obtain ⟨v, rfl, rv⟩ := hm
  exact get_value R.kin I CO.ga (oa od v hl) (hv v rv) ⟨own, S.trans (Step.toks R), b, rv, q⟩
theorem G_cls {a d C : Addr} {es : List (Str × AV)} {y : Str} {v : Value} (CO : ClsOk x.K C) (oa : ClsA x.K C y v) (k1 : Kn x own (a, .inst C d)) (k2 : Kn x own (d, .attrs es)) (l : es.lookup y = none)
    {s : Shared} (R : Rel x own s) {own₀ : Own} {s₀ : Shared} (S : Step x own₀ s₀ own s) {b : AV} (rv : Rep x.bad s.heap b v) (hv : handedIn v = true) (q : Q b own) :
    wpAny (model x.prog x.w) A (getAttr (.ref a) y true) (fun v s' => ∃ own', Step x own₀ s₀ own' s' ∧ ∃ av, Rep x.bad s'.heap av v ∧ Q av own') (fun _ _ => False) s := by
  obtain ⟨ox, od, I, _, _, r, hl, hm⟩ := inst_at (R.kn k1) (R.kn k2) y
  rw [l] at hm
  subst hm
  exact get_value R.kin I CO.ga (oa od hl) hv ⟨own, S.trans (Step.toks R), b, rv, q⟩

/-- reading an attribute: what it must give -/
def WG (x : Cx) (A : Around) (a : AV) (y : Str) (own : Own) (Q : AV → Own → Prop) : Prop := ∀ v s, Rel x own s → Rep x.bad s.heap a v →
  wpAny (model x.prog x.w) A (getAttr v y true) (fun v s' => ∃ own', Step x own s own' s' ∧ ∃ av, Rep x.bad s'.heap av v ∧ Q av own') (fun _ _ => False) s
def AV.handed : AV → Prop
  | .val (.builtin _) => False
  | .any => False
  | _ => True
theorem AV.handed_of {b : AV} (h : b.handed) {B : List Addr} {hp : Heap} {v : Value} (r : Rep B hp b v) : handedIn v = true := by
  cases b with
  | val u => rw [rep_val r]; cases u <;> first | rfl | exact h.elim
  | int i => obtain ⟨t, rfl⟩ := rep_int r; rfl
  | str i => obtain ⟨t, rfl⟩ := rep_str r; rfl
  | byt i => obtain ⟨c, t, rfl, _⟩ := rep_byt r; rfl
  | tup xs => obtain ⟨a, vs, k, rfl, _⟩ := rep_tup r; rfl
  | any => exact h.elim
theorem W_own {a d C : Addr} {es : List (Str × AV)} {y : Str} {b : AV} (CO : ClsOk x.K C) (oa : OwnA x.K C y) (k1 : Kn x own (a, .inst C d)) (k2 : Kn x own (d, .attrs es)) (l : es.lookup y = some b) (hb : b.handed) (q : Q b own) :
    WG x A (.val (.ref a)) y own Q := fun v s R r => by
  rw [rep_val r]
  exact G_own CO oa k1 k2 l (.inr trivial) R (Step.refl R) q fun v rv => AV.handed_of hb rv
theorem W_clsi {a d C : Addr} {es : List (Str × AV)} {y : Str} {i : Int} {t : Tok} (CO : ClsOk x.K C) (oa : ClsA x.K C y (.int i t)) (k1 : Kn x own (a, .inst C d)) (k2 : Kn x own (d, .attrs es)) (l : es.lookup y = none) (q : Q (.int i) own) :
    WG x A (.val (.ref a)) y own Q := fun v s R r => by
  rw [rep_val r]
  exact G_cls CO oa k1 k2 l R (Step.refl R) rep_mk_int rfl q
theorem E_attr {y z : Str} {np p : Pos} (h : WV x A (eval (.Name y np) env) own fun a own1 => WG x A a z own1 Q)
    (h1 : attributeBase (.Name y np) z env (eval (.Name y np) env) = eval (.Name y np) env := by with_unfolding_all rfl) : WV x A (eval (.Attribute (.Name y np) z p) env) own Q := fun s R => by
  show wpAny _ _ (do
    let o ← attributeBase (.Name y np) z env (eval (.Name y np) env)
    standAt p.atName
    let r ← holding [o] (getAttr o z true)
    letTemporaryGo (.Name y np) o r
    pure r) _ _ s
  rw [h1]
  refine wpAny_bind (h.run (Step.refl R) fun v1 s1 own1 S1 k1 ⟨a, r1, hg⟩ => wpAny_bind (wpAny_standAt (wpAny_bind (wpAny_holding (wpAny_mono (hg v1 s1 S1.rel r1) (fun v s2 => ?_) fun _ _ f => f.elim)))))
  rintro ⟨own2, S2, av, rv, q⟩
  exact wpAny_bind (wpAny_pure (wpAny_pure ⟨own2, S1.trans S2, av, rv, q⟩))

/-- storing an attribute -/
theorem P_attr {a d C : Addr} {es es' : List (Str × AV)} {y : Str} {b : AV} {own' : Own} (CO : ClsOk x.K C) (ta : TakeA x.K C y) (k1 : Kn x own (a, .inst C d)) (u : Upd d (.attrs es) (.attrs es') own own') (p : PutA y b es es') (hz : es.length ≤ 1000)
    {v : Value} {s : Shared} (R : Rel x own s) (rv : Rep x.bad s.heap b v) {Q : Unit → Shared → Prop} (q : ∀ s', Step x own s own' s' → Q () s') : wpAny (model x.prog x.w) A (setAttr (.ref a) y v) Q (fun _ _ => False) s := by
  have h2 := R.has _ u.mem
  obtain ⟨ox, od, I, hdx, hod, _⟩ := inst_at (R.kn k1) h2 y
  refine set_plain R.kin I CO.sa ?_
  obtain ⟨cd, hc, hd'⟩ := any_some CO.hd
  refine osa_open (s := { s with toks := s.toks + 1 }) R.kin I CO.po ta fun bb => ?_
  obtain ⟨hx, hcl, hn, -⟩ := I
  obtain ⟨oc, odi, oda, osl⟩ := ox
  dsimp only at hcl hdx
  subst hcl hdx
  refine wpAny_bind (wpAny_pure (wpAny_bind (wpAny_bind (wpAny_loadPart (s := { s with toks := s.toks + 1 }) hx (wpAny_bind (Looks.here (s := { s with toks := s.toks + 1 }) (looks_clsIn (h := s.heap) R.kin hc) ?_))))))
  rw [hd']
  refine wpAny_pure (a := some d) (wpAny_bind (wpAny_pure (wpAny_bind ?_)))
  refine at_put (s := { s with toks := s.toks + 1 }) h2 p hz (fun h' sb => fun c vs k _ e => sb.extBut c _ (fun q => by subst q; exact h2.notTup e) e) rv fun h' H' sb ⟨ob, eo, pl⟩ => ?_
  refine wpAny_bind (wpAny_lookBehind eo pl ?_)
  exact wpAny_pure (q _ (Step.upd R u (fun b o hb e => sb.extBut b o hb e) H'))
theorem A_attr {z y : Str} {np p : Pos} {b : AV} {K : Own → Prop} (h : ∀ v s, Rel x own s → Rep x.bad s.heap b v → WV x A (eval (.Name z np) env) own fun o own1 => ∃ a d C es es' own2, o = .val (.ref a) ∧ ClsOk x.K C ∧ TakeA x.K C y ∧ Kn x own1 (a, .inst C d) ∧ Upd d (.attrs es) (.attrs es') own1 own2 ∧ PutA y b es es' ∧ es.length ≤ 1000 ∧ K own2) :
    WA x A env (.Attribute (.Name z np) y p) b own K := fun v s R r => by
  show wpAny _ _ (do
    let ov ← holding [v] (eval (.Name z np) env)
    standAt p.atName
    holding [v, ov] (setAttr ov y v)
    release [v, ov] []) _ _ s
  refine wpAny_bind (wpAny_holding ((h v s R r).run (Step.refl R) fun ov s1 own1 S1 k1 ⟨av, ra, a, d, C, es, es', own2, e, CO, ta, kn, u, pa, hz, q⟩ => ?_))
  subst e
  rw [rep_val ra]
  refine wpAny_bind (wpAny_standAt (wpAny_bind (wpAny_holding (P_attr CO ta kn u pa hz S1.rel (Rep.mono k1 _ _ r) fun s2 S2 => ?_))))
  exact wpAny_release ⟨own2, S1.trans S2, q⟩

/-- a method of a made object -/
theorem E_methI {o : Expr} {name : Str} {apos p : Pos} {es : List Expr} {pl : Sem Bool} (h : WV x A (eval o env) own fun oa own1 => ∃ a d C at' f, oa = .val (.ref a) ∧ ClsOk x.K C ∧ MethA x.K C name f ∧ keepIn x.K (.ref f) = true ∧ Kn x own1 (a, .inst C d) ∧ Kn x own1 (d, .attrs at') ∧ at'.lookup name = none ∧
      WVs x A env es own1 fun as own2 => WO x A (callv (.ref f)) ([oa] ++ as) own2 Q)
    (he : eval (.Call (.Attribute o name apos) es [] p) env = (do
      let ov ← eval o env
      standAt apos.atName
      let (f, first) ← holding [ov] (getMethod ov name pl)
      callWith p f first (backTo p (starEach es env)) []))
    (hs : backTo p (starEach es env) = es.map fun e => (false, eval e env) := by with_unfolding_all rfl) :
    WV x A (eval (.Call (.Attribute o name apos) es [] p) env) own Q := fun s R => by
  refine MethodCall_ (pl := pl) ?_ he
  refine h.run (Step.refl R) fun v1 s1 own1 S1 k1 ⟨av, ra, a, d, C, at', f, e, CO, ⟨m1, m2⟩, kf, kn1, kn2, hl, h1⟩ => ?_
  subst e
  rw [rep_val ra]
  obtain ⟨ox, od, I, _, _, r, hl', hm⟩ := inst_at (S1.rel.kn kn1) (S1.rel.kn kn2) name
  rw [hl] at hm
  subst hm
  refine method_fn S1.rel.kin I CO.ga CO.noga m1 m2 (by show (lookIn name od).map (·.isSome) = some false; rw [hl']; rfl) ?_
  rw [hs]
  exact callWith_run (first := [.val (.ref a)]) (Cle.top kf) (Reps.cons rep_mk_val .nil) S1 h1

/-- making an object -/
theorem C_make {C fI : Addr} {as : List AV} (hl : Lv (n + 1) A) (CO : ClsOk x.K C) (mi : MethA x.K C "__init__" fI)
    (h : ∀ a d A', a ≠ d → Lv n A' → WCd x A' fI (.val (.ref a) :: as) ((a, .inst C d) :: (d, .attrs []) :: own) fun v own' => v = .val .none ∧ Q (.val (.ref a)) own') :
    WO x A (callv (.ref C)) as own Q := fun vs s R r => by
  refine wpAny_call ?_
  refine make_core (h := s.heap) (g := s.gens) (t := s.toks) (makes_of R.kin CO.mkc) (looks_findIn R.kin mi.1) (fun self => bind_fn R.kin self mi.2) (.inl rfl) ?_
  have hlv : Lv n (A.under (.builtin "type.__call__" ⟨.ref C :: vs, []⟩)) := by
    have hw : (Code.builtin "type.__call__" ⟨.ref C :: vs, []⟩).weight = 1 := by kernel_rfl
    have hu : (Code.builtin "type.__call__" ⟨.ref C :: vs, []⟩).cUnits = 1 := by kernel_rfl
    refine ⟨hl.hnd, ?_, ?_⟩
    · show A.depth + (Code.builtin "type.__call__" ⟨.ref C :: vs, []⟩).weight + n < _
      rw [hw]; have := hl.dep; omega
    · show A.units + (Code.builtin "type.__call__" ⟨.ref C :: vs, []⟩).cUnits + 20 * n < _
      rw [hu]; have := hl.uni; omega
  have g1 : ∀ b o, s.heap.get? b = some o → (s.heap.push emptyDict).get? b = some o := fun b o e => Heap.get?_push_of_some _ e
  have S1 : Step x own s ((s.heap.objs.size, .attrs []) :: own) { s with heap := s.heap.push emptyDict, toks := s.toks } :=
    Step.new R g1 (fresh_none _) ⟨emptyDict, #[], 0, Heap.get?_push_size _ rfl, rfl, rfl, rfl, fun _ he => by simp at he, fun y => by rfl⟩
  have hsz : (s.heap.push emptyDict).objs.size = s.heap.objs.size + 1 := Heap.size_push _ _
  have g2 : ∀ b o, (s.heap.push emptyDict).get? b = some o → ((s.heap.push emptyDict).push (instObj C s.heap.objs.size)).get? b = some o := fun b o e => Heap.get?_push_of_some _ e
  have S2 : Step x ((s.heap.objs.size, .attrs []) :: own) { s with heap := s.heap.push emptyDict, toks := s.toks } ((s.heap.objs.size + 1, .inst C s.heap.objs.size) :: (s.heap.objs.size, .attrs []) :: own) { s with heap := (s.heap.push emptyDict).push (instObj C s.heap.objs.size), toks := s.toks } :=
    Step.new (s := { s with heap := s.heap.push emptyDict, toks := s.toks }) S1.rel g2 (by rw [← hsz]; exact fresh_none _) ⟨#[], by rw [← hsz]; exact Heap.get?_push_size _ rfl⟩
  have S12 := S1.trans S2
  refine codeAny_mono (h (s.heap.objs.size + 1) s.heap.objs.size _ (Nat.succ_ne_self _) hlv (.ref (s.heap.objs.size + 1) :: vs) _ S12.rel (Reps.cons rep_mk_val (Reps.mono (S12.tup R) _ _ r))) fun rr s' hr => ?_
  rcases rr with e | (v | _ | _ | _) <;> try exact hr.elim
  obtain ⟨own', S', av, ra, rfl, q⟩ := hr
  exact ⟨rep_val ra, own', S12.trans S', _, rep_mk_val, q⟩

/-- is None -/
theorem C_isn {a : AV} {Q : Bool → Own → Prop} (h : a = .val .none) (q : Q true own) : WC x A .Is a (.val .none) own Q := fun vs s R r => by
  subst h
  obtain ⟨u, v, rfl, r1, r2⟩ := reps2 r
  rw [rep_val r1, rep_val r2]
  exact is_none_none ⟨own, Step.refl R, _, rep_mk_val, true, rfl, q⟩
def AV.solid : AV → Prop
  | .val (.ref _) | .int _ | .str _ | .byt _ | .tup _ => True
  | _ => False
theorem AV.solid.ne {a : AV} (h : a.solid) {B : List Addr} {hp : Heap} {v : Value} (r : Rep B hp a v) : v ≠ .none := by
  cases a with
  | val u => rw [rep_val r]; cases u <;> first | exact h.elim | (intro e; cases e)
  | int i => obtain ⟨t, rfl⟩ := rep_int r; intro e; cases e
  | str i => obtain ⟨t, rfl⟩ := rep_str r; intro e; cases e
  | byt i => obtain ⟨c, t, rfl, _⟩ := rep_byt r; intro e; cases e
  | tup xs => obtain ⟨a, vs, k, rfl, _⟩ := rep_tup r; intro e; cases e
  | any => exact h.elim
theorem C_iss {a : AV} {Q : Bool → Own → Prop} (h : a.solid) (q : Q false own) : WC x A .Is a (.val .none) own Q := fun vs s R r => by
  obtain ⟨u, v, rfl, r1, r2⟩ := reps2 r
  rw [rep_val r2]
  exact is_none_ne (h.ne r1) ⟨own, Step.refl R, _, rep_mk_val, false, rfl, q⟩
theorem C_isnt {a : AV} {Q : Bool → Own → Prop} (h : a.solid) (q : Q true own) : WC x A .IsNot a (.val .none) own Q := fun vs s R r => by
  obtain ⟨u, v, rfl, r1, r2⟩ := reps2 r
  rw [rep_val r2]
  exact isnot_none_ne (h.ne r1) ⟨own, Step.refl R, _, rep_mk_val, true, rfl, q⟩
end
end
section
def putK {K V : Type} [DecidableEq K] (es : List (K × V)) (k : K) (v : V) : List (K × V) := if es.any (fun e => e.1 = k) then es.map (fun e => if e.1 = k then (e.1, v) else e) else es ++ [(k, v)]
def lookK {K V : Type} [DecidableEq K] (es : List (K × V)) (k : K) : Option V := (es.find? fun e => e.1 = k).map (·.2)

theorem KVs.look {K : Type} [DecidableEq K] {B : List Addr} {h : Heap} {es : List (K × AV)} {kvs : List (K × Value)} (r : KVs B h es kvs) (k : K) :
    match lookK es k with | some a => ∃ v, valueAt kvs k = some v ∧ Rep B h a v | none => valueAt kvs k = none := by
  induction r with
  | nil => exact rfl
  | @cons k' a v l l' ra _ ih =>
    unfold lookK valueAt at ih ⊢
    simp only [List.find?_cons]
    by_cases e : k' = k
    · simp only [e, decide_true, Option.map_some]; exact ⟨v, rfl, ra⟩
    · simp only [e, decide_false]; exact ih
theorem KVs.any {K : Type} [DecidableEq K] {B : List Addr} {h : Heap} {es : List (K × AV)} {kvs : List (K × Value)} (r : KVs B h es kvs) (k : K) : es.any (fun e => e.1 = k) = kvs.any (fun e => e.1 = k) := by
  induction r with
  | nil => rfl
  | cons _ _ ih => simp [ih]
theorem KVs.put {K : Type} [DecidableEq K] {B : List Addr} {h : Heap} {es : List (K × AV)} {kvs : List (K × Value)} (r : KVs B h es kvs) (k : K) {a : AV} {v : Value} (ra : Rep B h a v) : KVs B h (putK es k a) (stored kvs k v) := by
  unfold putK stored
  rw [r.any k]
  split
  · rename_i hc; clear hc
    induction r with
    | nil => exact .nil
    | @cons k' a' v' l l' ra' _ ih =>
      simp only [List.map_cons]
      by_cases e : k' = k
      · simp only [e, if_true]; exact .cons ra ih
      · simp only [e, if_false]; exact .cons ra' ih
  · rename_i hc; clear hc
    induction r with
    | nil => exact .cons ra .nil
    | cons ra' _ ih => exact .cons ra' ih
theorem KVs.length {K : Type} {B : List Addr} {h : Heap} {es : List (K × AV)} {kvs : List (K × Value)} (r : KVs B h es kvs) : es.length = kvs.length := by
  induction r with
  | nil => rfl
  | cons _ _ ih => simp [ih]
theorem KVs.at {K : Type} {B : List Addr} {h : Heap} {es : List (K × AV)} {kvs : List (K × Value)} (r : KVs B h es kvs) : ∀ {i : Nat} {k : K} {v : Value}, kvs[i]? = some (k, v) → ∃ a, es[i]? = some (k, a) ∧ Rep B h a v := by
  induction r with
  | nil => intro i k v e; simp at e
  | @cons k' a' v' l l' ra _ ih =>
    intro i k v e
    cases i with
    | zero => simp at e; obtain ⟨rfl, rfl⟩ := e; exact ⟨a', rfl, ra⟩
    | succ i => simp at e; obtain ⟨a, h1, h2⟩ := ih e; exact ⟨a, by simpa using h1, h2⟩

/-- dicts of keys by value -/
structure DK (x : Cx) (K : Type) [DecidableEq K] where
  knd : KeyKind x.prog x.w K
  key : K → AV
  mkO : List (K × AV) → AObj
  has : ∀ {h a es}, Has x.prog x.w x.bad h a (mkO es) ↔ ((a == sysModules) = false ∧ ∃ kvs ep, h.DictAt knd a kvs ep ∧ KVs x.bad h es kvs)
  is : ∀ {h k v}, Rep x.bad h (key k) v ↔ knd.is k v = true
  fz : ∀ es, (mkO es).fz
def dkI (x : Cx) : DK x Int where
  knd := intKind x.prog x.w
  key := .int
  mkO := .dictI
  has := Iff.rfl
  is := by
    intro h k v
    constructor
    · intro r; obtain ⟨t, rfl⟩ := rep_int r; exact intKind_is _ _ _ _
    · intro e; obtain ⟨t, rfl⟩ := Value.isInt_shape e; exact rep_mk_int
  fz := fun _ => trivial
def dkS (x : Cx) : DK x Str where
  knd := PySem.strKind x.prog x.w
  key := .str
  mkO := .dictS
  has := Iff.rfl
  is := by
    intro h k v
    constructor
    · intro r; obtain ⟨t, rfl⟩ := rep_str r; exact strKind_is _ _ _ _
    · intro e; obtain ⟨t, rfl⟩ := Value.isStrOf_shape e; exact rep_mk_str
  fz := fun _ => trivial

theorem look_dict : typeLookup (.type "dict") "__getitem__" = pure (some (.builtin "dict.__getitem__")) := by rw [typeLookup_type, builtinLookup_eq_fast]; kernel_rfl

section
variable {x : Cx} {A : Around} {own : Own} {env : Env} {n : Nat} {nm gn : List Str} {Q : AV → Own → Prop} {K : Type} [DecidableEq K] (D : DK x K)

theorem AVTy.dict {l : Addr} {es : List (K × AV)} (k : Kn x own (l, D.mkO es)) : AVTy x own (.val (.ref l)) "dict" := fun s v R r => by
  rw [rep_val r]
  obtain ⟨_, vs, n, ⟨o, es, e, d, _⟩, _⟩ := D.has.mp (R.kn k)
  exact ⟨⟨_, e, d.1⟩, fun b eb => by cases eb; exact ⟨_, e, d.2.1⟩⟩
theorem D_get {l : Addr} {es : List (K × AV)} {k : K} {a : AV} (kn : Kn x own (l, D.mkO es)) (e : lookK es k = some a) (q : Q a own) : WO x A getI [.val (.ref l), D.key k] own Q := fun vs s R r => by
  obtain ⟨u, v, rfl, r1, r2⟩ := reps2 r
  rw [rep_val r1]
  obtain ⟨_, kvs, ep, hd, rs⟩ := D.has.mp (R.kn kn)
  have := rs.look k
  rw [e] at this
  obtain ⟨w, hw, rw'⟩ := this
  exact wpAny_getItem_of (D.is.mp r2) hd.dictOf.mapOf hw ⟨own, Step.toks R, a, rw', q⟩
theorem D_set {l : Addr} {es : List (K × AV)} {k : K} {a : AV} {own' : Own} {P : Own → Prop} (hz : (es.length : Int) < 10000000) (u : Upd l (D.mkO es) (D.mkO (putK es k a)) own own') (q : P own') :
    WOU x A setI [.val (.ref l), D.key k, a] own P := fun vs s R r => by
  obtain ⟨u1, v, w, rfl, r1, r2, r3⟩ := reps3 r
  rw [rep_val r1]
  have H := R.has _ u.mem
  obtain ⟨ns, kvs, ep, hd, rs⟩ := D.has.mp H
  refine wpAny_setItem_pairs (D.is.mp r2) hd.dictOf (fun h' hd' hs => ?_) (by rw [← rs.length, sizeLine_eq]; omega)
  have tk : TupKeep x.bad s.heap h' := fun b us m _ e => hs.extBut b _ (fun eb => by subst eb; exact H.notTup e) e
  obtain ⟨ep', hd'⟩ := hd'.dictAt
  exact ⟨own', Step.upd R u (fun b o hb e => hs.extBut b o hb e) (D.has.mpr ⟨ns, _, ep', hd', (rs.mono tk).put k (Rep.mono tk _ _ r3)⟩), q⟩
theorem D_get2 {l : Addr} {es : List (K × AV)} {k : K} {d : AV} (kn : Kn x own (l, D.mkO es)) (q : Q ((lookK es k).getD d) own) : WO x A (callv (.builtin "dict.get")) [.val (.ref l), D.key k, d] own Q := fun vs s R r => by
  obtain ⟨u, v, w, rfl, r1, r2, r3⟩ := reps3 r
  rw [rep_val r1]
  obtain ⟨ns, kvs, ep, hd, rs⟩ := D.has.mp (R.kn kn)
  refine call_meetsIn F.slot_dict_get hd.dictOf.typeIs F.entry_dict_get (F.args_dict_get_3 _ _ _) (meets_dict_get_default D.knd l (D.is.mp r2) ns w) ⟨_, hd.dictOf.mapOf, own, Step.toks R, _, ?_, q⟩
  have := rs.look k
  cases e : lookK es k with
  | some a => rw [e] at this; obtain ⟨v', hv, rv⟩ := this; rw [hv]; exact rv
  | none => rw [e] at this; rw [this]; exact r3
theorem D_len {l : Addr} {es : List (K × AV)} (kn : Kn x own (l, D.mkO es)) (hz : (es.length : Int) < 10000000) (q : Q (.int es.length) own) : WO x A (callv (.builtin "len")) [.val (.ref l)] own Q := fun vs s R r => by
  obtain ⟨u, rfl, r1⟩ := reps1 r
  rw [rep_val r1]
  obtain ⟨ns, kvs, ep, hd, rs⟩ := D.has.mp (R.kn kn)
  have hl := rs.length
  exact call_len_dict ns hd.dictOf (by omega) ⟨own, Step.toks R, _, rep_mk_int, by rw [← hl]; exact q⟩
theorem fresh_sys {own : Own} {s : Shared} (R : Rel x own s) : (s.heap.objs.size == sysModules) = false := by
  obtain ⟨mc, ⟨o, es, ep, ho, _⟩, _⟩ := R.lim
  have : @LT.lt Nat _ 2 s.heap.objs.size := Heap.lt_size ho
  have h2 : @Ne Nat s.heap.objs.size 1 := by omega
  exact beq_eq_false_iff_ne.mpr h2
theorem D_new {p : Pos} (q : ∀ d, Q (.val (.ref d)) ((d, D.mkO []) :: own)) : WV x A (eval (.Dict [] [] p) env) own Q := fun s R =>
  wpAny_Dict_empty (by
    obtain ⟨ep, hd⟩ := (Heap.DictOf.new (knd := D.knd) s.heap).dictAt
    exact ⟨_, Step.new (tk := s.toks) R (fun b o e => Heap.get?_push_of_some _ e) (fresh_none _) (D.has.mpr ⟨fresh_sys R, [], ep, hd, .nil⟩), _, rep_mk_val, q _⟩)

/-- list(dict), list(view) -/
theorem list_of {T : String} {r d : Addr} {m : Nat} {P : Nat → Value → Prop} {OK : Heap → Prop} {xs : List AV} (hh : A.handled = none) (k : KdlSrc x.prog x.w T r d m P OK) {s : Shared} (R : Rel x own s) (ok : OK s.heap) (hm : m = xs.length) (hz : (m : Int) < 10000000)
    (hP : ∀ i v, P i v → ∃ a, xs[i]? = some a ∧ Rep x.bad s.heap a v) (q : ∀ D, Q (.val (.ref D)) ((D, .list xs) :: own)) :
    wpAny (model x.prog x.w) A (call (.type "list") [.ref r]) (fun v s' => ∃ own', Step x own s own' s' ∧ ∃ av, Rep x.bad s'.heap av v ∧ Q av own') (fun _ _ => False) s := by
  refine kdl_call k hh ok (by rw [sizeLine_eq]; omega) fun h' tk acc' c' hk hD hacc => ⟨_, Step.new (a := s.heap.objs.size) (o := .list xs) R hk (fresh_none _) ⟨acc', ⟨c', hD⟩, ?_⟩, _, rep_mk_val, q _⟩
  obtain ⟨hl, ha⟩ := hacc
  have tk : TupKeep x.bad s.heap h' := fun b us m _ e => hk _ _ e
  have all : ∀ (xs : List AV) (vs : List Value), xs.length = vs.length → (∀ (i : Nat) v, vs[i]? = some v → ∃ a, xs[i]? = some a ∧ Rep x.bad h' a v) → Reps x.bad h' xs vs := by
    intro xs
    induction xs with
    | nil => intro vs hl _; rw [List.eq_nil_of_length_eq_zero hl.symm]; exact .nil
    | cons a xs ih =>
      intro vs hl h
      cases vs with
      | nil => simp at hl
      | cons v vs =>
        obtain ⟨b, e, rb⟩ := h 0 v rfl
        simp at e; subst e
        exact Reps.cons rb (ih vs (by simpa using hl) fun i w e => by simpa using h (i + 1) w (by simpa using e))
  refine all _ _ (by have : acc'.toList.length = acc'.size := Array.length_toList; omega) fun i v e => ?_
  obtain ⟨a, h1, h2⟩ := hP i v (ha i v (by rw [← Array.getElem?_toList]; exact e))
  exact ⟨a, h1, Rep.mono tk _ _ h2⟩
theorem D_list {l : Addr} {es : List (K × AV)} (hh : A.handled = none) (kn : Kn x own (l, D.mkO es)) (hz : (es.length : Int) < 10000000) (q : ∀ L, Q (.val (.ref L)) ((L, .list (es.map fun e => D.key e.1)) :: own)) : WO x A (callv (.type "list")) [.val (.ref l)] own Q := fun vs s R r => by
  obtain ⟨u, rfl, r1⟩ := reps1 r
  rw [rep_val r1]
  obtain ⟨ns, kvs, ep, hd, rs⟩ := D.has.mp (R.kn kn)
  have hl := rs.length
  refine list_of hh (kdl_dict (knd := D.knd) (kvs := kvs) (ep := ep) ns) R hd (by simp [hl]) (by omega) ?_ q
  rintro i v ⟨k, y, hx, hk⟩
  obtain ⟨a, e, _⟩ := rs.at hx
  exact ⟨D.key k, by rw [List.getElem?_map, e]; rfl, D.is.mpr hk⟩
theorem D_listk {l r : Addr} {es : List (K × AV)} (hh : A.handled = none) (kr : Kn x own (r, .view "dict_keys" l)) (kn : Kn x own (l, D.mkO es)) (hz : (es.length : Int) < 10000000) (q : ∀ L, Q (.val (.ref L)) ((L, .list (es.map fun e => D.key e.1)) :: own)) : WO x A (callv (.type "list")) [.val (.ref r)] own Q := fun vs s R rr => by
  obtain ⟨u, rfl, r1⟩ := reps1 rr
  rw [rep_val r1]
  obtain ⟨ns, kvs, ep, hd, rs⟩ := D.has.mp (R.kn kn)
  obtain ⟨o, ho, hc, _, hdt⟩ := R.kn kr
  have hl := rs.length
  refine list_of hh (kdl_keys (knd := D.knd) (kvs := kvs) (ep := ep) (r := r) (d := l)) R ⟨⟨o, ho, hc, hdt⟩, hd⟩ (by simp [hl]) (by omega) ?_ q
  rintro i v ⟨k, y, hx, hk⟩
  obtain ⟨a, e, _⟩ := rs.at hx
  exact ⟨D.key k, by rw [List.getElem?_map, e]; rfl, D.is.mpr hk⟩
theorem D_listv {l r : Addr} {es : List (K × AV)} (hh : A.handled = none) (kr : Kn x own (r, .view "dict_values" l)) (kn : Kn x own (l, D.mkO es)) (hz : (es.length : Int) < 10000000) (q : ∀ L, Q (.val (.ref L)) ((L, .list (es.map (·.2))) :: own)) : WO x A (callv (.type "list")) [.val (.ref r)] own Q := fun vs s R rr => by
  obtain ⟨u, rfl, r1⟩ := reps1 rr
  rw [rep_val r1]
  obtain ⟨ns, kvs, ep, hd, rs⟩ := D.has.mp (R.kn kn)
  obtain ⟨o, ho, hc, _, hdt⟩ := R.kn kr
  have hl := rs.length
  refine list_of hh (kdl_values (knd := D.knd) (kvs := kvs) (ep := ep) (r := r) (d := l)) R ⟨⟨o, ho, hc, hdt⟩, hd⟩ (by simp [hl]) (by omega) ?_ q
  rintro i v ⟨k, hx⟩
  obtain ⟨a, e, ra⟩ := rs.at hx
  exact ⟨a, by rw [List.getElem?_map, e]; rfl, ra⟩

/-- views -/
theorem V_mk {T : String} {l : Addr} {s : Shared} (R : Rel x own s) (hT : T ≠ "tuple") (q : ∀ v, Q (.val (.ref v)) ((v, .view T l) :: own)) :
    ∃ own', Step x own s own' { s with heap := s.heap.push { cls := .type T, data := .fields #[.ref l] }, toks := s.toks } ∧ ∃ av, Rep x.bad (s.heap.push { cls := .type T, data := .fields #[.ref l] }) av (.ref s.heap.objs.size) ∧ Q av own' :=
  ⟨_, Step.new (o := .view T l) R (fun b o e => Heap.get?_push_of_some _ e) (fresh_none _) ⟨_, Heap.get?_push_size _ rfl, rfl, hT, rfl⟩, _, rep_mk_val, q _⟩

/-- dict comparison -/
def sameK {V : Type} (eqv : V → V → Bool) (a b : List (K × V)) : Bool := a.length == b.length && a.all fun e => match lookK b e.1 with | some y => eqv e.2 y | none => false
end
end
section
section
variable {x : Cx} {A : Around} {own : Own} {env : Env} {n : Nat} {nm gn : List Str} {Q : AV → Own → Prop}

theorem pl_update {h : Heap} {l : Addr} {items : Array Value} (H : h.PlainList l items) (f : Array Value → Array Value) : (h.update l (Obj.mapSeq f)).PlainList l (f items) := by
  obtain ⟨k, e⟩ := H
  exact ⟨_, IsL.update (n := k) e f⟩
theorem upd_list {l : Addr} {xs ys : List AV} {own' : Own} {s : Shared} {f : Array Value → Array Value} {ws : Array Value} (R : Rel x own s) (u : Upd l (.list xs) (.list ys) own own') (pl : s.heap.PlainList l ws)
    (r : Reps x.bad (s.heap.update l (Obj.mapSeq f)) ys (f ws).toList) : Step x own s own' { s with heap := s.heap.update l (Obj.mapSeq f), toks := s.toks } :=
  Step.upd R u (fun b o hb e => (Heap.get?_update_other _ _ (Ne.symm hb)).trans e) ⟨_, pl_update pl f, r⟩
theorem tk_list {l : Addr} {own' : Own} {xs : List AV} {s : Shared} {f : Obj → Obj} (R : Rel x own s) (k : (l, AObj.list xs) ∈ own) : TupKeep x.bad s.heap (s.heap.update l f) := fun b us m _ e =>
  (Heap.get?_update_other _ _ (fun q => by subst q; exact (R.has _ k).notTup e)).trans e

theorem L_append {l : Addr} {xs : List AV} {a : AV} {own' : Own} (hz : (xs.length : Int) < 10000000) (u : Upd l (.list xs) (.list (xs ++ [a])) own own') (q : Q (.val .none) own') : WO x A (callv (.builtin "list.append")) [.val (.ref l), a] own Q := fun vs s R r => by
  obtain ⟨v1, v2, rfl, r1, r2⟩ := reps2 r
  rw [rep_val r1]
  obtain ⟨ws, pl, rs⟩ := R.has _ u.mem
  have pl : s.heap.PlainList l ws := pl
  have hl := rs.length
  obtain ⟨k, e⟩ := id pl
  have tk := tk_list (own' := own) (f := Obj.mapSeq fun y => y.push v2) R u.mem
  refine call_meets F.slot_list_append ⟨_, e, rfl⟩ F.entry_list_append (F.args_list_append_2 _ _) (PySem.list_append l ws k v2 (by simp at hl; rw [sizeLine_eq]; omega)) ⟨e, own', upd_list R u pl ?_, _, rep_mk_val, q⟩
  rw [Array.toList_push]
  exact Reps.append (Reps.mono tk _ _ rs) (Reps.cons (Rep.mono tk _ _ r2) .nil)
theorem L_extend {l b : Addr} {xs ys : List AV} {own' : Own} (hz : (xs.length : Int) + ys.length < 10000000) (kb : Kn x own (b, .list ys)) (u : Upd l (.list xs) (.list (xs ++ ys)) own own') (q : Q (.val .none) own') : WO x A (callv (.builtin "list.extend")) [.val (.ref l), .val (.ref b)] own Q := fun vs s R r => by
  obtain ⟨v1, v2, rfl, r1, r2⟩ := reps2 r
  rw [rep_val r1, rep_val r2]
  obtain ⟨ws, pl, rs⟩ := R.has _ u.mem
  have pl : s.heap.PlainList l ws := pl
  obtain ⟨us, pb, rb⟩ := R.kn kb
  have hl := rs.length
  have hb := rb.length
  obtain ⟨k, e⟩ := id pl
  obtain ⟨k2, e2⟩ := id pb
  have hz' : ws.size + us.size ≤ sizeLine := by simp at hl hb; rw [sizeLine_eq]; omega
  have tk := tk_list (own' := own) (f := Obj.mapSeq fun y => y ++ us) R u.mem
  refine call_meets F.slot_list_extend ⟨_, e, rfl⟩ F.entry_list_extend (F.args_list_extend_2 _ _) (AutoSeq1.list_extend_list_list_0 l ws k b us k2 (extend_door hz') (by omega) (by omega)) ⟨e, e2, own', upd_list R u pl ?_, _, rep_mk_val, q⟩
  rw [Array.toList_append]
  exact Reps.append (Reps.mono tk _ _ rs) (Reps.mono tk _ _ rb)
theorem L_insert {l : Addr} {xs : List AV} {a : AV} {i : Int} {own' : Own} (h0 : 0 ≤ i) (h1 : i ≤ xs.length) (hz : (xs.length : Int) < 10000000) (u : Upd l (.list xs) (.list (xs.take i.toNat ++ a :: xs.drop i.toNat)) own own') (q : Q (.val .none) own') :
    WO x A (callv (.builtin "list.insert")) [.val (.ref l), .int i, a] own Q := fun vs s R r => by
  obtain ⟨v1, v2, v3, rfl, r1, r2, r3⟩ := reps3 r
  rw [rep_val r1]
  obtain ⟨t, rfl⟩ := rep_int r2
  obtain ⟨ws, pl, rs⟩ := R.has _ u.mem
  have pl : s.heap.PlainList l ws := pl
  have hl := rs.length
  obtain ⟨k, e⟩ := id pl
  have hfit : PySem.Builtin.List.listFitsIndex i = true := fitsIndex_of h0 (by omega)
  refine call_meets F.slot_list_insert ⟨_, e, rfl⟩ F.entry_list_insert (F.args_list_insert_3 _ _ _) (AutoSeq1.list_insert_list_int_val_1 l ws k i t v3 (by simp [hfit]) (by simp at hl; rw [sizeLine_eq]; omega)) ⟨e, own', upd_list R u pl ?_, _, rep_mk_val, q⟩
  have hmin : (if i < 0 then (i + (ws.size : Int)).toNat else min i.toNat ws.size) = i.toNat := by
    rw [if_neg (by omega)]; simp at hl; omega
  simp only [hmin]
  have tk := tk_list (own' := own) (f := Obj.mapSeq fun xs => have k := if i < 0 then (i + (xs.size : Int)).toNat else min i.toNat xs.size; (xs.extract 0 k).push v3 ++ xs.extract k) R u.mem
  have e3 : ((ws.extract 0 i.toNat).push v3 ++ ws.extract i.toNat).toList = ws.toList.take i.toNat ++ v3 :: ws.toList.drop i.toNat := by
    have := kl_ins_eq ws.toList i.toNat v3
    rw [Array.toArray_toList] at this
    rw [this]
  rw [e3]
  exact Reps.append (Reps.take _ (Reps.mono tk _ _ rs)) (Reps.cons (Rep.mono tk _ _ r3) (Reps.drop _ (Reps.mono tk _ _ rs)))
theorem L_pop0 {l : Addr} {xs : List AV} {a : AV} {own' : Own} (hz : (xs.length : Int) < 10000000) (u : Upd l (.list (a :: xs)) (.list xs) own own') (q : Q a own') :
    WO x A (callv (.builtin "list.pop")) [.val (.ref l), .int 0] own Q := fun vs s R r => by
  obtain ⟨v1, v2, rfl, r1, r2⟩ := reps2 r
  rw [rep_val r1]
  obtain ⟨t, rfl⟩ := rep_int r2
  obtain ⟨ws, pl, rs⟩ := R.has _ u.mem
  have pl : s.heap.PlainList l ws := pl
  have hl := rs.length
  obtain ⟨k, e⟩ := id pl
  simp only [Reps] at rs
  obtain ⟨v, us, ev, rv, rus⟩ := rs
  have ews : ws = (v :: us).toArray := by rw [← ev, Array.toArray_toList]
  subst ews
  have tk := tk_list (own' := own) (f := Obj.mapSeq fun xs => xs.eraseIdxIfInBounds 0) R u.mem
  refine call_meets F.slot_list_pop ⟨_, e, rfl⟩ F.entry_list_pop (F.args_list_pop_2 _ _) (MeetsSeq.list_pop_at l _ k 0 t 0 v (by decide) (by simp [seqIndex?]) (by simp) (by simp at hl ⊢; rw [sizeLine_eq]; omega)) ⟨e, own', upd_list R u pl ?_, a, Rep.mono tk _ _ rv, q⟩
  have := kl_erase [] us v
  simp only [List.nil_append, List.length_nil] at this
  rw [this]
  exact Reps.mono tk _ _ rus
theorem O_catl {l b : Addr} {xs ys : List AV} (hz : (xs.length : Int) + ys.length < 10000000) (ka : Kn x own (l, .list xs)) (kb : Kn x own (b, .list ys)) (q : ∀ D, Q (.val (.ref D)) ((D, .list (xs ++ ys)) :: own)) : WO x A (bop .Add) [.val (.ref l), .val (.ref b)] own Q := fun vs s R r => by
  obtain ⟨v1, v2, rfl, r1, r2⟩ := reps2 r
  rw [rep_val r1, rep_val r2]
  obtain ⟨ws, pl, rs⟩ := R.kn ka
  obtain ⟨us, pb, rb⟩ := R.kn kb
  have hl := rs.length
  have hb := rb.length
  obtain ⟨k, e⟩ := id pl
  obtain ⟨k2, e2⟩ := id pb
  have gr : ∀ b o, s.heap.get? b = some o → (s.heap.push { cls := .type "list", data := .seq (ws ++ us) }).get? b = some o := fun b o e => Heap.get?_push_of_some _ e
  have tk : TupKeep x.bad s.heap (s.heap.push { cls := .type "list", data := .seq (ws ++ us) }) := fun b us m _ e => gr _ _ e
  refine P.add_list e e2 ⟨_, Step.new (tk := s.toks) (a := s.heap.objs.size) (o := .list (xs ++ ys)) R gr (fresh_none _) ⟨ws ++ us, ⟨_, Heap.get?_push_size _ rfl⟩, ?_⟩, _, rep_mk_val, q _⟩ (by simp at hl hb; rw [sizeLine_eq]; omega)
  rw [Array.toList_append]
  exact Reps.append (Reps.mono tk _ _ rs) (Reps.mono tk _ _ rb)

def sortI (l : List Int) : List Int := l.mergeSort (fun a b => decide (a ≤ b))
theorem sortI_perm (l : List Int) : (sortI l).Perm l := List.mergeSort_perm ..
theorem sortI_pair (l : List Int) : (sortI l).Pairwise (· ≤ ·) := by
  have := List.pairwise_mergeSort (le := fun a b : Int => decide (a ≤ b)) (by intro a b c; simp; omega) (by intro a b; simp; omega) l
  exact this.imp fun h => by simpa using h
theorem ints_reps {B : List Addr} {h : Heap} {ns : List Int} {vs : List Value} (r : IntsAre vs ns) : Reps B h (ns.map .int) vs := by
  induction r with
  | nil => exact .nil
  | cons k t _ ih => exact Reps.cons rep_mk_int ih
theorem sort_tree {l : Addr} {ns : List Int} {s : Shared} {A' : Around} (R : Rel x own s) {own' : Own} (u : Upd l (.list (ns.map .int)) (.list ((sortI ns).map .int)) own own') (h64 : ns.length < 64) {Q : Value → Shared → Prop} {E : Value → Shared → Prop}
    (q : ∀ h', Step x own s own' { s with heap := h', toks := s.toks } → Q .none { s with heap := h' }) : wpAny (model x.prog x.w) A' (call (.builtin "list.sort") [.ref l]) Q E s := by
  obtain ⟨ws, pl, rs⟩ := R.has _ u.mem
  have pl : s.heap.PlainList l ws := pl
  obtain ⟨k, e⟩ := id pl
  have hi := reps_ints rs
  have hl := hi.length
  refine wpAny_call_entry PyProof.Rows.slot_list_sort ⟨_, e, rfl⟩ PyProof.Rows.entry_list_sort (list_sort_tree (n := k) (vs := ws.toList) (by rw [Array.toArray_toList]; exact e) hi (by omega) fun out ns' hI hp hP => ⟨.none, rfl, q _ ?_⟩) (PyProof.Rows.args_list_sort _)
  have en : ns' = sortI ns := lks_uniq (hp.trans (sortI_perm ns).symm) hP (sortI_pair ns)
  subst en
  obtain ⟨e', he⟩ := sortedHeap_at (vs := ws.toList) (out := out) (n := k) (a := l) (h := s.heap) (by rw [Array.toArray_toList]; exact e)
  exact Step.upd R u (fun b o hb eb => (sortedHeap_old hb (Heap.lt_size eb)).trans eb) ⟨out, ⟨_, he⟩, ints_reps hI⟩
theorem L_sort {l : Addr} {ns : List Int} {own' : Own} (h64 : ns.length < 64) (u : Upd l (.list (ns.map .int)) (.list ((sortI ns).map .int)) own own') (q : Q (.val .none) own') : WO x A (callv (.builtin "list.sort")) [.val (.ref l)] own Q := fun vs s R r => by
  obtain ⟨v1, rfl, r1⟩ := reps1 r
  rw [rep_val r1]
  exact sort_tree R u h64 fun h' S => ⟨own', S, _, rep_mk_val, q⟩
theorem T_list {l : Addr} {xs : List AV} {Q : Bool → Own → Prop} (kn : Kn x own (l, .list xs)) (hz : (xs.length : Int) < 10000000) (h1 : xs ≠ [] → Q true own) (h2 : xs = [] → Q false own) : WT x A (.val (.ref l)) own Q := fun v s R r => by
  rw [rep_val r]
  obtain ⟨ws, pl, rs⟩ := R.kn kn
  have hl := rs.length
  refine wpAny_truthy_list pl.isList (by simp at hl; omega) ⟨own, Step.toks R, ?_⟩
  cases xs with
  | nil =>
    have e : ws.isEmpty = true := by simp at hl; simp [Array.isEmpty, ← hl]
    rw [e]; exact h2 rfl
  | cons a xs =>
    have e : ws.isEmpty = false := by
      cases ws with | mk l => cases l with
        | nil => simp at hl
        | cons => rfl
    rw [e]; exact h1 (by simp)
end
end
section
open PySem PySem.W PyProof.Rows PySem.SeqAt

section
variable {P : Program} {W : World} {K : Type} [DecidableEq K] {knd : HeapKind P W K} {key : K → AV} {B : List Addr} {h : Heap}
theorem TKs.look {es : List (K × AV)} {xs : List (K × Addr × Value)} (r : TKs key B h es xs) (k : K) :
    match lookK es k with | some a => ∃ p, atKey xs k = some p ∧ Rep B h a p.2 | none => atKey xs k = none := by
  induction r with
  | nil => exact rfl
  | @cons k' y a v l l' ra rv _ ih =>
    unfold lookK atKey at ih ⊢
    simp only [List.find?_cons]
    by_cases e : k' = k
    · simp only [e, decide_true, Option.map_some]; exact ⟨_, rfl, rv⟩
    · simp only [e, decide_false]; exact ih
theorem TKs.any {es : List (K × AV)} {xs : List (K × Addr × Value)} (r : TKs key B h es xs) (k : K) : es.any (fun e => e.1 = k) = (atKey xs k).isSome := by
  induction r with
  | nil => rfl
  | @cons k' y a v l l' ra rv _ ih =>
    unfold atKey at ih ⊢
    simp only [List.find?_cons, List.any_cons]
    by_cases e : k' = k
    · simp [e]
    · simp [e, ih]
theorem TKs.put {es : List (K × AV)} {xs : List (K × Addr × Value)} (r : TKs key B h es xs) (k : K) {a : Addr} {y : AV} {v : Value} (rk : Rep B h (key k) (.ref a)) (rv : Rep B h y v) : TKs key B h (putK es k y) (storedH xs k a v) := by
  unfold putK storedH
  rw [r.any k]
  split
  · rename_i hc; clear hc
    induction r with
    | nil => exact .nil
    | @cons k' y' a' v' l l' ra' rv' _ ih =>
      simp only [List.map_cons, putAt]
      by_cases e : k' = k
      · simp only [e, if_true]; exact .cons (e ▸ ra') rv ih
      · simp only [e, if_false]; exact .cons ra' rv' ih
  · rename_i hc; clear hc
    induction r with
    | nil => exact .cons rk rv .nil
    | cons ra' rv' _ ih => exact .cons ra' rv' ih
theorem TKs.length {es : List (K × AV)} {xs : List (K × Addr × Value)} (r : TKs key B h es xs) : es.length = xs.length := by
  induction r with
  | nil => rfl
  | cons _ _ _ ih => simp [ih]
theorem TKs.all {es : List (K × AV)} {xs : List (K × Addr × Value)} (r : TKs key B h es xs) : ∀ p ∈ xs, Rep B h (key p.1) (.ref p.2.1) := by
  induction r with
  | nil => intro p hp; simp at hp
  | cons ra _ _ ih => intro p hp; rcases List.mem_cons.mp hp with rfl | hp
                      · exact ra
                      · exact ih p hp
end
structure DH (x : Cx) (K : Type) [DecidableEq K] where
  knd : HeapKind x.prog x.w K
  key : K → AV
  mkO : List (K × AV) → AObj
  has : ∀ {h a es}, Has x.prog x.w x.bad h a (mkO es) ↔ ((a == sysModules) = false ∧ DT knd key x.bad h a es)
  is : ∀ {h k a}, Rep x.bad h (key k) (.ref a) → knd.is h k a
  ref : ∀ {h k v}, Rep x.bad h (key k) v → ∃ a, v = .ref a
  room : ∀ A : Around, A.units + 1 < cLine → knd.room A.in1
  fz : ∀ es, (mkO es).fz
theorem items_int {x : Cx} {h : Heap} : ∀ {ks : List Int} {vs : List Value}, Reps x.bad h (ks.map .int) vs → ItemsAre (intKind x.prog x.w) ks vs
  | [], vs, r => by simp only [List.map_nil, Reps] at r; subst r; exact .nil
  | k :: ks, vs, r => by
    simp only [List.map_cons, Reps] at r
    obtain ⟨v, ws, rfl, r1, r2⟩ := r
    exact .cons ((dkI x).is.mp r1) (items_int r2)
theorem items_str {x : Cx} {h : Heap} : ∀ {ks : List Str} {vs : List Value}, Reps x.bad h (ks.map .str) vs → ItemsAre (PySem.strKind x.prog x.w) ks vs
  | [], vs, r => by simp only [List.map_nil, Reps] at r; subst r; exact .nil
  | k :: ks, vs, r => by
    simp only [List.map_cons, Reps] at r
    obtain ⟨v, ws, rfl, r1, r2⟩ := r
    exact .cons ((dkS x).is.mp r1) (items_str r2)
def dhI (x : Cx) : DH x (List Int) where
  knd := tupleKind (intKind x.prog x.w)
  key := fun ks => .tup (ks.map .int)
  mkO := .dictTI
  has := Iff.rfl
  is := by
    intro h k a r
    obtain ⟨b, vs, m, e, _, eo, rs⟩ := rep_tup r
    cases e
    exact ⟨_, vs, m, eo, rfl, rfl, items_int rs⟩
  ref := by intro h k v r; obtain ⟨b, vs, m, e, _⟩ := rep_tup r; exact ⟨b, e⟩
  room := fun A hu => hu
  fz := fun _ => trivial
def dhS (x : Cx) : DH x (List Str) where
  knd := tupleKind (PySem.strKind x.prog x.w)
  key := fun ks => .tup (ks.map .str)
  mkO := .dictTS
  has := Iff.rfl
  is := by
    intro h k a r
    obtain ⟨b, vs, m, e, _, eo, rs⟩ := rep_tup r
    cases e
    exact ⟨_, vs, m, eo, rfl, rfl, items_str rs⟩
  ref := by intro h k v r; obtain ⟨b, vs, m, e, _⟩ := rep_tup r; exact ⟨b, e⟩
  room := fun A hu => hu
  fz := fun _ => trivial

section
variable {x : Cx} {A : Around} {own : Own} {env : Env} {n : Nat} {nm gn : List Str} {Q : AV → Own → Prop} {K : Type} [DecidableEq K] (D : DH x K)

theorem DT.ofH {h : Heap} {a : Addr} {es : List (K × AV)} (H : DT D.knd D.key x.bad h a es) : ∃ xs, h.DictOfH D.knd a xs ∧ TKs D.key x.bad h es xs := by
  obtain ⟨o, ds, ep, xs, e, d1, d2, d3, d4, r⟩ := H
  exact ⟨xs, ⟨o, ds, ep, e, d1, d2, d3, fun p hp => D.is (r.all p hp), d4⟩, r⟩
theorem DT.toH {h : Heap} {a : Addr} {es : List (K × AV)} {xs : List (K × Addr × Value)} (H : h.DictOfH D.knd a xs) (r : TKs D.key x.bad h es xs) : DT D.knd D.key x.bad h a es := by
  obtain ⟨o, ds, ep, e, d1, d2, d3, _, d4⟩ := H
  exact ⟨o, ds, ep, xs, e, d1, d2, d3, d4, r⟩
theorem AVTy.dictH {l : Addr} {es : List (K × AV)} (k : Kn x own (l, D.mkO es)) : AVTy x own (.val (.ref l)) "dict" := fun s v R r => by
  rw [rep_val r]
  obtain ⟨_, o, ds, ep, xs, e, d1, _⟩ := D.has.mp (R.kn k)
  exact ⟨⟨_, e, d1.1⟩, fun b eb => by cases eb; exact ⟨_, e, d1.2.1⟩⟩
theorem H_set {l : Addr} {es : List (K × AV)} {k : K} {a : AV} {own' : Own} {P : Own → Prop} (hl : Lv (n + 1) A) (hz : (es.length : Int) < 10000000) (u : Upd l (D.mkO es) (D.mkO (putK es k a)) own own') (q : P own') :
    WOU x A setI [.val (.ref l), D.key k, a] own P := fun vs s R r => by
  obtain ⟨u1, v, w, rfl, r1, r2, r3⟩ := reps3 r
  rw [rep_val r1]
  have H := R.has _ u.mem
  obtain ⟨ns, hd⟩ := D.has.mp H
  obtain ⟨xs, hd, rs⟩ := DT.ofH D hd
  obtain ⟨ka, rfl⟩ := D.ref r2
  refine wpAny_setItem_heap (D.room A (by have := hl.uni; omega)) (D.is r2) hd (fun h' hd' hs => ?_) (by rw [← rs.length, sizeLine_eq]; omega)
  have tk : TupKeep x.bad s.heap h' := fun b us m _ e => hs.extBut b _ (fun eb => by subst eb; exact H.notTup e) e
  exact ⟨own', Step.upd R u (fun b o hb e => hs.extBut b o hb e) (D.has.mpr ⟨ns, DT.toH D hd' ((rs.mono tk).put k (Rep.mono tk _ _ r2) (Rep.mono tk _ _ r3))⟩), q⟩
theorem H_get1 {l : Addr} {es : List (K × AV)} {k : K} (hl : Lv (n + 1) A) (kn : Kn x own (l, D.mkO es)) (q : Q ((lookK es k).getD (.val .none)) own) : WO x A (callv (.builtin "dict.get")) [.val (.ref l), D.key k] own Q := fun vs s R r => by
  obtain ⟨u, v, rfl, r1, r2⟩ := reps2 r
  rw [rep_val r1]
  obtain ⟨ns, hd⟩ := D.has.mp (R.kn kn)
  obtain ⟨xs, hd, rs⟩ := DT.ofH D hd
  obtain ⟨ka, rfl⟩ := D.ref r2
  refine call_meetsIn F.slot_dict_get hd.typeIs F.entry_dict_get (F.args_dict_get_2 _ _) (meetsH_dict_get D.knd l ka ns) ⟨D.room A (by have := hl.uni; omega), k, xs, D.is r2, hd, own, Step.toks R, _, ?_, q⟩
  have := rs.look k
  cases e : lookK es k with
  | some a => rw [e] at this; obtain ⟨p, hp, rv⟩ := this; rw [hp]; exact rv
  | none => rw [e] at this; rw [this]; exact rep_mk_val
theorem H_new {p : Pos} (q : ∀ d, Q (.val (.ref d)) ((d, D.mkO []) :: own)) : WV x A (eval (.Dict [] [] p) env) own Q := fun s R =>
  wpAny_Dict_empty ⟨_, Step.new (tk := s.toks) R (fun b o e => Heap.get?_push_of_some _ e) (fresh_none _) (D.has.mpr ⟨fresh_sys R, _, #[], 0, [], Heap.get?_push_size _ rfl, ⟨rfl, rfl, rfl⟩, rfl, rfl, List.nodup_nil, .nil⟩), _, rep_mk_val, q _⟩
theorem H_len {l : Addr} {es : List (K × AV)} (kn : Kn x own (l, D.mkO es)) (hz : (es.length : Int) < 10000000) (q : Q (.int es.length) own) : WO x A (callv (.builtin "len")) [.val (.ref l)] own Q := fun vs s R r => by
  obtain ⟨u, rfl, r1⟩ := reps1 r
  rw [rep_val r1]
  obtain ⟨ns, hd⟩ := D.has.mp (R.kn kn)
  obtain ⟨xs, hd, rs⟩ := DT.ofH D hd
  have hl := rs.length
  obtain ⟨o, ds, ep, e, d1, d2, d3, _, d4⟩ := id hd
  have hT : s.TypeIs (.ref l) "dict" := hd.typeIs
  have hsz : ds.size = es.length := by rw [hl, ← Array.length_toList, d3, List.length_map]
  refine Calls.call_function_entry kind_len plain_len entry_len (args_len1 _) ?_
  unfold Builtin.«len»
  refine wpAny_bind (m := oneArg "len" _) (wpAny_pure ?_)
  have body : MeetsIn x.prog x.w (Builtin.«dict.__len__» ⟨[.ref l], []⟩) (fun _ R s' => s' = s ∧ R (.ok (.ret (.int es.length s.toks))) { s with toks := s.toks + 1 }) :=
    .of_wp fun A R s' ⟨e1, h⟩ => by
      subst e1
      show wpAny _ _ (dictSize l >>= _) _ _ _
      unfold dictSize
      refine wpAny_bind (wpAny_bind (wpAny_dictEntries e d2 (wpAny_pure ?_)))
      show wpAny _ _ (Builtin.Dict.pendingCount l >>= _) _ _ _
      refine wpAny_bind (wpAny_pendingCount_other ns ?_)
      refine wpAny_ret_mkInt ?_
      rw [Nat.add_zero, hsz]; exact h
  refine wpAny_bind (m := callSpecial? (.ref l) (Str.ofString "__len__")) (wpAny_callSpecial?_slot (name := Str.ofString "__len__") hT F.slot_dict_len
    (call_meetsIn F.slot_dict_len hT F.entry_dict_len (F.args_dict_len_1 _) body ⟨rfl, ?_⟩))
  show wpAny _ _ _ _ _ { s with toks := s.toks + 1 }
  refine wpAny_bind (wpAny_holding (wpAny_pure ?_))
  refine wpAny_bind (wpAny_letGo ?_)
  show wpAny _ _ (if ((es.length : Nat) : Int) < 0 then _ else _) _ _ _
  rw [if_neg (by omega)]
  show wpAny _ _ (if ((es.length : Nat) : Int) ≥ 2 ^ 63 then _ else _) _ _ _
  rw [if_neg (by omega)]
  exact wpAny_bind (wpAny_mkInt (wpAny_pure ⟨_, rfl, own, Step.toks R, _, rep_mk_int, q⟩))

/-- views of a dict -/
theorem C_items {l : Addr} {es : List (K × AV)} (kn : Kn x own (l, D.mkO es)) (q : ∀ v, Q (.val (.ref v)) ((v, .view "dict_items" l) :: own)) : WO x A (callv (.builtin "dict.items")) [.val (.ref l)] own Q := fun vs s R r => by
  obtain ⟨u, rfl, r1⟩ := reps1 r
  rw [rep_val r1]
  obtain ⟨ns, hd⟩ := D.has.mp (R.kn kn)
  obtain ⟨xs, hd, rs⟩ := DT.ofH D hd
  have hT : s.TypeIs (.ref l) "dict" := hd.typeIs
  have body : MeetsIn x.prog x.w (Builtin.«dict.items» ⟨[.ref l], []⟩) (fun _ R s' => s' = s ∧ R (.ok (.ret (.ref s.heap.objs.size))) { s with heap := s.heap.push { cls := .type "dict_items", data := .fields #[.ref l] } }) :=
    .of_wp fun A R s' ⟨e1, h⟩ => by
      subst e1
      unfold Builtin.«dict.items»
      refine wpAny_bind ?_
      unfold Builtin.Dict.noArgs
      refine wpAny_bind (wpAny_notOrdered_dict hT ?_)
      show wpAny _ _ (pure l) _ _ _
      refine wpAny_pure ?_
      show wpAny _ _ (Builtin.Dict.showsAll l >>= _) _ _ _
      unfold Builtin.Dict.showsAll
      rw [if_neg (by rw [ns]; exact Bool.false_ne_true)]
      refine wpAny_bind (wpAny_pure ?_)
      exact wpAny_bind (wpAny_newObj_type (wpAny_pure ⟨_, rfl, h⟩))
  refine call_meetsIn F.slot_dict_items hT F.entry_dict_items (F.args_dict_items_1 _) body ⟨rfl, ?_⟩
  obtain ⟨own', S, av, ra, qq⟩ := V_mk (Q := Q) (T := "dict_items") (l := l) R (by decide) q
  exact ⟨own', S, av, ra, qq⟩
end
section
variable {x : Cx} {A : Around} {own : Own} {env : Env} {n : Nat} {nm gn : List Str} {Q : AV → Own → Prop} {K : Type} [DecidableEq K] (D : DK x K)
theorem C_keys {l : Addr} {es : List (K × AV)} (kn : Kn x own (l, D.mkO es)) (q : ∀ v, Q (.val (.ref v)) ((v, .view "dict_keys" l) :: own)) : WO x A (callv (.builtin "dict.keys")) [.val (.ref l)] own Q := fun vs s R r => by
  obtain ⟨u, rfl, r1⟩ := reps1 r
  rw [rep_val r1]
  obtain ⟨ns, kvs, ep, hd, rs⟩ := D.has.mp (R.kn kn)
  obtain ⟨own', S, av, ra, qq⟩ := V_mk (Q := Q) (T := "dict_keys") (l := l) R (by decide) q
  exact call_meetsIn F.slot_dict_keys hd.dictOf.typeIs F.entry_dict_keys (F.args_dict_keys_1 _) (kdl_meets_keys D.knd l ns) ⟨⟨_, hd.dictOf⟩, own', S, av, ra, qq⟩
theorem C_values {l : Addr} {es : List (K × AV)} (kn : Kn x own (l, D.mkO es)) (q : ∀ v, Q (.val (.ref v)) ((v, .view "dict_values" l) :: own)) : WO x A (callv (.builtin "dict.values")) [.val (.ref l)] own Q := fun vs s R r => by
  obtain ⟨u, rfl, r1⟩ := reps1 r
  rw [rep_val r1]
  obtain ⟨ns, kvs, ep, hd, rs⟩ := D.has.mp (R.kn kn)
  obtain ⟨own', S, av, ra, qq⟩ := V_mk (Q := Q) (T := "dict_values") (l := l) R (by decide) q
  exact call_meetsIn F.slot_dict_values hd.dictOf.typeIs F.entry_dict_values (F.args_dict_values_1 _) (meets_dict_values D.knd l ns) ⟨⟨_, hd.dictOf⟩, own', S, av, ra, qq⟩
/-- sorted(dict of ints) -/
theorem D_sorted {l : Addr} {es : List (Int × AV)} (hh : A.handled = none) (kn : Kn x own (l, .dictI es)) (h64 : es.length < 64) (q : ∀ L, Q (.val (.ref L)) ((L, .list ((sortI (es.map (·.1))).map .int)) :: own)) : WO x A (callv (.builtin "sorted")) [.val (.ref l)] own Q := fun vs s R r => by
  obtain ⟨u, rfl, r1⟩ := reps1 r
  rw [rep_val r1]
  obtain ⟨ns, kvs, ep, hd, rs⟩ := (dkI x).has.mp (R.kn kn)
  have hl := rs.length
  refine PySem.Calls.call_function_entry PyProof.Rows.kind_sorted PyProof.Rows.plain_sorted PyProof.Rows.entry_sorted (PyProof.Rows.args_sorted1 _) ?_
  unfold Builtin.«sorted»
  refine wpAny_bind (m := checkCount "sorted" 1 1 _) (wpAny_pure ?_)
  refine wpAny_bind (kdu_collect (A := A.in1) (kdl_dict (knd := intKind x.prog x.w) (kvs := kvs) (ep := ep) ns) hh hd (by rw [sizeLine_eq]; omega) fun h' tk acc hk hacc => ?_)
  have hla : acc.toList.length = es.length := by rw [Array.length_toList, hacc.1, hl]
  refine wpAny_bind (wpAny_newList ?_ (by rw [hla, sizeLine_eq]; omega))
  have gr : ∀ b o, s.heap.get? b = some o → (h'.push { cls := .type "list", data := .seq acc.toList.toArray }).get? b = some o := fun b o e => Heap.get?_push_of_some _ (hk b o e)
  have hints : IntsAre acc.toList (es.map (·.1)) := by
    have all : ∀ (es : List (Int × AV)) (vs : List Value), vs.length = es.length → (∀ (j : Nat) v, vs[j]? = some v → ∃ k, (es.map (·.1))[j]? = some k ∧ ∃ t, v = .int k t) → IntsAre vs (es.map (·.1)) := by
      intro es
      induction es with
      | nil => intro vs hl _; rw [List.eq_nil_of_length_eq_zero hl]; exact .nil
      | cons e es ih =>
        intro vs hl h
        cases vs with
        | nil => simp at hl
        | cons v vs =>
          obtain ⟨k, ek, t, rfl⟩ := h 0 v rfl
          simp at ek; subst ek
          exact .cons _ t (ih vs (by simpa using hl) fun j w e => by simpa using h (j + 1) w (by simpa using e))
    refine all es _ hla fun j v e => ?_
    obtain ⟨k, y, hx, hkk⟩ := hacc.2 j v (by rw [← Array.getElem?_toList]; exact e)
    obtain ⟨a, e2, _⟩ := rs.at hx
    obtain ⟨t, rfl⟩ := Value.isInt_shape hkk
    exact ⟨k, by rw [List.getElem?_map, e2]; rfl, t, rfl⟩
  have hfr : s.heap.get? h'.objs.size = none := by
    cases e : s.heap.get? h'.objs.size with
    | none => rfl
    | some o => have := hk _ _ e; rw [fresh_none] at this; cases this
  have S1 : Step x own s ((h'.objs.size, .list ((es.map (·.1)).map .int)) :: own) { s with heap := h'.push { cls := .type "list", data := .seq acc.toList.toArray }, toks := tk } :=
    Step.new R gr hfr ⟨acc.toList.toArray, ⟨_, Heap.get?_push_size _ rfl⟩, ints_reps hints⟩
  refine wpAny_bind (wpAny_holding (sort_tree S1.rel .z (by rw [List.length_map]; exact h64) fun h'' S2 => ?_))
  exact wpAny_pure ⟨_, rfl, _, S1.trans S2, _, rep_mk_val, q _⟩
end
end
section
open PySem PySem.W PyProof.Rows PySem.SeqAt

theorem tuple_neAt (l b : Addr) (items items2 : Array Value) (n n2 : Nat) (dd dd2 : Option Addr) (sl sl2 : Array (Option Value)) (e : Nat → Bool) :
    Meets (Builtin.«tuple.__ne__» ⟨[.ref l, .ref b], []⟩)
      (fun A R s => s.heap.get? l = some { cls := .type "tuple", dict := dd, data := .seq items n, slots := sl } ∧ s.heap.get? b = some { cls := .type "tuple", dict := dd2, data := .seq items2 n2, slots := sl2 } ∧
        (∀ j (h1 : j < items.size) (h2 : j < items2.size), EqAt A.in1 s items[j] items2[j] (e j)) ∧
        R (.ok (.ret (.bool (!((List.range (min items.size items2.size)).all e && items.size == items2.size))))) s) :=
  .of_wp fun prog w A R s h => by
    obtain ⟨hp, g, d, tk, os⟩ := s; obtain ⟨hl, hb, he, h⟩ := h
    have f2 := AutoSeq1.sub_tuple_tuple
    have hZ : (items.toList.zip items2.toList).length = min items.size items2.size := by simp
    wp_walk using wpAny_loadPart' hl, wpAny_loadPart' hb, wpAny_forIn_list _ (fun rest b s' => b.1 = none ∧ s' = ⟨hp, g, d, tk, os⟩ ∧ ∃ i, rest = (items.toList.zip items2.toList).drop i ∧
      R (.ok (.ret (.bool (!(((List.range (min items.size items2.size)).drop i).all e && items.size == items2.size))))) ⟨hp, g, d, tk, os⟩) _
    case turn =>
      rintro ⟨y, x⟩ rest b s' ⟨hb', rfl, i, hz, hR⟩
      have hlt : i < (items.toList.zip items2.toList).length := by
        rcases Nat.lt_or_ge i (items.toList.zip items2.toList).length with h' | h'
        · exact h'
        · rw [List.drop_of_length_le h'] at hz; cases hz
      have hm : i < min items.size items2.size := hZ ▸ hlt
      have h1 : i < items.size := Nat.lt_of_lt_of_le hm (Nat.min_le_left _ _)
      have h2 : i < items2.size := Nat.lt_of_lt_of_le hm (Nat.min_le_right _ _)
      rw [List.drop_eq_getElem_cons hlt] at hz
      injection hz with hyx hrest
      have hy : y = items[i] := by have := congrArg Prod.fst hyx; simpa using this
      have hx : x = items2[i] := by have := congrArg Prod.snd hyx; simpa using this
      subst hy hx
      have hd : (List.range (min items.size items2.size)).drop i = i :: (List.range (min items.size items2.size)).drop (i + 1) := by simp [List.drop_eq_getElem_cons, hm]
      rw [hd, List.all_cons] at hR
      refine wpAny_bind (he i h1 h2 prog w _ _ ?_)
      cases hy : e i with
      | true =>
        rw [hy] at hR
        wp_walk
        exact ⟨rfl, rfl, i + 1, hrest, by simpa using hR⟩
      | false =>
        rw [hy] at hR
        wp_walk
        exact ⟨_, rfl, by simpa using hR⟩
    case fin =>
      rintro ⟨b1, b2⟩ s' ⟨hb', rfl, i, hz, hR⟩
      simp only at hb'
      subst hb'
      have hge : min items.size items2.size ≤ i := by
        rcases Nat.lt_or_ge i (items.toList.zip items2.toList).length with h' | h'
        · rw [List.drop_eq_getElem_cons h'] at hz; cases hz
        · exact hZ ▸ h'
      rw [List.drop_of_length_le (by simpa using hge)] at hR
      wp_walk
      exact ⟨_, rfl, by simpa [Builtin.Tuple.tupleCompareSizes, bne] using hR⟩
    case h =>
      exact ⟨rfl, rfl, 0, rfl, by simpa using h⟩

section
variable {x : Cx} {A : Around} {own : Own} {env : Env} {n : Nat} {nm gn : List Str} {Q : AV → Own → Prop}

theorem reps_at {B : List Addr} {h : Heap} {ns : List Int} {vs : Array Value} (r : Reps B h (ns.map .int) vs.toList) {j : Nat} (hj : j < vs.size) : ∃ t, vs[j] = .int (ns.getD j 0) t := by
  have hl := r.length
  simp at hl
  have e : (ns.map AV.int)[j]? = some (.int (ns.getD j 0)) := by
    rw [List.getElem?_map, List.getElem?_eq_getElem (by omega), List.getD_eq_getElem?_getD, List.getElem?_eq_getElem (by omega)]; rfl
  obtain ⟨v, ev, rv⟩ := r.get e
  obtain ⟨t, rfl⟩ := rep_int rv
  exact ⟨t, by simp at ev; obtain ⟨_, ev⟩ := Array.getElem?_eq_some_iff.mp ev; exact ev⟩
theorem all_eq {a b : List Int} : ((List.range (min a.length b.length)).all (fun j => a.getD j 0 == b.getD j 0) && a.length == b.length) = decide (a = b) := by
  by_cases h : a = b
  · subst h; simp
  · rw [decide_eq_false h, Bool.eq_false_iff]
    intro hh
    simp only [Bool.and_eq_true, List.all_eq_true, List.mem_range, beq_iff_eq] at hh
    obtain ⟨h1, h2⟩ := hh
    refine h (List.ext_getElem h2 fun j hj1 hj2 => ?_)
    have := h1 j (by omega)
    simpa [List.getD_eq_getElem?_getD, List.getElem?_eq_getElem hj1, List.getElem?_eq_getElem hj2] using this
theorem C_teq {a b : List Int} {Q : Bool → Own → Prop} (hl : Lv (n + 1) A) (h1 : a = b → Q true own) (h2 : a ≠ b → Q false own) : WC x A .Eq (.tup (a.map .int)) (.tup (b.map .int)) own Q := fun vs s R r => by
  obtain ⟨u, v, rfl, r1, r2⟩ := reps2 r
  obtain ⟨p, ws, k, rfl, _, e1, q1⟩ := rep_tup r1
  obtain ⟨p', ws', k', rfl, _, e2, q2⟩ := rep_tup r2
  have hl1 := q1.length; have hl2 := q2.length
  simp at hl1 hl2
  refine eq_tupleAt (e := fun j => a.getD j 0 == b.getD j 0) ⟨_, e1, rfl, _, rfl⟩ ⟨_, e2, rfl, _, rfl⟩ (by have := hl.uni; omega) (fun j hj1 hj2 => ?_) ⟨own, Step.refl R, _, rep_mk_val, _, rfl, ?_⟩
  · obtain ⟨t, et⟩ := reps_at q1 hj1
    obtain ⟨t', et'⟩ := reps_at q2 hj2
    rw [et, et']; exact EqAt.int_int _ _ _ _
  · rw [← hl1, ← hl2, all_eq]; exact of_bool h1 h2
theorem C_tne {a b : List Int} {Q : Bool → Own → Prop} (hl : Lv (n + 1) A) (h1 : a ≠ b → Q true own) (h2 : a = b → Q false own) : WC x A .NotEq (.tup (a.map .int)) (.tup (b.map .int)) own Q := fun vs s R r => by
  obtain ⟨u, v, rfl, r1, r2⟩ := reps2 r
  obtain ⟨p, ws, k, rfl, _, e1, q1⟩ := rep_tup r1
  obtain ⟨p', ws', k', rfl, _, e2, q2⟩ := rep_tup r2
  have hl1 := q1.length; have hl2 := q2.length
  simp at hl1 hl2
  show wpAny _ A (richCompare .NotEq (.ref p) (.ref p')) _ _ s
  refine richCompare_meets_room (op := .NotEq) ⟨_, e1, rfl⟩ ⟨_, e2, rfl⟩ F.slot_tuple_ne F.entry_tuple_ne (F.args_tuple_ne_2 _ _) (tuple_neAt p p' ws ws' k k' none none #[] #[] (fun j => a.getD j 0 == b.getD j 0))
    ⟨e1, e2, fun j hj1 hj2 => ?_, (fun x => nomatch x), own, Step.refl R, _, rep_mk_val, _, rfl, ?_⟩ (by have := hl.uni; omega)
  · obtain ⟨t, et⟩ := reps_at q1 hj1
    obtain ⟨t', et'⟩ := reps_at q2 hj2
    rw [et, et']; exact EqAt.int_int _ _ _ _
  · rw [← hl1, ← hl2, all_eq]
    by_cases h : a = b
    · rw [decide_eq_true h]; exact h2 h
    · rw [decide_eq_false h]; exact h1 h
theorem C_leq {l b : Addr} {xs ys : List Int} {Q : Bool → Own → Prop} (hl : Lv (n + 1) A) (ka : Kn x own (l, .list (xs.map .int))) (kb : Kn x own (b, .list (ys.map .int))) (hz : xs.length = ys.length) (h1 : xs = ys → Q true own) (h2 : xs ≠ ys → Q false own) : WC x A .Eq (.val (.ref l)) (.val (.ref b)) own Q := fun vs s R r => by
  obtain ⟨u, v, rfl, r1, r2⟩ := reps2 r
  rw [rep_val r1, rep_val r2]
  obtain ⟨ws, p1, q1⟩ := R.kn ka
  obtain ⟨ws', p2, q2⟩ := R.kn kb
  have hl1 := q1.length; have hl2 := q2.length
  simp at hl1 hl2
  refine eq_listAt (e := fun j => xs.getD j 0 == ys.getD j 0) p1.isList p2.isList (by omega) (by have := hl.uni; omega) (fun j hj1 hj2 => ?_) ⟨own, Step.refl R, _, rep_mk_val, _, rfl, ?_⟩
  · obtain ⟨t, et⟩ := reps_at q1 hj1
    obtain ⟨t', et'⟩ := reps_at q2 hj2
    rw [et, et']; exact EqAt.int_int _ _ _ _
  · have := all_eq (a := xs) (b := ys)
    rw [hz, Nat.min_self, beq_self_eq_true, Bool.and_true] at this
    rw [← hl1, hz, this]
    exact of_bool h1 h2
theorem C_nn {Q : Bool → Own → Prop} (q : Q true own) : WC x A .Eq (.val .none) (.val .none) own Q := fun vs s R r => by
  obtain ⟨u, v, rfl, r1, r2⟩ := reps2 r
  rw [rep_val r1, rep_val r2]
  exact EqNone.eq_none_none ⟨own, Step.refl R, _, rep_mk_val, _, rfl, q⟩

/-- dicts of text compared -/
theorem hits_of {B : List Addr} {h : Heap} {s : Shared} {A : Around} {es : List (Int × Str)} {kvs ks : List (Int × Value)} (r : KVs B h (es.map fun e => (e.1, AV.str e.2)) kvs) : ∀ {ds : List (Int × Str)}, KVs B h (ds.map fun e => (e.1, AV.str e.2)) ks →
    (∀ e ∈ ds, lookK es e.1 = some e.2) → KeqHits A s kvs ks true
  | [], r2, _ => by cases r2; exact .nil
  | d :: ds, r2, h2 => by
    cases r2 with
    | cons rd r2 =>
      have hd := h2 d (.head _)
      have := r.look d.1
      have e2 : lookK (es.map fun e => (e.1, AV.str e.2)) d.1 = some (.str d.2) := by
        unfold lookK at hd ⊢
        rw [List.find?_map, Option.map_map]
        have e3 : ((fun e : Int × AV => decide (e.1 = d.1)) ∘ fun e : Int × Str => (e.1, AV.str e.2)) = fun e : Int × Str => decide (e.1 = d.1) := rfl
        rw [e3]
        cases hf : es.find? fun e => decide (e.1 = d.1) with
        | none => rw [hf] at hd; cases hd
        | some y => rw [hf] at hd; simp at hd; simp [hd]
      rw [e2] at this
      obtain ⟨w, hw, rw'⟩ := this
      obtain ⟨t, rfl⟩ := rep_str rd
      obtain ⟨t', rfl⟩ := rep_str rw'
      have e := EqAt.str_str (A := A) (s := s) d.2 t d.2 t'
      have := KeqHits.hit (A := A) (s := s) hw e (hits_of r r2 fun e he => h2 e (.tail _ he))
      simpa using this
theorem C_dne {l b : Addr} {es ds : List (Int × Str)} {Q : Bool → Own → Prop} (hl : Lv (n + 1) A) (ka : Kn x own (l, .dictI (es.map fun e => (e.1, AV.str e.2)))) (kb : Kn x own (b, .dictI (ds.map fun e => (e.1, AV.str e.2)))) (hz : es.length = ds.length)
    (hs : ∀ e ∈ es, lookK ds e.1 = some e.2) (q : Q false own) : WC x A .NotEq (.val (.ref l)) (.val (.ref b)) own Q := fun vs s R r => by
  obtain ⟨u, v, rfl, r1, r2⟩ := reps2 r
  rw [rep_val r1, rep_val r2]
  obtain ⟨n1, k1, e1, d1, q1⟩ := (dkI x).has.mp (R.kn ka)
  obtain ⟨n2, k2, e2, d2, q2⟩ := (dkI x).has.mp (R.kn kb)
  have hl1 := q1.length; have hl2 := q2.length
  simp at hl1 hl2
  refine keq_ne n1 n2 d1.dictOf d2.dictOf (by have := hl.uni; omega) (fun _ => hits_of q2 q1 hs) ⟨own, Step.refl R, _, rep_mk_val, _, rfl, ?_⟩
  rw [show (k1.length == k2.length) = true by simp; omega]
  exact q

/-- int(i), list(range) -/
theorem C_int {i : Int} (q : Q (.int i) own) : WO x A (callv (.type "int")) [.int i] own Q := fun vs s R r => by
  obtain ⟨u, rfl, r1⟩ := reps1 r
  obtain ⟨t, rfl⟩ := rep_int r1
  exact call_int_int ⟨own, Step.refl R, _, rep_mk_int, q⟩
theorem C_lrange {r : Addr} {a b : Int} (hh : A.handled = none) (kn : Kn x own (r, .rng a b 1)) (ha : 0 ≤ a ∧ a ≤ b ∧ b ≤ 10000000) (q : ∀ D, Q (.val (.ref D)) ((D, .list (((List.range (b - a).toNat).map fun i : Nat => a + (i : Int)).map .int)) :: own)) : WO x A (callv (.type "list")) [.val (.ref r)] own Q := fun vs s R rr => by
  obtain ⟨u, rfl, r1⟩ := reps1 rr
  rw [rep_val r1]
  obtain ⟨t, u, v, hr⟩ := R.kn kn
  refine call_list_range (n := (b - a).toNat) hh hr (small_one (by omega) (by omega) (by omega) (by omega)) (rangeSize_nat a b) (by omega) fun h' tk acc' c' hk hD hacc => ⟨_, Step.new (a := s.heap.objs.size) (o := .list (((List.range (b - a).toNat).map fun i : Nat => a + (i : Int)).map .int)) R hk (fresh_none _) ⟨acc', ⟨c', hD⟩, ?_⟩, _, rep_mk_val, q _⟩
  obtain ⟨hl, hacc⟩ := hacc
  refine ints_reps ?_
  have hl' : acc'.toList.length = (b - a).toNat := by rw [Array.length_toList]; exact hl
  have all : ∀ (vs : List Value) (k : Nat), (∀ (j : Nat) v, vs[j]? = some v → ∃ t, v = .int (a + ((k + j : Nat) : Int)) t) → IntsAre vs ((List.range' k vs.length).map fun i : Nat => a + (i : Int)) := by
    intro vs
    induction vs with
    | nil => intro k _; exact .nil
    | cons v vs ih =>
      intro k h
      obtain ⟨t, rfl⟩ := h 0 v rfl
      simp only [List.length_cons, List.range'_succ, List.map_cons]
      exact .cons _ t (ih (k + 1) fun j w e => by
        obtain ⟨t, rfl⟩ := h (j + 1) w (by simpa using e)
        exact ⟨t, by congr 2; omega⟩)
  have := all acc'.toList 0 fun j v e => by
    obtain ⟨t, rfl⟩ := hacc j v (by rw [← Array.getElem?_toList]; exact e)
    exact ⟨t, by simp⟩
  rw [hl', ← List.range_eq_range'] at this
  exact this

/-- sources -/
theorem Src.of_walks {tgt : Expr} {I : Addr} {fp wr' : List Addr} {m : Nat} {P : Nat → Value → Prop} {St : Nat → Heap → Prop} {xs : List AV} (W : Walks x.prog x.w A I fp wr' m P St) (hm : m = xs.length) (hnb : ∀ b ∈ wr', b ∉ x.bad)
    (live : ∀ i h, St i h → ∀ b ∈ fp, ∃ o, h.get? b = some o ∧ o.cls ≠ .none) (nt : ∀ i h, St i h → ∀ b ∈ wr', b ∉ x.bad → ∀ vs n, h.get? b ≠ some { cls := .type "tuple", data := .seq vs n })
    (cls : ∀ i h, St i h → ∃ o T, h.get? I = some o ∧ o.cls = .type T ∧ (["enumerate", "zip", "dict_itemiterator", "dict_reverseitemiterator", "odict_iterator", "itertools.zip_longest", "itertools.pairwise"].contains T) = false)
    (val : ∀ i own s v h', Rel x own s → St i s.heap → P i v → (∀ b o, b ∉ wr' → s.heap.get? b = some o → h'.get? b = some o) → ∃ a, xs[i]? = some a ∧ Rep x.bad h' a v) : Src x A tgt (.ref I) xs fp wr' St where
  sub := W.sub
  frame := W.frame
  live := live
  nt := nt
  step := fun i s own R st hi => by
    refine W.item i s _ _ (by omega) st fun v h' tk hP st' hk => ⟨v, h', tk, rfl, rfl, hk, ?_⟩
    obtain ⟨o, T, eo, ec, hT⟩ := cls _ _ st'
    exact letOwned_any eo ec hT ⟨h', tk, rfl, fun _ _ _ e => e, st', val i own s v h' R st hP hk⟩
  self := fun i s Q E st hQ => W.self i s Q E st hQ
  stop := fun s own R st => W.done s _ _ (hm ▸ st) fun h' tk hk => ⟨rfl, h', tk, rfl, hk, fun b hb hbb => absurd hbb (hnb b hb)⟩
theorem new_it {own : Own} {s : Shared} (R : Rel x own s) {ob : Obj} : (∀ b o, s.heap.get? b = some o → (s.heap.push ob).get? b = some o) ∧ (∀ b o, s.heap.get? b = some o → b ≠ s.heap.objs.size) ∧ x.h₀.get? s.heap.objs.size = none ∧ (∀ p ∈ x.ro, p.1 ≠ s.heap.objs.size) ∧ s.heap.objs.size ∉ addrs own ∧ s.heap.objs.size ∉ x.bad := by
  have hI : ∀ b o, s.heap.get? b = some o → b ≠ s.heap.objs.size := fun b o e q => by rw [q, fresh_none] at e; cases e
  refine ⟨fun b o e => Heap.get?_push_of_some _ e, hI, ?_, fun p hp => ?_, fun hm => ?_, fun hm => ?_⟩
  · cases e : x.h₀.get? s.heap.objs.size with
    | none => rfl
    | some o => obtain ⟨o', e'⟩ := R.old.there _ _ e; exact absurd rfl (hI _ _ e')
  · obtain ⟨_, _, o, e, _⟩ := R.ro p hp; exact hI _ _ e
  · obtain ⟨p, hp, e⟩ := List.mem_map.mp hm
    obtain ⟨o, eo⟩ := (R.has p hp).there
    exact hI _ _ eo e
  · obtain ⟨o, e⟩ := R.bd _ hm; exact hI _ _ e rfl

/-- a dict of int keys, walked over -/
theorem Itb.dict {l : Addr} {es : List (Int × AV)} {tgt : Expr} {own2 : Own} (hh : A.handled = none) (sel : Sel (l, .dictI es) own own2) :
    Itb x A own (.val (.ref l)) tgt (es.map fun e => .int e.1) ((l, .dictI es) :: x.ro) own2 (fun o => (l, .dictI es) :: o) where
  go := fun v s1 R1 r1 => by
    rw [rep_val r1]
    have Rp : Rel x ((l, .dictI es) :: own2) s1 := R1.perm sel.perm
    have Rf : Rel (wr x ((l, .dictI es) :: x.ro)) own2 s1 := Rp.freeze trivial
    have H := Rp.has _ (.head _)
    obtain ⟨ns, kvs, ep, hd, rs⟩ := (dkI x).has.mp H
    obtain ⟨gr, hI, n0, nro, nown, nbad⟩ := new_it (x := wr x ((l, .dictI es) :: x.ro)) Rf (ob := { cls := .type "dict_keyiterator", data := .fields #[.ref l, .int 0 0, .int kvs.length 0, .int ep 0] })
    have hlt : l < s1.heap.objs.size := hd.lt_size
    have hne : l ≠ s1.heap.objs.size := Nat.ne_of_lt hlt
    refine wpAny_pyIter_dict ns hd ?_
    refine ⟨_, _, _, Src.of_walks (x := wr x ((l, .dictI es) :: x.ro)) (xs := es.map fun e => .int e.1) (Walks.dictKeys (knd := intKind x.prog x.w) hh s1.heap.objs.size l hne kvs ep) (by rw [List.length_map]; exact rs.length.symm) (fun b hb => by rw [List.mem_singleton.mp hb]; exact nbad) ?_ ?_ ?_ ?_, ⟨⟨_, Heap.get?_push_size _ rfl, rfl, rfl⟩, hd.push _⟩, Step.grow (x := wr x ((l, .dictI es) :: x.ro)) (tk := s1.toks) Rf gr, ?_, ?_, ?_⟩
    · intro i h st b hb
      rcases List.mem_cons.mp hb with rfl | hb
      · obtain ⟨o, e, c, _⟩ := st.1; exact ⟨o, e, by rw [c]; simp⟩
      · rw [List.mem_singleton.mp hb]; obtain ⟨o, es, e, d, _⟩ := st.2; exact ⟨o, e, by rw [d.1]; simp⟩
    · intro i h st b hb _ vs k e
      rw [List.mem_singleton.mp hb] at e
      obtain ⟨o, e', c, _⟩ := st.1; rw [e] at e'; cases e'; simp at c
    · intro i h st
      obtain ⟨o, e, c, _⟩ := st.1
      exact ⟨o, _, e, c, by decide⟩
    · rintro i own s v h' R st ⟨k, y, hx, hk⟩ hkeep
      obtain ⟨a, ea, _⟩ := rs.at hx
      exact ⟨.int k, by rw [List.getElem?_map, ea]; rfl, (dkI x).is.mpr hk⟩
    · intro b hb hm
      rcases List.mem_cons.mp hb with rfl | hb
      · exact nown hm
      · rw [List.mem_singleton.mp hb] at hm
        exact (Rf.ro _ (.head _)).2.1 hm
    · intro b hb
      rw [List.mem_singleton.mp hb]
      exact ⟨fresh_none _, n0, nro⟩
    · intro b hb hm
      rw [List.mem_singleton.mp hm] at hb
      exact nbad hb
  back := fun s o s' R S => (S.thaw (R.perm sel.perm)).perm sel.perm.symm
/-- a frozen list, walked over -/
theorem Itb.lro {l : Addr} {xs : List AV} {tgt : Expr} (hh : A.handled = none) (hm : (l, AObj.list xs) ∈ x.ro) : Itb x A own (.val (.ref l)) tgt xs x.ro own id where
  go := fun v s1 R1 r1 => by
    rw [rep_val r1]
    obtain ⟨H, hno, _⟩ := R1.ro _ hm
    obtain ⟨vs, pl, rs⟩ := H
    have pl : s1.heap.PlainList l vs := pl
    obtain ⟨gr, hI, n0, nro, nown, nbad⟩ := new_it R1 (ob := { cls := .type "list_iterator", data := .fields #[.ref l, .int 0 0] })
    have hlt : l < s1.heap.objs.size := by obtain ⟨k, e⟩ := pl; exact Heap.lt_size e
    have hsz : vs.size = xs.length := by have := rs.length; simp at this; omega
    refine wpAny_pyIter_list pl.isList ⟨_, _, _, Src.list (x := wr x x.ro) (vs := vs) hh nbad hm (Nat.ne_of_lt hlt) hsz, ⟨⟨_, Heap.get?_push_size _ rfl, rfl, rfl⟩, pl.at fun o e => gr _ _ e⟩, Step.grow (x := wr x x.ro) (tk := s1.toks) R1 gr, ?_, ?_, ?_⟩
    · intro b hb hmm
      rcases List.mem_cons.mp hb with rfl | hb
      · exact nown hmm
      · rw [List.mem_singleton.mp hb] at hmm; exact hno hmm
    · intro b hb
      rw [List.mem_singleton.mp hb]
      exact ⟨fresh_none _, n0, nro⟩
    · intro b hb hmm
      rw [List.mem_singleton.mp hmm] at hb
      exact nbad hb
  back := fun s o s' R S => S
end
end
section
section
variable {prog : Program} {w : World} {A : Around} {E : Value → Shared → Prop} {s : Shared}
theorem nextOf_range_item {it : Addr} {x left step : Int} {Q : Value → Shared → Prop} (hit : IsRangeIter s.heap it x left step) (hleft : 0 < left)
    (hQ : ∀ h', IsRangeIter h' it (x + step) (left - 1) step → Heap.SameBut it s.heap h' → Q (.int x s.toks) { s with heap := h', toks := s.toks + 1 }) :
    wpAny (model prog w) A (Builtin.SmallTypes.nextOf (.ref it)) Q E s := by
  have hT : s.TypeIs (.ref it) "range_iterator" := ⟨_, hit, rfl⟩
  unfold Builtin.SmallTypes.nextOf
  refine wpAny_bind (wpAny_callSpecial?_slot (name := Str.ofString "__next__") hT F.slot_range_iterator_next
    (call_meets F.slot_range_iterator_next hT F.entry_range_iterator_next (F.args_range_iterator_next_1 _) (AutoRange.range_iterator___next___range_iterator_1 it x left step (by omega)) ⟨hit, ?_⟩))
  exact wpAny_pure (hQ _ (Heap.get?_update_self _ (Heap.get?_update_self _ hit rfl) rfl) ((Heap.SameBut.update ..).trans (Heap.SameBut.update ..)))
theorem nextOf_range_end {it : Addr} {x left step : Int} {Q : Value → Shared → Prop} (hh : A.handled = none) (hit : IsRangeIter s.heap it x left step) (hleft : left ≤ 0)
    (hE : ∀ h' e, Heap.ExtBut it s.heap h' → (∃ o, h'.get? e = some o ∧ o.cls = .type "StopIteration") → E (.ref e) { s with heap := h' }) : wpAny (model prog w) A (Builtin.SmallTypes.nextOf (.ref it)) Q E s := by
  have hT : s.TypeIs (.ref it) "range_iterator" := ⟨_, hit, rfl⟩
  unfold Builtin.SmallTypes.nextOf
  refine wpAny_bind (wpAny_callSpecial?_slot (name := Str.ofString "__next__") hT F.slot_range_iterator_next
    (wpAny_call_entry F.slot_range_iterator_next hT F.entry_range_iterator_next ?_ (F.args_range_iterator_next_1 _)))
  show wpAny _ _ (field (.ref it) 0 >>= _) _ _ s
  refine wpAny_bind (wpAny_field hit rfl (x := rawInt x) rfl ?_)
  show wpAny _ _ (field (.ref it) 1 >>= _) _ _ s
  refine wpAny_bind (wpAny_field hit rfl (x := rawInt left) rfl ?_)
  show wpAny _ _ (field (.ref it) 2 >>= _) _ _ s
  refine wpAny_bind (wpAny_field hit rfl (x := rawInt step) rfl ?_)
  show wpAny _ _ (if left ≤ 0 then _ else _) _ _ s
  rw [if_pos hleft]
  refine wpAny_bind (wpAny_rule ?_)
  refine wpAny_bind ?_
  show wpAny _ _ (newExc (.type "StopIteration") [] >>= _) _ _ _
  refine wpAny_bind ?_
  simp only [newExc, newTuple]
  refine wpAny_bind (wpAny_newObj_type ?_ (by size_fits))
  refine wpAny_bind (m := firstArgMember _ _) (wpAny_of_eq (a := Value.none) (by first | rfl | (simp only [firstArgMember]; rfl)) ?_)
  refine wpAny_newObj_type ?_ (by size_fits)
  simp only [raiseNew]
  refine wpAny_bind (wpAny_handled ?_)
  first | rw [show A.in1.handled = none from hh] | rw [hh]
  refine wpAny_bind (wpAny_pure (wpAny_throw ?_))
  exact hE _ _ (fun b o hb e => Heap.get?_push_of_some _ (Heap.get?_push_of_some _ e)) ⟨_, Heap.get?_push_size _ rfl, rfl⟩
end
theorem Draws.range {prog : Program} {w : World} {A : Around} (hh : A.handled = none) (it : Addr) (a c : Int) (n : Nat) :
    Draws prog w A it [it] n (fun i v => ∃ t, v = .int (a + i * c) t) (fun i h => IsRangeIter h it (a + (i : Nat) * c) ((n : Int) - (i : Nat)) c) where
  live := fun _ _ st => ⟨_, st⟩
  frame := fun _ _ _ st hk => hk it (by simp) _ st
  item := fun i s Q E hi st hQ => by
    refine nextOf_range_item st (by omega) fun h' hit' hs' => ?_
    refine hQ _ h' _ ⟨_, rfl⟩ ?_ hs'
    have e1 : a + ((i + 1 : Nat) : Int) * c = a + (i : Int) * c + c := by push_cast; rw [Int.add_mul, Int.one_mul, Int.add_assoc]
    have e2 : (n : Int) - ((i + 1 : Nat) : Int) = (n : Int) - (i : Int) - 1 := by push_cast; omega
    rw [e1, e2]; exact hit'
  done := fun s Q E st hE => nextOf_range_end hh st (by omega) hE

/-- apart -/
structure Zp (z TI TO : Addr) (its : List Addr) (fps : List (List Addr)) : Prop where
  TIz : TI ≠ z
  TOz : TO ≠ z
  TITO : TI ≠ TO
  iz : ∀ i ∈ its, i ≠ z ∧ TI ≠ i ∧ TO ≠ i
  fz : ∀ f ∈ fps, z ∉ f ∧ TO ∉ f ∧ TI ∉ f

section
variable {prog : Program} {w : World} {A : Around} {E : Value → Shared → Prop} {s : Shared}
variable {z TI TO i1 i2 i3 : Addr} {fp1 fp2 fp3 : List Addr} {n1 n2 n3 : Nat} {P1 P2 P3 : Nat → Value → Prop} {S1 S2 S3 : Nat → Heap → Prop}

theorem zip2_item (D1 : Draws prog w A i1 fp1 n1 P1 S1) (D2 : Draws prog w A i2 fp2 n2 P2 S2) {i : Nat} {a b : Value} {Q : Value → Shared → Prop} (Z : Zp z TI TO [i1, i2] [fp1, fp2]) (h12 : i1 ∉ fp2) (h21 : i2 ∉ fp1) (h_1 : i1 ∈ fp1) (h_2 : i2 ∈ fp2)
    (hz : IsZip s.heap z TI TO .none) (hTI : IsPair s.heap TI (.ref i1) (.ref i2)) (hTO : IsPair s.heap TO a b) (st1 : S1 i s.heap) (st2 : S2 i s.heap) (hn1 : i < n1) (hn2 : i < n2)
    (hQ : ∀ h' tk x y, P1 i x → P2 i y → IsZip h' z TI TO (rawInt s.heap.objs.size) → IsPair h' TI (.ref i1) (.ref i2) → IsPair h' TO x y → S1 (i + 1) h' → S2 (i + 1) h' → IsPair h' s.heap.objs.size x y →
      (∀ c o, c ≠ z → c ≠ TO → c ≠ i1 → c ≠ i2 → s.heap.get? c = some o → h'.get? c = some o) → Q (.ref s.heap.objs.size) { s with heap := h', toks := tk }) :
    wpAny (model prog w) A (Builtin.«zip.__next__» ⟨[.ref z], []⟩) (fun fin s' => ∃ v, fin = .done (.ret v) ∧ Q v s') E s := by
  obtain ⟨i1z, TIi1, TOi1⟩ := Z.iz i1 (by simp)
  obtain ⟨i2z, TIi2, TOi2⟩ := Z.iz i2 (by simp)
  obtain ⟨zf1, TOf1, TIf1⟩ := Z.fz fp1 (by simp)
  obtain ⟨zf2, TOf2, TIf2⟩ := Z.fz fp2 (by simp)
  have i12 : i1 ≠ i2 := fun e => h12 (e ▸ h_2)
  have mv : ∀ {fp : List Addr} {S : Nat → Heap → Prop} {it : Addr} {n : Nat} {P : Nat → Value → Prop} {k : Nat} {h h' : Heap} {c : Addr}, Draws prog w A it fp n P S → S k h → c ∉ fp → Heap.SameBut c h h' → S k h' :=
    fun D st hc hs => D.frame _ _ _ st fun b hb o e => hs.extBut b o (fun q => hc (q ▸ hb)) e
  show wpAny _ _ (field (.ref z) 2 >>= _) _ _ _
  refine wpAny_bind (wpAny_field hz rfl (x := .bool false) rfl ?_)
  show wpAny _ _ (field (.ref z) 3 >>= _) _ _ _
  refine wpAny_bind (wpAny_field hz rfl (x := .ref TI) rfl ?_)
  refine wpAny_bind (wpAny_seqItems hTI rfl ?_)
  show wpAny _ _ (Builtin.SmallTypes.ownedTupleIsFree (.ref z) >>= _) _ _ _
  refine wpAny_bind ?_
  unfold Builtin.SmallTypes.ownedTupleIsFree
  refine wpAny_bind (wpAny_field hz rfl (x := .none) rfl (wpAny_pure ?_))
  simp only [if_true]
  refine wpAny_bind (wpAny_rule ?_)
  refine wpAny_bind (wpAny_field hz rfl (x := .ref TO) rfl ?_)
  refine wpAny_bind (wpAny_setField_rec hz (by simp) fun h₁ hz₁ hs₁ => ?_)
  replace hz₁ : IsZip h₁ z TI TO .ellipsis := hz₁
  replace hs₁ : Heap.SameBut z s.heap h₁ := hs₁
  refine wpAny_bind ?_
  simp only [List.zipIdx_cons, List.zipIdx_nil, List.forIn_cons, List.forIn_nil]
  refine wpAny_bind (wpAny_bind (wpAny_onRaise ?_))
  show wpAny _ _ (Builtin.SmallTypes.nextOf (.ref i1) >>= _) _ _ _
  refine wpAny_bind (D1.item i _ _ _ hn1 (mv D1 st1 zf1 hs₁) fun x h₂ t₂ px s1' hs₂ => wpAny_pure ?_)
  replace hs₂ : Heap.SameBut i1 h₁ h₂ := hs₂
  have hTO₂ : IsPair h₂ TO a b := hs₂.extBut _ _ TOi1 (hs₁.extBut _ _ Z.TOz hTO)
  refine wpAny_bind (wpAny_seqItems (s := { s with heap := h₂, toks := t₂ }) hTO₂ rfl ?_)
  refine wpAny_bind (wpAny_updateSeq_pair (s := { s with heap := h₂, toks := t₂ }) hTO₂ fun h₃ hTO₃ hs₃ => ?_)
  replace hTO₃ : IsPair h₃ TO x b := hTO₃
  replace hs₃ : Heap.SameBut TO h₂ h₃ := hs₃
  refine wpAny_bind (wpAny_letGo (wpAny_pure ?_))
  refine wpAny_bind (wpAny_bind (wpAny_onRaise ?_))
  show wpAny _ _ (Builtin.SmallTypes.nextOf (.ref i2) >>= _) _ _ _
  refine wpAny_bind (D2.item i { s with heap := h₃, toks := t₂ } _ _ hn2 (mv D2 (mv D2 (mv D2 st2 zf2 hs₁) h12 hs₂) TOf2 hs₃) fun y h₄ t₄ py s2' hs₄ => wpAny_pure ?_)
  replace hs₄ : Heap.SameBut i2 h₃ h₄ := hs₄
  have hTO₄ : IsPair h₄ TO x b := hs₄.extBut _ _ TOi2 hTO₃
  refine wpAny_bind (wpAny_seqItems (s := { s with heap := h₄, toks := t₄ }) hTO₄ rfl ?_)
  refine wpAny_bind (wpAny_updateSeq_pair (s := { s with heap := h₄, toks := t₄ }) hTO₄ fun h₅ hTO₅ hs₅ => ?_)
  replace hTO₅ : IsPair h₅ TO x y := hTO₅
  replace hs₅ : Heap.SameBut TO h₄ h₅ := hs₅
  refine wpAny_bind (wpAny_letGo (wpAny_pure (wpAny_pure ?_)))
  refine wpAny_bind (wpAny_seqItems (s := { s with heap := h₅, toks := t₄ }) hTO₅ rfl ?_)
  refine wpAny_bind (wpAny_newTuple ?_)
  have hsz : h₅.objs.size = s.heap.objs.size := by rw [hs₅.1, hs₄.1, hs₃.1, hs₂.1, hs₁.1]
  have hz₅ : IsZip h₅ z TI TO .ellipsis := hs₅.extBut _ _ Z.TOz.symm (hs₄.extBut _ _ i2z.symm (hs₃.extBut _ _ Z.TOz.symm (hs₂.extBut _ _ i1z.symm hz₁)))
  have hk₅ : ∀ c o, c ≠ z → c ≠ TO → c ≠ i1 → c ≠ i2 → s.heap.get? c = some o → h₅.get? c = some o := fun c o c1 c2 c3 c4 e =>
    hs₅.extBut _ _ c2 (hs₄.extBut _ _ c4 (hs₃.extBut _ _ c2 (hs₂.extBut _ _ c3 (hs₁.extBut _ _ c1 e))))
  have s1₅ : S1 (i + 1) h₅ := mv D1 (mv D1 (mv D1 s1' TOf1 hs₃) h21 hs₄) TOf1 hs₅
  have s2₅ : S2 (i + 1) h₅ := mv D2 s2' TOf2 hs₅
  have hzlt : z < h₅.objs.size := Heap.lt_size hz₅
  show wpAny _ _ (Builtin.SmallTypes.ownedTupleHandOut (.ref z) (.ref h₅.objs.size) >>= _) _ _ _
  refine wpAny_bind ?_
  unfold Builtin.SmallTypes.ownedTupleHandOut
  have hz₆ : IsZip (h₅.push { cls := .type "tuple", data := .seq #[x, y] }) z TI TO .ellipsis := Heap.get?_push_of_some _ hz₅
  refine wpAny_bind (wpAny_setField_rec (s := { s with heap := h₅.push { cls := .type "tuple", data := .seq #[x, y] }, toks := t₄ }) hz₆ (by simp) fun h₇ hz₇ hs₇ => ?_)
  replace hz₇ : IsZip h₇ z TI TO (rawInt h₅.objs.size) := hz₇
  refine wpAny_setField_rec (s := { s with heap := h₇, toks := t₄ }) hz₇ (by simp) fun h₈ hz₈ hs₈ => ?_
  replace hz₈ : IsZip h₈ z TI TO (rawInt h₅.objs.size) := hz₈
  have up : ∀ c o, c ≠ z → h₅.get? c = some o → h₈.get? c = some o := fun c o c1 e => hs₈.extBut _ _ c1 (hs₇.extBut _ _ c1 (Heap.get?_push_of_some _ e))
  have hT₈ : IsPair h₈ h₅.objs.size x y := hs₈.extBut _ _ (Nat.ne_of_gt hzlt) (hs₇.extBut _ _ (Nat.ne_of_gt hzlt) (Heap.get?_push_size _ rfl))
  rw [hsz] at hz₈ hT₈
  refine wpAny_pure ⟨_, rfl, ?_⟩
  show Q (.ref h₅.objs.size) _
  rw [hsz]
  have upS : ∀ {fp : List Addr} {S : Nat → Heap → Prop} {it : Addr} {n : Nat} {P : Nat → Value → Prop} {k : Nat}, Draws prog w A it fp n P S → S k h₅ → z ∉ fp → S k h₈ := fun D st hc => D.frame _ _ _ st fun b hb o e => up b o (fun q => hc (q ▸ hb)) e
  exact hQ h₈ t₄ x y px py hz₈ (up _ _ Z.TIz (hk₅ _ _ Z.TIz Z.TITO TIi1 TIi2 hTI)) (up _ _ Z.TOz hTO₅) (upS D1 s1₅ zf1) (upS D2 s2₅ zf2) hT₈ fun c o c1 c2 c3 c4 e => up c o c1 (hk₅ c o c1 c2 c3 c4 e)

theorem zip_end1 (hh : A.handled = none) (D1 : Draws prog w A i1 fp1 n1 P1 S1) {rest : List Value} {Q : Fin → Shared → Prop} (i1z : i1 ≠ z) (zf1 : z ∉ fp1)
    (hz : IsZip s.heap z TI TO .none) (hTI : s.heap.get? TI = some { cls := .type "tuple", data := .seq (.ref i1 :: rest).toArray }) (st1 : S1 n1 s.heap)
    (hE : ∀ h' e, (∀ c o, c ≠ z → c ≠ i1 → s.heap.get? c = some o → h'.get? c = some o) → (∃ o, h'.get? e = some o ∧ o.cls = .type "StopIteration") → E (.ref e) { s with heap := h' }) :
    wpAny (model prog w) A (Builtin.«zip.__next__» ⟨[.ref z], []⟩) Q E s := by
  show wpAny _ _ (field (.ref z) 2 >>= _) _ _ _
  refine wpAny_bind (wpAny_field hz rfl (x := .bool false) rfl ?_)
  show wpAny _ _ (field (.ref z) 3 >>= _) _ _ _
  refine wpAny_bind (wpAny_field hz rfl (x := .ref TI) rfl ?_)
  refine wpAny_bind (wpAny_seqItems hTI rfl ?_)
  show wpAny _ _ (Builtin.SmallTypes.ownedTupleIsFree (.ref z) >>= _) _ _ _
  refine wpAny_bind ?_
  unfold Builtin.SmallTypes.ownedTupleIsFree
  refine wpAny_bind (wpAny_field hz rfl (x := .none) rfl (wpAny_pure ?_))
  simp only [if_true]
  refine wpAny_bind (wpAny_rule ?_)
  refine wpAny_bind (wpAny_field hz rfl (x := .ref TO) rfl ?_)
  refine wpAny_bind (wpAny_setField_rec hz (by simp) fun h₁ hz₁ hs₁ => ?_)
  replace hz₁ : IsZip h₁ z TI TO .ellipsis := hz₁
  replace hs₁ : Heap.SameBut z s.heap h₁ := hs₁
  refine wpAny_bind ?_
  simp only [List.zipIdx_cons, List.forIn_cons]
  refine wpAny_bind (wpAny_bind (wpAny_onRaise ?_))
  show wpAny _ _ (Builtin.SmallTypes.nextOf (.ref i1) >>= _) _ _ _
  refine wpAny_bind (D1.done { s with heap := h₁ } _ _ (D1.frame _ _ _ st1 fun b hb o e => hs₁.extBut b o (fun q => zf1 (q ▸ hb)) e) fun h₂ e hs₂ he => ?_)
  obtain ⟨oe, hoe, hce⟩ := he
  have hz₂ : IsZip h₂ z TI TO .ellipsis := hs₂ _ _ i1z.symm hz₁
  have hez : e ≠ z := fun x => by subst x; rw [hz₂] at hoe; cases hoe; simp at hce
  refine wpAny_setField_rec (s := { s with heap := h₂ }) hz₂ (by simp) fun h₃ _ hs₃ => hE h₃ e (fun c o c1 c3 x => hs₃.extBut _ _ c1 (hs₂ _ _ c3 (hs₁.extBut _ _ c1 x))) ⟨oe, hs₃.extBut _ _ hez hoe, hce⟩
theorem pyNext_end1 (hh : A.handled = none) (D1 : Draws prog w A.in1 i1 fp1 n1 P1 S1) {rest : List Value} {Q : Option Value → Shared → Prop} (i1z : i1 ≠ z) (zf1 : z ∉ fp1)
    (hz : IsZip s.heap z TI TO .none) (hTI : s.heap.get? TI = some { cls := .type "tuple", data := .seq (.ref i1 :: rest).toArray }) (st1 : S1 n1 s.heap)
    (hQ : ∀ h', (∀ c o, c ≠ z → c ≠ i1 → s.heap.get? c = some o → h'.get? c = some o) → Q none { s with heap := h' }) : wpAny (model prog w) A (pyNext (.ref z)) Q E s := by
  have hT : s.TypeIs (.ref z) "zip" := ⟨_, hz, rfl⟩
  unfold pyNext
  refine wpAny_bind (wpAny_attempt (wpAny_callSpecial?_slot (name := Str.ofString "__next__") hT F.slot_zip_next
    (wpAny_call_entry F.slot_zip_next hT F.entry_zip_next (zip_end1 (A := A.in1) hh D1 i1z zf1 hz hTI st1 fun h' e hk he => ?_) (F.args_zip_next_1 _))))
  obtain ⟨o, ho, hc⟩ := he
  refine wpAny_bind (wpAny_isInstance (T := "StopIteration") (b := true) ⟨o, ho, hc⟩ isSubtype_stop ?_)
  exact wpAny_pure (hQ _ hk)
theorem pyNext_zip2 (D1 : Draws prog w A.in1 i1 fp1 n1 P1 S1) (D2 : Draws prog w A.in1 i2 fp2 n2 P2 S2) {i : Nat} {a b : Value} {Q : Option Value → Shared → Prop} (Z : Zp z TI TO [i1, i2] [fp1, fp2]) (h12 : i1 ∉ fp2) (h21 : i2 ∉ fp1) (h_1 : i1 ∈ fp1) (h_2 : i2 ∈ fp2)
    (hz : IsZip s.heap z TI TO .none) (hTI : IsPair s.heap TI (.ref i1) (.ref i2)) (hTO : IsPair s.heap TO a b) (st1 : S1 i s.heap) (st2 : S2 i s.heap) (hn1 : i < n1) (hn2 : i < n2)
    (hQ : ∀ h' tk x y, P1 i x → P2 i y → IsZip h' z TI TO (rawInt s.heap.objs.size) → IsPair h' TI (.ref i1) (.ref i2) → IsPair h' TO x y → S1 (i + 1) h' → S2 (i + 1) h' → IsPair h' s.heap.objs.size x y →
      (∀ c o, c ≠ z → c ≠ TO → c ≠ i1 → c ≠ i2 → s.heap.get? c = some o → h'.get? c = some o) → Q (some (.ref s.heap.objs.size)) { s with heap := h', toks := tk }) :
    wpAny (model prog w) A (pyNext (.ref z)) Q E s := by
  have hT : s.TypeIs (.ref z) "zip" := ⟨_, hz, rfl⟩
  unfold pyNext
  exact wpAny_bind (wpAny_attempt (wpAny_callSpecial?_slot (name := Str.ofString "__next__") hT F.slot_zip_next
    (wpAny_call_entry F.slot_zip_next hT F.entry_zip_next
      (zip2_item D1 D2 Z h12 h21 h_1 h_2 hz hTI hTO st1 st2 hn1 hn2 fun h' tk x y a1 a2 a3 a4 a5 a6 a7 a8 a9 => wpAny_pure (hQ h' tk x y a1 a2 a3 a4 a5 a6 a7 a8 a9)) (F.args_zip_next_1 _))))

/-- the state of a zip of two -/
def Z2 (z TI TO i1 i2 : Addr) (S1 S2 : Nat → Heap → Prop) (i : Nat) (h : Heap) : Prop := IsZip h z TI TO .none ∧ IsPair h TI (.ref i1) (.ref i2) ∧ (∃ a b, IsPair h TO a b) ∧ S1 i h ∧ S2 i h
def Z2m (z TI TO i1 i2 : Addr) (S1 S2 : Nat → Heap → Prop) (i : Nat) (T : Addr) (h : Heap) : Prop := IsZip h z TI TO (rawInt T) ∧ IsPair h TI (.ref i1) (.ref i2) ∧ (∃ a b, IsPair h TO a b) ∧ S1 (i + 1) h ∧ S2 (i + 1) h ∧ T ≠ z ∧ T ≠ TO ∧ T ≠ i1 ∧ T ≠ i2 ∧ ∃ ob, h.get? T = some ob ∧ ob.dict = none ∧ ob.slots = #[]
theorem zip2_walks {n : Nat} (hh : A.handled = none) (D1 : Draws prog w A.in1 i1 fp1 n P1 S1) (D2 : Draws prog w A.in1 i2 fp2 n P2 S2) (Z : Zp z TI TO [i1, i2] [fp1, fp2]) (h12 : i1 ∉ fp2) (h21 : i2 ∉ fp1) (h_1 : i1 ∈ fp1) (h_2 : i2 ∈ fp2) :
    WalksT prog w A z (z :: TI :: TO :: (fp1 ++ fp2)) [z, TO, i1, i2] n (fun i vals => ∃ x y, P1 i x ∧ P2 i y ∧ vals = #[x, y]) (Z2 z TI TO i1 i2 S1 S2) (Z2m z TI TO i1 i2 S1 S2) where
  sub := fun c hc => by simp at hc ⊢; rcases hc with rfl | rfl | rfl | rfl <;> simp [h_1, h_2]
  frame := fun i h h' st hk => by
    obtain ⟨hz, hTI, ⟨a, b, hTO⟩, s1, s2⟩ := st
    exact ⟨hk z (by simp) _ hz, hk TI (by simp) _ hTI, ⟨a, b, hk TO (by simp) _ hTO⟩, D1.frame _ _ _ s1 fun b hb o e => hk b (by simp [hb]) o e, D2.frame _ _ _ s2 fun b hb o e => hk b (by simp [hb]) o e⟩
  item := fun i s Q E hi st hQ => by
    obtain ⟨hz, hTI, ⟨a, b, hTO⟩, s1, s2⟩ := st
    refine pyNext_zip2 D1 D2 Z h12 h21 h_1 h_2 hz hTI hTO s1 s2 hi hi fun h' tk x y px py a1 a2 a3 a4 a5 a6 hk => ?_
    have lt : ∀ {c o}, s.heap.get? c = some o → s.heap.objs.size ≠ c := fun e => Nat.ne_of_gt (Heap.lt_size e)
    obtain ⟨o1, e1⟩ := D1.live _ _ s1
    obtain ⟨o2, e2⟩ := D2.live _ _ s2
    exact hQ s.heap.objs.size #[x, y] h' tk ⟨x, y, px, py, rfl⟩ (Nat.le_refl _) ⟨_, a6, rfl, _, rfl⟩ ⟨a1, a2, ⟨_, _, a3⟩, a4, a5, lt hz, lt hTO, lt e1, lt e2, _, a6, rfl, rfl⟩
      fun c o hc e => hk c o (fun x => hc (by simp [x])) (fun x => hc (by simp [x])) (fun x => hc (by simp [x])) (fun x => hc (by simp [x])) e
  go := fun elts k pos i T s Q E hm hQ => by
    obtain ⟨hz, hTI, ⟨a, b, hTO⟩, s1, s2, _⟩ := hm
    obtain ⟨zf1, _, _⟩ := Z.fz fp1 (by simp)
    obtain ⟨zf2, _, _⟩ := Z.fz fp2 (by simp)
    refine wpAny_letOwnedTupleGo_zip hz fun h' hz' hs' => hQ h' ⟨hz', hs'.extBut _ _ Z.TIz hTI, ⟨a, b, hs'.extBut _ _ Z.TOz hTO⟩, D1.frame _ _ _ s1 fun b hb o e => hs'.extBut b o (fun q => zf1 (q ▸ hb)) e, D2.frame _ _ _ s2 fun b hb o e => hs'.extBut b o (fun q => zf2 (q ▸ hb)) e⟩ fun c o hc e => hs'.extBut _ _ (fun x => hc (by simp [x])) e
  apart := fun i T h hm hT => by
    obtain ⟨_, _, _, _, _, t1, t2, t3, t4, _⟩ := hm
    simp at hT
    rcases hT with rfl | rfl | rfl | rfl
    · exact t1 rfl
    · exact t2 rfl
    · exact t3 rfl
    · exact t4 rfl
  done := fun s Q E st hQ => by
    obtain ⟨hz, hTI, _, s1, s2⟩ := st
    obtain ⟨i1z, _, _⟩ := Z.iz i1 (by simp)
    obtain ⟨zf1, _, _⟩ := Z.fz fp1 (by simp)
    exact pyNext_end1 hh D1 i1z zf1 hz hTI s1 fun h' hk => hQ h' s.toks fun c o hc e => hk c o (fun x => hc (by simp [x])) (fun x => hc (by simp [x])) e
  self := fun i s Q E st hQ => wpAny_pyIter_zip st.1 hQ
end
end
section
theorem meets_zip_rl (r l : Addr) (ys : Array Value) (a b c : Int) (t u v : Tok) (k : Int) (hsm : Builtin.Range.small a b c = true) (hk : Builtin.Range.rangeSize a b c = k) :
    Meets (Builtin.«zip.__new__» ⟨[.type "zip", .ref r, .ref l], []⟩) (fun _ R s => IsRange s.heap r a b c t u v ∧ s.heap.IsList l ys ∧
      ∀ h1 h2 h3 h4 h5 : Heap, h1 = s.heap.push { cls := .type "range_iterator", data := .fields #[rawInt a, rawInt k, rawInt c] } → h2 = h1.push { cls := .type "list_iterator", data := .fields #[.ref l, .int 0 0] } →
        h3 = h2.push { cls := .type "tuple", data := .seq #[.ref s.heap.objs.size, .ref h1.objs.size] } → h4 = h3.push { cls := .type "tuple", data := .seq #[.none, .none] } →
        h5 = h4.push { cls := .type "zip", data := .fields #[.none, .bool false, .bool false, .ref h2.objs.size, .ref h3.objs.size] } → R (.ok (.ret (.ref h4.objs.size))) { s with heap := h5 }) :=
  .of_wp fun prog w A R s h => by
    obtain ⟨hp, g, d, tk, os⟩ := s; obtain ⟨hl1, hl2, h⟩ := h
    have hsub := sub_zip
    have hL1 : IsRange (Shared.heap ⟨hp, g, d, tk, os⟩) r a b c t u v := hl1
    have hL2 : Heap.IsList (Shared.heap ⟨hp.push { cls := .type "range_iterator", data := .fields #[rawInt a, rawInt (Builtin.Range.rangeSize a b c), rawInt c] }, g, d, tk, os⟩) l ys := Heap.IsList.push hl2 _
    wp_walk using wpAny_pyIter_range hL1 hsm, wpAny_pyIter_list hL2
    subst hk
    exact ⟨_, rfl, h _ _ _ _ _ rfl rfl rfl rfl rfl⟩
set_option maxHeartbeats 4000000 in
theorem meets_zip_3 (l1 l2 l3 : Addr) (xs ys zs : Array Value) :
    Meets (Builtin.«zip.__new__» ⟨[.type "zip", .ref l1, .ref l2, .ref l3], []⟩) (fun _ R s => s.heap.IsList l1 xs ∧ s.heap.IsList l2 ys ∧ s.heap.IsList l3 zs ∧
      ∀ h1 h2 h3 h4 h5 h6 : Heap, h1 = s.heap.push { cls := .type "list_iterator", data := .fields #[.ref l1, .int 0 0] } → h2 = h1.push { cls := .type "list_iterator", data := .fields #[.ref l2, .int 0 0] } → h3 = h2.push { cls := .type "list_iterator", data := .fields #[.ref l3, .int 0 0] } →
        h4 = h3.push { cls := .type "tuple", data := .seq #[.ref s.heap.objs.size, .ref h1.objs.size, .ref h2.objs.size] } → h5 = h4.push { cls := .type "tuple", data := .seq #[.none, .none, .none] } →
        h6 = h5.push { cls := .type "zip", data := .fields #[.none, .bool false, .bool false, .ref h3.objs.size, .ref h4.objs.size] } → R (.ok (.ret (.ref h5.objs.size))) { s with heap := h6 }) :=
  .of_wp fun prog w A R s h => by
    obtain ⟨hp, g, d, tk, os⟩ := s; obtain ⟨hl1, hl2, hl3, h⟩ := h
    have hsub := sub_zip
    have hL1 : Heap.IsList (Shared.heap ⟨hp, g, d, tk, os⟩) l1 xs := hl1
    have hL2 : Heap.IsList (Shared.heap ⟨hp.push { cls := .type "list_iterator", data := .fields #[.ref l1, .int 0 0] }, g, d, tk, os⟩) l2 ys := Heap.IsList.push hl2 _
    have hL3 : Heap.IsList (Shared.heap ⟨(hp.push { cls := .type "list_iterator", data := .fields #[.ref l1, .int 0 0] }).push { cls := .type "list_iterator", data := .fields #[.ref l2, .int 0 0] }, g, d, tk, os⟩) l3 zs := (Heap.IsList.push hl3 _).push _
    wp_walk using wpAny_pyIter_list hL1, wpAny_pyIter_list hL2, wpAny_pyIter_list hL3
    exact ⟨_, rfl, h _ _ _ _ _ _ rfl rfl rfl rfl rfl rfl⟩
end
section
abbrev IsTrip (h : Heap) (T : Addr) (a b c : Value) : Prop := h.get? T = some { cls := .type "tuple", data := .seq #[a, b, c] }
section
variable {prog : Program} {w : World} {A : Around} {E : Value → Shared → Prop} {s : Shared}
variable {z TI TO i1 i2 i3 : Addr} {fp1 fp2 fp3 : List Addr} {n1 n2 n3 : Nat} {P1 P2 P3 : Nat → Value → Prop} {S1 S2 S3 : Nat → Heap → Prop}
theorem updateSeq_trip {T : Addr} {a b c x : Value} {k : Nat} {Q : Unit → Shared → Prop} (hT : IsTrip s.heap T a b c)
    (h : ∀ h', h'.get? T = some { cls := .type "tuple", data := .seq ((#[a, b, c] : Array Value).setIfInBounds k x) } → Heap.SameBut T s.heap h' → Q () { s with heap := h' }) :
    wpAny (model prog w) A (updateSeq T (·.setIfInBounds k x)) Q E s := by
  refine wpAny_updateSeq hT rfl (h _ ?_ (Heap.SameBut.update ..))
  rw [Heap.get?_update_self _ hT rfl]
  simp [Obj.mapSeq]
theorem zip3_item (D1 : Draws prog w A i1 fp1 n1 P1 S1) (D2 : Draws prog w A i2 fp2 n2 P2 S2) (D3 : Draws prog w A i3 fp3 n3 P3 S3) {i : Nat} {a b c₀ : Value} {Q : Value → Shared → Prop} (Z : Zp z TI TO [i1, i2, i3] [fp1, fp2, fp3]) (h12 : i1 ∉ fp2) (h21 : i2 ∉ fp1) (h13 : i1 ∉ fp3) (h31 : i3 ∉ fp1) (h23 : i2 ∉ fp3) (h32 : i3 ∉ fp2) (h_1 : i1 ∈ fp1) (h_2 : i2 ∈ fp2) (h_3 : i3 ∈ fp3)
    (hz : IsZip s.heap z TI TO .none) (hTI : IsTrip s.heap TI (.ref i1) (.ref i2) (.ref i3)) (hTO : IsTrip s.heap TO a b c₀) (st1 : S1 i s.heap) (st2 : S2 i s.heap) (st3 : S3 i s.heap) (hn1 : i < n1) (hn2 : i < n2) (hn3 : i < n3)
    (hQ : ∀ h' tk x y v, P1 i x → P2 i y → P3 i v → IsZip h' z TI TO (rawInt s.heap.objs.size) → IsTrip h' TI (.ref i1) (.ref i2) (.ref i3) → IsTrip h' TO x y v → S1 (i + 1) h' → S2 (i + 1) h' → S3 (i + 1) h' → IsTrip h' s.heap.objs.size x y v →
      (∀ c o, c ≠ z → c ≠ TO → c ≠ i1 → c ≠ i2 → c ≠ i3 → s.heap.get? c = some o → h'.get? c = some o) → Q (.ref s.heap.objs.size) { s with heap := h', toks := tk }) :
    wpAny (model prog w) A (Builtin.«zip.__next__» ⟨[.ref z], []⟩) (fun fin s' => ∃ v, fin = .done (.ret v) ∧ Q v s') E s := by
  obtain ⟨i1z, TIi1, TOi1⟩ := Z.iz i1 (by simp)
  obtain ⟨i2z, TIi2, TOi2⟩ := Z.iz i2 (by simp)
  obtain ⟨i3z, TIi3, TOi3⟩ := Z.iz i3 (by simp)
  obtain ⟨zf1, TOf1, TIf1⟩ := Z.fz fp1 (by simp)
  obtain ⟨zf2, TOf2, TIf2⟩ := Z.fz fp2 (by simp)
  obtain ⟨zf3, TOf3, TIf3⟩ := Z.fz fp3 (by simp)
  have i12 : i1 ≠ i2 := fun e => h12 (e ▸ h_2)
  have mv : ∀ {fp : List Addr} {S : Nat → Heap → Prop} {it : Addr} {n : Nat} {P : Nat → Value → Prop} {k : Nat} {h h' : Heap} {c : Addr}, Draws prog w A it fp n P S → S k h → c ∉ fp → Heap.SameBut c h h' → S k h' :=
    fun D st hc hs => D.frame _ _ _ st fun b hb o e => hs.extBut b o (fun q => hc (q ▸ hb)) e
  show wpAny _ _ (field (.ref z) 2 >>= _) _ _ _
  refine wpAny_bind (wpAny_field hz rfl (x := .bool false) rfl ?_)
  show wpAny _ _ (field (.ref z) 3 >>= _) _ _ _
  refine wpAny_bind (wpAny_field hz rfl (x := .ref TI) rfl ?_)
  refine wpAny_bind (wpAny_seqItems hTI rfl ?_)
  show wpAny _ _ (Builtin.SmallTypes.ownedTupleIsFree (.ref z) >>= _) _ _ _
  refine wpAny_bind ?_
  unfold Builtin.SmallTypes.ownedTupleIsFree
  refine wpAny_bind (wpAny_field hz rfl (x := .none) rfl (wpAny_pure ?_))
  simp only [if_true]
  refine wpAny_bind (wpAny_rule ?_)
  refine wpAny_bind (wpAny_field hz rfl (x := .ref TO) rfl ?_)
  refine wpAny_bind (wpAny_setField_rec hz (by simp) fun h₁ hz₁ hs₁ => ?_)
  replace hz₁ : IsZip h₁ z TI TO .ellipsis := hz₁
  replace hs₁ : Heap.SameBut z s.heap h₁ := hs₁
  refine wpAny_bind ?_
  simp only [List.zipIdx_cons, List.zipIdx_nil, List.forIn_cons, List.forIn_nil]
  refine wpAny_bind (wpAny_bind (wpAny_onRaise ?_))
  show wpAny _ _ (Builtin.SmallTypes.nextOf (.ref i1) >>= _) _ _ _
  refine wpAny_bind (D1.item i _ _ _ hn1 (mv D1 st1 zf1 hs₁) fun x h₂ t₂ px s1' hs₂ => wpAny_pure ?_)
  replace hs₂ : Heap.SameBut i1 h₁ h₂ := hs₂
  have hTO₂ : IsTrip h₂ TO a b c₀ := hs₂.extBut _ _ TOi1 (hs₁.extBut _ _ Z.TOz hTO)
  refine wpAny_bind (wpAny_seqItems (s := { s with heap := h₂, toks := t₂ }) hTO₂ rfl ?_)
  refine wpAny_bind (updateSeq_trip (s := { s with heap := h₂, toks := t₂ }) hTO₂ fun h₃ hTO₃ hs₃ => ?_)
  replace hTO₃ : IsTrip h₃ TO x b c₀ := hTO₃
  replace hs₃ : Heap.SameBut TO h₂ h₃ := hs₃
  refine wpAny_bind (wpAny_letGo (wpAny_pure ?_))
  refine wpAny_bind (wpAny_bind (wpAny_onRaise ?_))
  show wpAny _ _ (Builtin.SmallTypes.nextOf (.ref i2) >>= _) _ _ _
  refine wpAny_bind (D2.item i { s with heap := h₃, toks := t₂ } _ _ hn2 (mv D2 (mv D2 (mv D2 st2 zf2 hs₁) h12 hs₂) TOf2 hs₃) fun y h₄ t₄ py s2' hs₄ => wpAny_pure ?_)
  replace hs₄ : Heap.SameBut i2 h₃ h₄ := hs₄
  have hTO₄ : IsTrip h₄ TO x b c₀ := hs₄.extBut _ _ TOi2 hTO₃
  refine wpAny_bind (wpAny_seqItems (s := { s with heap := h₄, toks := t₄ }) hTO₄ rfl ?_)
  refine wpAny_bind (updateSeq_trip (s := { s with heap := h₄, toks := t₄ }) hTO₄ fun h₅ hTO₅ hs₅ => ?_)
  replace hTO₅ : IsTrip h₅ TO x y c₀ := hTO₅
  replace hs₅ : Heap.SameBut TO h₄ h₅ := hs₅
  refine wpAny_bind (wpAny_letGo (wpAny_pure ?_))
  refine wpAny_bind (wpAny_bind (wpAny_onRaise ?_))
  show wpAny _ _ (Builtin.SmallTypes.nextOf (.ref i3) >>= _) _ _ _
  refine wpAny_bind (D3.item i { s with heap := h₅, toks := t₄ } _ _ hn3 (mv D3 (mv D3 (mv D3 (mv D3 (mv D3 st3 zf3 hs₁) h13 hs₂) TOf3 hs₃) h23 hs₄) TOf3 hs₅) fun v ha ta pv s3' hsa => wpAny_pure ?_)
  replace hsa : Heap.SameBut i3 h₅ ha := hsa
  have hTOa : IsTrip ha TO x y c₀ := hsa.extBut _ _ TOi3 hTO₅
  refine wpAny_bind (wpAny_seqItems (s := { s with heap := ha, toks := ta }) hTOa rfl ?_)
  refine wpAny_bind (updateSeq_trip (s := { s with heap := ha, toks := ta }) hTOa fun hb hTOb hsb => ?_)
  replace hTOb : IsTrip hb TO x y v := hTOb
  replace hsb : Heap.SameBut TO ha hb := hsb
  refine wpAny_bind (wpAny_letGo (wpAny_pure (wpAny_pure ?_)))
  refine wpAny_bind (wpAny_seqItems (s := { s with heap := hb, toks := ta }) hTOb rfl ?_)
  refine wpAny_bind (wpAny_newTuple ?_)
  have hsz : hb.objs.size = s.heap.objs.size := by rw [hsb.1, hsa.1, hs₅.1, hs₄.1, hs₃.1, hs₂.1, hs₁.1]
  have hz₅ : IsZip h₅ z TI TO .ellipsis := hs₅.extBut _ _ Z.TOz.symm (hs₄.extBut _ _ i2z.symm (hs₃.extBut _ _ Z.TOz.symm (hs₂.extBut _ _ i1z.symm hz₁)))
  have hzb : IsZip hb z TI TO .ellipsis := hsb.extBut _ _ Z.TOz.symm (hsa.extBut _ _ i3z.symm hz₅)
  have hk₅ : ∀ c o, c ≠ z → c ≠ TO → c ≠ i1 → c ≠ i2 → c ≠ i3 → s.heap.get? c = some o → hb.get? c = some o := fun c o c1 c2 c3 c4 c5 e =>
    hsb.extBut _ _ c2 (hsa.extBut _ _ c5 (hs₅.extBut _ _ c2 (hs₄.extBut _ _ c4 (hs₃.extBut _ _ c2 (hs₂.extBut _ _ c3 (hs₁.extBut _ _ c1 e))))))
  have s1₅ : S1 (i + 1) hb := mv D1 (mv D1 (mv D1 (mv D1 (mv D1 s1' TOf1 hs₃) h21 hs₄) TOf1 hs₅) h31 hsa) TOf1 hsb
  have s2₅ : S2 (i + 1) hb := mv D2 (mv D2 (mv D2 s2' TOf2 hs₅) h32 hsa) TOf2 hsb
  have s3₅ : S3 (i + 1) hb := mv D3 s3' TOf3 hsb
  have hzlt : z < hb.objs.size := Heap.lt_size hzb
  show wpAny _ _ (Builtin.SmallTypes.ownedTupleHandOut (.ref z) (.ref hb.objs.size) >>= _) _ _ _
  refine wpAny_bind ?_
  unfold Builtin.SmallTypes.ownedTupleHandOut
  have hz₆ : IsZip (hb.push { cls := .type "tuple", data := .seq #[x, y, v] }) z TI TO .ellipsis := Heap.get?_push_of_some _ hzb
  refine wpAny_bind (wpAny_setField_rec (s := { s with heap := hb.push { cls := .type "tuple", data := .seq #[x, y, v] }, toks := ta }) hz₆ (by simp) fun h₇ hz₇ hs₇ => ?_)
  replace hz₇ : IsZip h₇ z TI TO (rawInt hb.objs.size) := hz₇
  refine wpAny_setField_rec (s := { s with heap := h₇, toks := ta }) hz₇ (by simp) fun h₈ hz₈ hs₈ => ?_
  replace hz₈ : IsZip h₈ z TI TO (rawInt hb.objs.size) := hz₈
  have up : ∀ c o, c ≠ z → hb.get? c = some o → h₈.get? c = some o := fun c o c1 e => hs₈.extBut _ _ c1 (hs₇.extBut _ _ c1 (Heap.get?_push_of_some _ e))
  have hT₈ : IsTrip h₈ hb.objs.size x y v := hs₈.extBut _ _ (Nat.ne_of_gt hzlt) (hs₇.extBut _ _ (Nat.ne_of_gt hzlt) (Heap.get?_push_size _ rfl))
  rw [hsz] at hz₈ hT₈
  refine wpAny_pure ⟨_, rfl, ?_⟩
  show Q (.ref hb.objs.size) _
  rw [hsz]
  have upS : ∀ {fp : List Addr} {S : Nat → Heap → Prop} {it : Addr} {n : Nat} {P : Nat → Value → Prop} {k : Nat}, Draws prog w A it fp n P S → S k hb → z ∉ fp → S k h₈ := fun D st hc => D.frame _ _ _ st fun b hb o e => up b o (fun q => hc (q ▸ hb)) e
  exact hQ h₈ ta x y v px py pv hz₈ (up _ _ Z.TIz (hk₅ _ _ Z.TIz Z.TITO TIi1 TIi2 TIi3 hTI)) (up _ _ Z.TOz hTOb) (upS D1 s1₅ zf1) (upS D2 s2₅ zf2) (upS D3 s3₅ zf3) hT₈ fun c o c1 c2 c3 c4 c5 e => up c o c1 (hk₅ c o c1 c2 c3 c4 c5 e)
theorem pyNext_zip3 (D1 : Draws prog w A.in1 i1 fp1 n1 P1 S1) (D2 : Draws prog w A.in1 i2 fp2 n2 P2 S2) (D3 : Draws prog w A.in1 i3 fp3 n3 P3 S3) {i : Nat} {a b c₀ : Value} {Q : Option Value → Shared → Prop} (Z : Zp z TI TO [i1, i2, i3] [fp1, fp2, fp3]) (h12 : i1 ∉ fp2) (h21 : i2 ∉ fp1) (h13 : i1 ∉ fp3) (h31 : i3 ∉ fp1) (h23 : i2 ∉ fp3) (h32 : i3 ∉ fp2) (h_1 : i1 ∈ fp1) (h_2 : i2 ∈ fp2) (h_3 : i3 ∈ fp3)
    (hz : IsZip s.heap z TI TO .none) (hTI : IsTrip s.heap TI (.ref i1) (.ref i2) (.ref i3)) (hTO : IsTrip s.heap TO a b c₀) (st1 : S1 i s.heap) (st2 : S2 i s.heap) (st3 : S3 i s.heap) (hn1 : i < n1) (hn2 : i < n2) (hn3 : i < n3)
    (hQ : ∀ h' tk x y v, P1 i x → P2 i y → P3 i v → IsZip h' z TI TO (rawInt s.heap.objs.size) → IsTrip h' TI (.ref i1) (.ref i2) (.ref i3) → IsTrip h' TO x y v → S1 (i + 1) h' → S2 (i + 1) h' → S3 (i + 1) h' → IsTrip h' s.heap.objs.size x y v →
      (∀ c o, c ≠ z → c ≠ TO → c ≠ i1 → c ≠ i2 → c ≠ i3 → s.heap.get? c = some o → h'.get? c = some o) → Q (some (.ref s.heap.objs.size)) { s with heap := h', toks := tk }) :
    wpAny (model prog w) A (pyNext (.ref z)) Q E s := by
  have hT : s.TypeIs (.ref z) "zip" := ⟨_, hz, rfl⟩
  unfold pyNext
  exact wpAny_bind (wpAny_attempt (wpAny_callSpecial?_slot (name := Str.ofString "__next__") hT F.slot_zip_next
    (wpAny_call_entry F.slot_zip_next hT F.entry_zip_next
      (zip3_item D1 D2 D3 Z h12 h21 h13 h31 h23 h32 h_1 h_2 h_3 hz hTI hTO st1 st2 st3 hn1 hn2 hn3 fun h' tk x y v a1 a2 a3 a4 a5 a6 a7 a8 a9 a10 a11 => wpAny_pure (hQ h' tk x y v a1 a2 a3 a4 a5 a6 a7 a8 a9 a10 a11)) (F.args_zip_next_1 _))))
/-- the state of a zip of three -/
def Z3 (z TI TO i1 i2 i3 : Addr) (S1 S2 S3 : Nat → Heap → Prop) (i : Nat) (h : Heap) : Prop := IsZip h z TI TO .none ∧ IsTrip h TI (.ref i1) (.ref i2) (.ref i3) ∧ (∃ a b c, IsTrip h TO a b c) ∧ S1 i h ∧ S2 i h ∧ S3 i h
def Z3m (z TI TO i1 i2 i3 : Addr) (S1 S2 S3 : Nat → Heap → Prop) (i : Nat) (T : Addr) (h : Heap) : Prop := IsZip h z TI TO (rawInt T) ∧ IsTrip h TI (.ref i1) (.ref i2) (.ref i3) ∧ (∃ a b c, IsTrip h TO a b c) ∧ S1 (i + 1) h ∧ S2 (i + 1) h ∧ S3 (i + 1) h ∧ T ≠ z ∧ T ≠ TO ∧ T ≠ i1 ∧ T ≠ i2 ∧ T ≠ i3 ∧ ∃ ob, h.get? T = some ob ∧ ob.dict = none ∧ ob.slots = #[]
theorem zip3_walks {n : Nat} (hh : A.handled = none) (D1 : Draws prog w A.in1 i1 fp1 n P1 S1) (D2 : Draws prog w A.in1 i2 fp2 n P2 S2) (D3 : Draws prog w A.in1 i3 fp3 n P3 S3) (Z : Zp z TI TO [i1, i2, i3] [fp1, fp2, fp3]) (h12 : i1 ∉ fp2) (h21 : i2 ∉ fp1) (h13 : i1 ∉ fp3) (h31 : i3 ∉ fp1) (h23 : i2 ∉ fp3) (h32 : i3 ∉ fp2) (h_1 : i1 ∈ fp1) (h_2 : i2 ∈ fp2) (h_3 : i3 ∈ fp3) :
    WalksT prog w A z (z :: TI :: TO :: (fp1 ++ fp2 ++ fp3)) [z, TO, i1, i2, i3] n (fun i vals => ∃ x y v, P1 i x ∧ P2 i y ∧ P3 i v ∧ vals = #[x, y, v]) (Z3 z TI TO i1 i2 i3 S1 S2 S3) (Z3m z TI TO i1 i2 i3 S1 S2 S3) where
  sub := fun c hc => by simp at hc ⊢; rcases hc with rfl | rfl | rfl | rfl | rfl <;> simp [h_1, h_2, h_3]
  frame := fun i h h' st hk => by
    obtain ⟨hz, hTI, ⟨a, b, c, hTO⟩, s1, s2, s3⟩ := st
    exact ⟨hk z (by simp) _ hz, hk TI (by simp) _ hTI, ⟨a, b, c, hk TO (by simp) _ hTO⟩, D1.frame _ _ _ s1 fun b hb o e => hk b (by simp [hb]) o e, D2.frame _ _ _ s2 fun b hb o e => hk b (by simp [hb]) o e, D3.frame _ _ _ s3 fun b hb o e => hk b (by simp [hb]) o e⟩
  item := fun i s Q E hi st hQ => by
    obtain ⟨hz, hTI, ⟨a, b, c, hTO⟩, s1, s2, s3⟩ := st
    refine pyNext_zip3 D1 D2 D3 Z h12 h21 h13 h31 h23 h32 h_1 h_2 h_3 hz hTI hTO s1 s2 s3 hi hi hi fun h' tk x y v px py pv a1 a2 a3 a4 a5 a5' a6 hk => ?_
    have lt : ∀ {c o}, s.heap.get? c = some o → s.heap.objs.size ≠ c := fun e => Nat.ne_of_gt (Heap.lt_size e)
    obtain ⟨o1, e1⟩ := D1.live _ _ s1
    obtain ⟨o2, e2⟩ := D2.live _ _ s2
    obtain ⟨o3, e3⟩ := D3.live _ _ s3
    exact hQ s.heap.objs.size #[x, y, v] h' tk ⟨x, y, v, px, py, pv, rfl⟩ (Nat.le_refl _) ⟨_, a6, rfl, _, rfl⟩ ⟨a1, a2, ⟨_, _, _, a3⟩, a4, a5, a5', lt hz, lt hTO, lt e1, lt e2, lt e3, _, a6, rfl, rfl⟩
      fun c o hc e => hk c o (fun x => hc (by simp [x])) (fun x => hc (by simp [x])) (fun x => hc (by simp [x])) (fun x => hc (by simp [x])) (fun x => hc (by simp [x])) e
  go := fun elts k pos i T s Q E hm hQ => by
    obtain ⟨hz, hTI, ⟨a, b, c, hTO⟩, s1, s2, s3, _⟩ := hm
    obtain ⟨zf1, _, _⟩ := Z.fz fp1 (by simp)
    obtain ⟨zf2, _, _⟩ := Z.fz fp2 (by simp)
    obtain ⟨zf3, _, _⟩ := Z.fz fp3 (by simp)
    refine wpAny_letOwnedTupleGo_zip hz fun h' hz' hs' => hQ h' ⟨hz', hs'.extBut _ _ Z.TIz hTI, ⟨a, b, c, hs'.extBut _ _ Z.TOz hTO⟩, D1.frame _ _ _ s1 fun b hb o e => hs'.extBut b o (fun q => zf1 (q ▸ hb)) e, D2.frame _ _ _ s2 fun b hb o e => hs'.extBut b o (fun q => zf2 (q ▸ hb)) e, D3.frame _ _ _ s3 fun b hb o e => hs'.extBut b o (fun q => zf3 (q ▸ hb)) e⟩ fun c o hc e => hs'.extBut _ _ (fun x => hc (by simp [x])) e
  apart := fun i T h hm hT => by
    obtain ⟨_, _, _, _, _, _, t1, t2, t3, t4, t5, _⟩ := hm
    simp at hT
    rcases hT with rfl | rfl | rfl | rfl | rfl
    · exact t1 rfl
    · exact t2 rfl
    · exact t3 rfl
    · exact t4 rfl
    · exact t5 rfl
  done := fun s Q E st hQ => by
    obtain ⟨hz, hTI, _, s1, s2, _⟩ := st
    obtain ⟨i1z, _, _⟩ := Z.iz i1 (by simp)
    obtain ⟨zf1, _, _⟩ := Z.fz fp1 (by simp)
    exact pyNext_end1 hh D1 i1z zf1 hz hTI s1 fun h' hk => hQ h' s.toks fun c o hc e => hk c o (fun x => hc (by simp [x])) (fun x => hc (by simp [x])) e
  self := fun i s Q E st hQ => wpAny_pyIter_zip st.1 hQ
end
end
section
mutual
theorem Rep.rebad {B B' : List Addr} {h : Heap} (k : ∀ a o, h.get? a = some o → a ∉ B → a ∉ B') : ∀ (x : AV) (v : Value), Rep B h x v → Rep B' h x v
  | .val _, _, e => by simpa only [Rep] using e
  | .int _, _, e => by simpa only [Rep] using e
  | .str _, _, e => by simpa only [Rep] using e
  | .byt _, _, e => by simpa only [Rep] using e
  | .tup xs, v, e => by
    simp only [Rep] at e ⊢
    obtain ⟨a, vs, n, e1, q, e2, e3⟩ := e
    exact ⟨a, vs, n, e1, k _ _ e2 q, e2, Reps.rebad k xs _ e3⟩
  | .any, _, _ => by simp only [Rep]
theorem Reps.rebad {B B' : List Addr} {h : Heap} (k : ∀ a o, h.get? a = some o → a ∉ B → a ∉ B') : ∀ (xs : List AV) (vs : List Value), Reps B h xs vs → Reps B' h xs vs
  | [], _, e => by simpa only [Reps] using e
  | x :: xs, vs, e => by
    simp only [Reps] at e ⊢
    obtain ⟨v, r, e1, e2, e3⟩ := e
    exact ⟨v, r, e1, Rep.rebad k x v e2, Reps.rebad k xs r e3⟩
end
section
variable {B B' : List Addr} {h : Heap}
theorem KVs.rebad {K : Type} (k : ∀ a o, h.get? a = some o → a ∉ B → a ∉ B') {l : List (K × AV)} {l' : List (K × Value)} (e : KVs B h l l') : KVs B' h l l' := by
  induction e with
  | nil => exact .nil
  | cons a _ ih => exact .cons (Rep.rebad k _ _ a) ih
theorem TKs.rebad {K : Type} {mk : K → AV} (k : ∀ a o, h.get? a = some o → a ∉ B → a ∉ B') {l : List (K × AV)} {l' : List (K × Addr × Value)} (e : TKs mk B h l l') : TKs mk B' h l l' := by
  induction e with
  | nil => exact .nil
  | cons a b _ ih => exact .cons (Rep.rebad k _ _ a) (Rep.rebad k _ _ b) ih
theorem NsRep.rebad (k : ∀ a o, h.get? a = some o → a ∉ B → a ∉ B') {f : Str → Option Value} {nm : List Str} {m : List AV} (e : NsRep B h f nm m) : NsRep B' h f nm m := by
  induction e with
  | nil => exact .nil
  | any _ ih => exact .any ih
  | cons a b _ ih => exact .cons a (Rep.rebad k _ _ b) ih
theorem Has.rebad {P : Program} {W : World} {a : Addr} {o : AObj} (k : ∀ a o, h.get? a = some o → a ∉ B → a ∉ B') (H : Has P W B h a o) : Has P W B' h a o := by
  cases o with
  | list xs => obtain ⟨ws, e, r⟩ := H; exact ⟨ws, e, Reps.rebad k _ _ r⟩
  | ns nm m => obtain ⟨f, e, r, q⟩ := H; exact ⟨f, e, r.rebad k, q⟩
  | inst C d => exact H
  | cell y =>
    obtain ⟨v, e, r⟩ := H
    refine ⟨v, e, ?_⟩
    cases y <;> first | exact r | (obtain ⟨u, e1, r1⟩ := r; exact ⟨u, e1, Rep.rebad k _ _ r1⟩)
  | dictI es => obtain ⟨n, kvs, ep, e, r⟩ := H; exact ⟨n, kvs, ep, e, r.rebad k⟩
  | dictS es => obtain ⟨n, kvs, ep, e, r⟩ := H; exact ⟨n, kvs, ep, e, r.rebad k⟩
  | dictTI es => obtain ⟨n, o, ds, ep, xs, e', d1, d2, d3, d4, r⟩ := H; exact ⟨n, o, ds, ep, xs, e', d1, d2, d3, d4, r.rebad k⟩
  | dictTS es => obtain ⟨n, o, ds, ep, xs, e', d1, d2, d3, d4, r⟩ := H; exact ⟨n, o, ds, ep, xs, e', d1, d2, d3, d4, r.rebad k⟩
  | iter l i => exact H
  | rng i j k' => exact H
  | attrs es =>
    obtain ⟨o, ents, ep, e', c, d, z, sk, r⟩ := H
    refine ⟨o, ents, ep, e', c, d, z, sk, fun y => ?_⟩
    have := r y
    split
    · rename_i b eb; rw [eb] at this; obtain ⟨v, h1, h2⟩ := this; exact ⟨v, h1, Rep.rebad k _ _ h2⟩
    · rename_i eb; rw [eb] at this; exact this
  | view T d => exact H
end

@[reducible] def wb (x : Cx) (T : Addr) : Cx := { x with bad := T :: x.bad }
section
variable {x : Cx} {A : Around} {own : Own} {env : Env} {n : Nat} {nm gn : List Str}

theorem bad_add {s : Shared} (R : Rel x own s) {T : Addr} (h0 : s.heap.get? T = none) {h' : Heap} {tk : Nat} (hk : ∀ b o, s.heap.get? b = some o → h'.get? b = some o) (hT : ∃ o, h'.get? T = some o) : Rel (wb x T) own { s with heap := h', toks := tk } := by
  have R' := (Step.grow (tk := tk) R hk).rel
  have kk : ∀ (a : Addr) (o : Obj), s.heap.get? a = some o → a ∉ x.bad → a ∉ T :: x.bad := fun a o e n hm => by
    rcases List.mem_cons.mp hm with rfl | hm
    · rw [h0] at e; cases e
    · exact n hm
  refine ⟨R'.old, R'.lim, R'.os, R'.gens, R'.nodup, fun p hp => ((R.has p hp).rebad kk).grow hk, R'.new, R'.cs, fun p hp => ?_, fun a ha => ?_, R'.kh, R'.kin, R'.tb⟩
  · obtain ⟨a, b, c⟩ := R.ro p hp
    exact ⟨(a.rebad kk).grow hk, b, (R'.ro p hp).2.2⟩
  · rcases List.mem_cons.mp ha with rfl | ha
    · exact hT
    · exact R'.bd a ha
theorem bad_drop {s : Shared} {T : Addr} (R : Rel (wb x T) own s) : Rel x own s := by
  have kk : ∀ (a : Addr) (o : Obj), s.heap.get? a = some o → a ∉ T :: x.bad → a ∉ x.bad := fun a o _ n hm => n (.tail _ hm)
  exact ⟨R.old, R.lim, R.os, R.gens, R.nodup, fun p hp => (R.has p hp).rebad kk, R.new, R.cs, fun p hp => let ⟨a, b, c⟩ := R.ro p hp; ⟨a.rebad kk, b, c⟩, fun a ha => R.bd a (.tail _ ha), R.kh, R.kin, R.tb⟩
theorem bad_step {s₀ s : Shared} {own₀ : Own} {T : Addr} (S : Step (wb x T) own₀ s₀ own s) : Step x own₀ s₀ own s := ⟨bad_drop S.rel, S.ext, S.sub, S.there⟩
theorem bad_in {s₀ s : Shared} {own₀ : Own} (S : Step x own₀ s₀ own s) {T : Addr} (h0 : s.heap.get? T = none) {h' : Heap} {tk : Nat} (hk : ∀ b o, s.heap.get? b = some o → h'.get? b = some o) (hT : ∃ o, h'.get? T = some o) : Step (wb x T) own₀ s₀ own { s with heap := h', toks := tk } :=
  ⟨bad_add S.rel h0 hk hT, fun a o e c n => hk _ _ (S.ext a o e c n), S.sub, fun a o e => let ⟨o', e'⟩ := S.there a o e; ⟨o', hk _ _ e'⟩⟩

theorem callName_raw (H : Fm n A env nm gn) {y : Str} {np p : Pos} {es : List Expr} {v : Value} (hy : y ∈ gn) (g : Glob x.h₀ y v) (hc : Cle x v) {K : Value → Shared → Prop} {E : Value → Shared → Prop} {s : Shared} (R : Rel x own s)
    (h : WVs x A env es own fun as own2 => ∀ vs s', Step x own s own2 s' → Reps x.bad s'.heap as vs → wpAny (model x.prog x.w) A (call v vs) K E s')
    (hs : backTo p (starEach es env) = es.map fun e => (false, eval e env) := by with_unfolding_all rfl) : wpAny (model x.prog x.w) A (eval (.Call (.Name y np) es [] p) env) K E s := by
  refine wpAny_Call_ofName (WP.run (N_glo H hy g (Q := fun a o => a = .val v ∧ o = own) ⟨rfl, rfl⟩) (Step.refl R) fun u s1 own1 S1 k1 ⟨a, r1, e, eo⟩ => ?_)
  subst e eo
  rw [hs, rep_val r1]
  refine callWith_of (P := x.K.In) (by rw [anyFst]; rfl) hc (evalArgs_of (WVs.run h S1 fun vs s2 own2 as S2 k2 r2 h2 => ⟨S2.rel.kin, ?_⟩))
  exact h2 vs s2 S2 r2

theorem Src.of_walksT {elts : List Expr} {k : Nat} {tp : Pos} {I : Addr} {fp wr' : List Addr} {m : Nat} {Pt : Nat → Array Value → Prop} {St : Nat → Heap → Prop} {Mid : Nat → Addr → Heap → Prop} {xs : List AV} (W : WalksT x.prog x.w A I fp wr' m Pt St Mid) (hm : m = xs.length)
    (live : ∀ i h, St i h → ∀ b ∈ fp, ∃ o, h.get? b = some o ∧ o.cls ≠ .none) (nt : ∀ i h, St i h → ∀ b ∈ wr', b ∉ x.bad → ∀ vs n, h.get? b ≠ some { cls := .type "tuple", data := .seq vs n })
    (shape : ∀ i T h, Mid i T h → ∃ ob, h.get? T = some ob ∧ ob.dict = none ∧ ob.slots = #[])
    (val : ∀ i own s vals h', Rel x own s → St i s.heap → Pt i vals → (∀ b o, b ∉ wr' → s.heap.get? b = some o → h'.get? b = some o) → ∃ as, xs[i]? = some (.tup as) ∧ Reps x.bad h' as vals.toList)
    (fin : ∀ s, St m s.heap → wpAny (model x.prog x.w) A (pyNext (.ref I)) (fun r s1 => r = none ∧ ∃ h1 t1, s1 = { s with heap := h1, toks := t1 } ∧ (∀ b o, b ∉ wr' → s.heap.get? b = some o → h1.get? b = some o) ∧ (∀ b ∈ wr', b ∈ x.bad → ∃ o, h1.get? b = some o)) (fun _ _ => False) s) : Src x A (.Tuple elts k tp) (.ref I) xs fp wr' St where
  sub := W.sub
  frame := W.frame
  live := live
  nt := nt
  step := fun i s own R st hi => by
    refine W.item i s _ _ (by omega) st fun T vals h' tk hP hfr hT hMid hk => ⟨.ref T, h', tk, rfl, rfl, hk, ?_⟩
    refine W.go elts k tp i T { s with heap := h', toks := tk } _ _ hMid fun h2 st2 hk2 => ⟨h2, tk, rfl, hk2, st2, ?_⟩
    obtain ⟨as, ea, ra⟩ := val i own s vals h2 R st hP fun b o hb e => hk2 b o hb (hk b o hb e)
    refine ⟨.tup as, ea, ?_⟩
    obtain ⟨o, eo, ec, cn, ed⟩ := hT
    obtain ⟨ob, eb, b1, b2⟩ := shape _ _ _ hMid
    have : ob = o := Option.some.inj (eb.symm.trans eo)
    subst this
    have e2 := hk2 T ob (W.apart _ _ _ hMid) eb
    obtain ⟨oc, od, oda, os⟩ := ob
    dsimp only at ec ed b1 b2
    subst ec ed b1 b2
    simp only [Rep]
    refine ⟨T, vals, cn, rfl, fun hm => ?_, e2, ra⟩
    obtain ⟨o', e'⟩ := R.bd T hm
    exact Nat.lt_irrefl _ (Nat.lt_of_lt_of_le (Heap.lt_size e') hfr)
  self := fun i s Q E st hQ => W.self i s Q E st hQ
  stop := fun s own R st => fin s (hm ▸ st)

theorem ne_a {a b : Nat} (h : @LT.lt Nat _ a b ∨ @LT.lt Nat _ b a) : a ≠ b := by omega
theorem seq_exact {h : Heap} {l : Addr} {ws us : Array Value} (a : h.PlainList l ws) (b : h.IsList l us) : us = ws := by
  obtain ⟨k, e⟩ := a
  obtain ⟨o, e', c, k', d⟩ := b
  rw [e] at e'; cases e'
  simp at d; exact d.1.symm

/-- for ... in zip(list, list) -/
theorem S_forZ2 (H : Fm n A env nm gn) {y : Str} {np p pp : Pos} {e1 e2 : Expr} {elts : List Expr} {kk : Nat} {tp : Pos} {body : List Stmt} {Q : AFlow → Own → Prop} (hy : y ∈ gn) (g : Glob x.h₀ y (.type "zip"))
    (h : WVs x A env [e1, e2] own fun as own1 => ∃ l1 l2 xs ys, ∃ J : Nat → Own → Prop, as = [.val (.ref l1), .val (.ref l2)] ∧ (l1, AObj.list xs) ∈ x.ro ∧ (l2, AObj.list ys) ∈ x.ro ∧ xs.length = ys.length ∧ J 0 own1 ∧
      (∀ T i a b own3, xs[i]? = some a → ys[i]? = some b → J i own3 → WA (wb x T) A env (.Tuple elts kk tp) (.tup [a, b]) own3 fun own4 => WS (wb x T) A (execs body env) own4 (LpPost (J (i + 1)) Q)) ∧
      (∀ own3, J xs.length own3 → Q .next own3))
    (hs : backTo pp (starEach [e1, e2] env) = [e1, e2].map fun e => (false, eval e env) := by with_unfolding_all rfl)
    (hf : ∀ v, foldedSetIterable (.Call (.Name y np) [e1, e2] [] pp) env v = pure v := by intro _; with_unfolding_all rfl) :
    WS x A (exec (.For (.Tuple elts kk tp) (.Call (.Name y np) [e1, e2] [] pp) body [] p) env) own Q := fun s R => by
  have hh := H.hnd
  refine wpAny_For_nil ?_ hf
  have h' : WVs x A env [e1, e2] own fun as own2 => ∀ vs s', Step x own s own2 s' → Reps x.bad s'.heap as vs → wpAny (model x.prog x.w) A (call (.type "zip") vs) (fun v s₁ => wpAny (model x.prog x.w) A (pyIter v) (fun it s₂ => codeAny (model x.prog x.w) A (.forLoop (.Tuple elts kk tp) it body [] env) (fun r s' => match r with | .ok f => ∃ own', Step x own s own' s' ∧ ∃ af, FlowRep x.bad s'.heap af f ∧ Q af own' | .error _ => False) s₂) (fun _ _ => False) s₁) (fun _ _ => False) s' := by
    refine WP.mono h fun v s1 own1 ⟨a, ra, q1⟩ => ⟨a, ra, WP.mono q1 fun v2 s2 own2 ⟨b, rb, l1, l2, xs, ys, J, ee, k1, k2, hlen, j0, turn, done⟩ => ⟨b, rb, ?_⟩⟩
    intro vs s' S' r
    rw [ee] at r
    obtain ⟨u, v, rfl, r1, r2⟩ := reps2 r
    rw [rep_val r1, rep_val r2]
    have R' := S'.rel
    obtain ⟨H1, n1, _⟩ := R'.ro _ k1
    obtain ⟨H2, n2, _⟩ := R'.ro _ k2
    obtain ⟨ws, p1, q1⟩ := H1
    obtain ⟨us, p2, q2⟩ := H2
    have p1 : s'.heap.PlainList l1 ws := p1
    have p2 : s'.heap.PlainList l2 us := p2
    have hl1 := q1.length
    have hl2 := q2.length
    simp at hl1 hl2
    have lt1 : l1 < s'.heap.objs.size := by obtain ⟨k, e⟩ := p1; exact Heap.lt_size e
    have lt2 : l2 < s'.heap.objs.size := by obtain ⟨k, e⟩ := p2; exact Heap.lt_size e
    refine call_zip_2 p1.isList p2.isList fun h' a1 a2 a3 a4 a5 a6 hk => ?_
    generalize hN : s'.heap.objs.size = N at a1 a2 a3 a4 a5 a6 lt1 lt2
    have lt1' : @LT.lt Nat _ l1 N := lt1
    have lt2' : @LT.lt Nat _ l2 N := lt2
    have fresh : ∀ a, N ≤ a → s'.heap.get? a = none := fun a ha => by
      cases e : s'.heap.get? a with
      | none => rfl
      | some o => have := Heap.lt_size e; rw [hN] at this; exact absurd this (Nat.not_lt.mpr ha)
    refine wpAny_pyIter_zip (s := { s' with heap := h' }) a1 ?_
    have D1 := Draws.list (prog := x.prog) (w := x.w) (A := A.in1) hh N l1 (Nat.ne_of_lt lt1) ws
    have D2 := Draws.list (prog := x.prog) (w := x.w) (A := A.in1) hh (N + 1) l2 (Nat.ne_of_lt (Nat.lt_succ_of_lt lt2)) us
    have hws : us.size = ws.size := by omega
    rw [hws] at D2
    have hN4 : N ≠ N + 4 ∧ N + 1 ≠ N + 4 ∧ N + 2 ≠ N + 4 ∧ N + 3 ≠ N + 4 ∧ N + 2 ≠ N + 3 ∧ N + 2 ≠ N ∧ N + 2 ≠ N + 1 ∧ N + 3 ≠ N ∧ N + 3 ≠ N + 1 ∧ N ≠ N + 1 := by omega
    have Z : Zp (N + 4) (N + 2) (N + 3) [N, N + 1] [[N, l1], [N + 1, l2]] := by
      refine ⟨ne_a (by omega), ne_a (by omega), ne_a (by omega), ?_, ?_⟩
      · intro i hi
        simp at hi
        rcases hi with rfl | rfl <;> exact ⟨ne_a (by omega), ne_a (by omega), ne_a (by omega)⟩
      · intro f hf
        simp at hf
        rcases hf with rfl | rfl <;> (simp only [List.mem_cons, List.not_mem_nil, or_false, not_or]; exact ⟨⟨ne_a (by omega), Nat.ne_of_gt (by omega)⟩, ⟨ne_a (by omega), Nat.ne_of_gt (by omega)⟩, ⟨ne_a (by omega), Nat.ne_of_gt (by omega)⟩⟩)
    have W := zip2_walks (w := x.w) (prog := x.prog) hh D1 D2 Z (by simp only [List.mem_cons, List.not_mem_nil, or_false, not_or]; exact ⟨ne_a (by omega), Nat.ne_of_gt lt2⟩) (by simp only [List.mem_cons, List.not_mem_nil, or_false, not_or]; exact ⟨ne_a (by omega), Nat.ne_of_gt (Nat.lt_succ_of_lt lt1)⟩) (by simp) (by simp)
    have S2 : Step (wb x (N + 3)) own s own2 { s' with heap := h', toks := s'.toks } := bad_in S' (fresh _ (by omega)) hk ⟨_, a3⟩
    have src : Src (wb x (N + 3)) A (.Tuple elts kk tp) (.ref (N + 4)) (List.zipWith (fun a b => AV.tup [a, b]) xs ys) ((N + 4) :: (N + 2) :: (N + 3) :: ([N, l1] ++ [N + 1, l2])) [N + 4, N + 3, N, N + 1] (Z2 (N + 4) (N + 2) (N + 3) N (N + 1) (fun i h => h.IsListIter N l1 i ∧ h.IsList l1 ws) (fun i h => h.IsListIter (N + 1) l2 i ∧ h.IsList l2 us)) := by
      refine Src.of_walksT (x := wb x (N + 3)) W (by rw [List.length_zipWith]; omega) ?_ ?_ ?_ ?_ ?_
      · rintro i h ⟨z1, z2, ⟨a, b, z3⟩, ⟨z4, z5⟩, z6, z7⟩ b hb
        simp at hb
        rcases hb with rfl | rfl | rfl | rfl | rfl | rfl | rfl
        · exact ⟨_, z1, by simp⟩
        · exact ⟨_, z2, by simp⟩
        · exact ⟨_, z3, by simp⟩
        · obtain ⟨o, e, c, _⟩ := z4; exact ⟨o, e, by rw [c]; simp⟩
        · obtain ⟨o, e, c, _⟩ := z5; exact ⟨o, e, by rw [c]; simp⟩
        · obtain ⟨o, e, c, _⟩ := z6; exact ⟨o, e, by rw [c]; simp⟩
        · obtain ⟨o, e, c, _⟩ := z7; exact ⟨o, e, by rw [c]; simp⟩
      · rintro i h ⟨z1, z2, ⟨a, b, z3⟩, ⟨z4, z5⟩, z6, z7⟩ b hb hnb vs m e
        simp at hb hnb
        rcases hb with rfl | rfl | rfl | rfl
        · rw [z1] at e; simp at e
        · exact hnb.1 rfl
        · obtain ⟨o, e', c, _⟩ := z4; rw [e] at e'; cases e'; simp at c
        · obtain ⟨o, e', c, _⟩ := z6; rw [e] at e'; cases e'; simp at c
      · intro i T h hm
        exact hm.2.2.2.2.2.2.2.2.2
      · rintro i own' s2 vals h2 R2 ⟨z1, z2, z3, ⟨z4, z5⟩, z6, z7⟩ ⟨va, vb, ha, hb, rfl⟩ hk2
        obtain ⟨G1, _⟩ := R2.ro _ k1
        obtain ⟨G2, _⟩ := R2.ro _ k2
        obtain ⟨ws', g1, g2⟩ := G1
        obtain ⟨us', g3, g4⟩ := G2
        have := seq_exact g1 z5; subst this
        have := seq_exact g3 z7; subst this
        obtain ⟨a, ea, ra⟩ := g2.at (i := i) (v := va) (by rw [← Array.getElem?_toList] at ha; exact ha)
        obtain ⟨b, eb, rb⟩ := g4.at (i := i) (v := vb) (by rw [← Array.getElem?_toList] at hb; exact hb)
        have tk : TupKeep (wb x (N + 3)).bad s2.heap h2 := fun d us m nb e => hk2 d _ (fun hm => by
          simp at hm nb
          rcases hm with rfl | rfl | rfl | rfl
          · rw [z1] at e; simp at e
          · exact nb.1 rfl
          · obtain ⟨o, e', c, _⟩ := z4; rw [e] at e'; cases e'; simp at c
          · obtain ⟨o, e', c, _⟩ := z6; rw [e] at e'; cases e'; simp at c) e
        refine ⟨[a, b], by simp [List.getElem?_zipWith, ea, eb], Reps.cons (Rep.mono tk _ _ ra) (Reps.cons (Rep.mono tk _ _ rb) .nil)⟩
      · rintro s2 ⟨z1, z2, ⟨a, b, z3⟩, z4, z6⟩
        refine pyNext_end1 (rest := [.ref (N + 1)]) hh D1 (ne_a (by omega)) (by simp only [List.mem_cons, List.not_mem_nil, or_false, not_or]; exact ⟨ne_a (by omega), Nat.ne_of_gt (by omega)⟩) z1 z2 z4 fun h4 hk4 => ⟨rfl, h4, s2.toks, rfl, fun c o hc e => hk4 c o (fun q => hc (by simp [q])) (fun q => hc (by simp [q])) e, fun c hc hcb => ?_⟩
        have hcb : c ∈ (N + 3) :: x.bad := hcb
        have hNb : N ≤ c := by simp at hc; rcases hc with rfl | rfl | rfl | rfl <;> omega
        rcases List.mem_cons.mp hcb with rfl | hcb
        · exact ⟨_, hk4 _ _ (ne_a (by omega)) (ne_a (by omega)) z3⟩
        · obtain ⟨o, e⟩ := R'.bd c hcb
          rw [fresh c hNb] at e; cases e
    have st0 : Z2 (N + 4) (N + 2) (N + 3) N (N + 1) (fun i h => h.IsListIter N l1 i ∧ h.IsList l1 ws) (fun i h => h.IsListIter (N + 1) l2 i ∧ h.IsList l2 us) 0 h' :=
      ⟨a1, a2, ⟨_, _, a3⟩, ⟨a4, (p1.at fun o e => hk _ _ e).isList⟩, a5, (p2.at fun o e => hk _ _ e).isList⟩
    have noown : ∀ b, N ≤ b → b ∉ addrs own2 := fun b hb hm => by
      obtain ⟨q, hq, e⟩ := List.mem_map.mp hm
      obtain ⟨o, eo⟩ := (R'.has q hq).there
      have e : q.1 = b := e
      rw [e, fresh b hb] at eo; cases eo
    refine codeAny_mono (loop_src (x := wb x (N + 3)) (Q := Q) S2 src st0 ?_ ?_ (fun b _ hm => src.sub b hm) J j0 ?_ ?_) fun r' s3 hr => ?_
    · intro b hb
      simp at hb
      rcases hb with rfl | rfl | rfl | rfl | rfl | rfl | rfl
      · exact noown _ (by omega)
      · exact noown _ (by omega)
      · exact noown _ (by omega)
      · exact noown _ (by omega)
      · exact n1
      · exact noown _ (by omega)
      · exact n2
    · intro b hb
      have hNb : N ≤ b := by simp at hb; rcases hb with rfl | rfl | rfl | rfl <;> omega
      refine ⟨?_, ?_, fun q hq e => ?_⟩
      · cases e : s.heap.get? b with
        | none => rfl
        | some o => obtain ⟨o', e'⟩ := S'.there _ _ e; rw [fresh b hNb] at e'; cases e'
      · cases e : x.h₀.get? b with
        | none => rfl
        | some o => obtain ⟨o', e'⟩ := R'.old.there _ _ e; rw [fresh b hNb] at e'; cases e'
      · obtain ⟨_, _, o, eo, _⟩ := R'.ro q hq
        rw [e, fresh b hNb] at eo; cases eo
    · intro i a own3 hia j
      rw [List.getElem?_zipWith] at hia
      cases ea : xs[i]? with
      | none => rw [ea] at hia; simp at hia
      | some a' =>
        cases eb : ys[i]? with
        | none => rw [ea, eb] at hia; simp at hia
        | some b' =>
          rw [ea, eb] at hia
          simp at hia
          subst hia
          exact turn (N + 3) i a' b' own3 ea eb j
    · intro own3 j
      refine done own3 ?_
      rw [List.length_zipWith, ← hlen, Nat.min_self] at j
      exact j
    · cases r' with
      | error e => exact hr
      | ok f =>
        obtain ⟨own', S'', af, raf, q⟩ := hr
        refine ⟨own', bad_step S'', af, ?_, q⟩
        cases af <;> first | exact raf | (obtain ⟨v, e, rv⟩ := raf; exact ⟨v, e, Rep.rebad (fun a o _ nn hm => nn (.tail _ hm)) _ _ rv⟩)
  exact callName_raw H hy g Cle.type R h' hs
end
end
section
def zip3 : List AV → List AV → List AV → List AV
  | a :: xs, b :: ys, c :: zs => .tup [a, b, c] :: zip3 xs ys zs
  | _, _, _ => []
theorem zip3_length : ∀ (xs ys zs : List AV), (zip3 xs ys zs).length = min (min xs.length ys.length) zs.length
  | a :: xs, b :: ys, c :: zs => by simp only [zip3, List.length_cons, zip3_length xs ys zs]; omega
  | [], _, _ => by simp [zip3]
  | _ :: _, [], _ => by simp [zip3]
  | _ :: _, _ :: _, [] => by simp [zip3]
theorem zip3_get : ∀ (xs ys zs : List AV) (i : Nat), (zip3 xs ys zs)[i]? = match xs[i]?, ys[i]?, zs[i]? with | some a, some b, some c => some (.tup [a, b, c]) | _, _, _ => none
  | a :: xs, b :: ys, c :: zs, 0 => by simp [zip3]
  | a :: xs, b :: ys, c :: zs, i + 1 => by simp only [zip3, List.getElem?_cons_succ]; exact zip3_get xs ys zs i
  | [], _, _, _ => by simp [zip3]
  | a :: xs, [], _, i => by simp only [zip3, List.getElem?_nil]; cases (a :: xs)[i]? <;> rfl
  | a :: xs, b :: ys, [], i => by simp only [zip3, List.getElem?_nil]; cases (a :: xs)[i]? <;> cases (b :: ys)[i]? <;> rfl
theorem typeCall_zip_3 (a b c : Value) : checkTypeCall "zip" ⟨[a, b, c], []⟩ = pure () := by kernel_rfl
theorem newCall_zip_3 (a b c : Value) : checkBuiltinCall "zip.__new__" ⟨[.type "zip", a, b, c], []⟩ = pure () := by kernel_rfl
theorem args_object_init_4 (a b c d : Value) : argsOk "object.__init__" ⟨[a, b, c, d], []⟩ := F.initArgs_range_3 a b c d
section
variable {prog : Program} {w : World} {A : Around} {E : Value → Shared → Prop} {s : Shared}
theorem call_zip_3 {l1 l2 l3 : Addr} {xs ys zs : Array Value} {Q : Value → Shared → Prop} (hl1 : s.heap.IsList l1 xs) (hl2 : s.heap.IsList l2 ys) (hl3 : s.heap.IsList l3 zs)
    (h : ∀ h', IsZip h' (s.heap.objs.size + 5) (s.heap.objs.size + 3) (s.heap.objs.size + 4) .none → IsTrip h' (s.heap.objs.size + 3) (.ref s.heap.objs.size) (.ref (s.heap.objs.size + 1)) (.ref (s.heap.objs.size + 2)) →
      IsTrip h' (s.heap.objs.size + 4) .none .none .none → h'.IsListIter s.heap.objs.size l1 0 → h'.IsListIter (s.heap.objs.size + 1) l2 0 → h'.IsListIter (s.heap.objs.size + 2) l3 0 → h'.objs.size = s.heap.objs.size + 6 →
      (∀ c o, s.heap.get? c = some o → h'.get? c = some o) → Q (.ref (s.heap.objs.size + 5)) { s with heap := h' }) :
    wpAny (model prog w) A (call (.type "zip") [.ref l1, .ref l2, .ref l3]) Q E s := by
  refine callType_new F.called_zip (by decide) (typeCall_zip_3 _ _ _) (newCall_zip_3 _ _ _) (fun obj => args_object_init_4 obj _ _ _) F.entry_zip_new
    (meets_zip_3 l1 l2 l3 xs ys zs) ⟨hl1, hl2, hl3, ?_⟩
  intro h1 h2 h3 h4 h5 h6 e1 e2 e3 e4 e5 e6
  have z1 : h1.objs.size = s.heap.objs.size + 1 := by rw [e1]; exact Heap.size_push ..
  have z2 : h2.objs.size = s.heap.objs.size + 2 := by rw [e2, Heap.size_push, z1]
  have z3 : h3.objs.size = s.heap.objs.size + 3 := by rw [e3, Heap.size_push, z2]
  have z4 : h4.objs.size = s.heap.objs.size + 4 := by rw [e4, Heap.size_push, z3]
  have z5 : h5.objs.size = s.heap.objs.size + 5 := by rw [e5, Heap.size_push, z4]
  have z6 : h6.objs.size = s.heap.objs.size + 6 := by rw [e6, Heap.size_push, z5]
  have u1 : ∀ c o, s.heap.get? c = some o → h1.get? c = some o := fun c o e => e1 ▸ Heap.get?_push_of_some _ e
  have u2 : ∀ c o, h1.get? c = some o → h2.get? c = some o := fun c o e => e2 ▸ Heap.get?_push_of_some _ e
  have u3 : ∀ c o, h2.get? c = some o → h3.get? c = some o := fun c o e => e3 ▸ Heap.get?_push_of_some _ e
  have u4 : ∀ c o, h3.get? c = some o → h4.get? c = some o := fun c o e => e4 ▸ Heap.get?_push_of_some _ e
  have u5 : ∀ c o, h4.get? c = some o → h5.get? c = some o := fun c o e => e5 ▸ Heap.get?_push_of_some _ e
  have u6 : ∀ c o, h5.get? c = some o → h6.get? c = some o := fun c o e => e6 ▸ Heap.get?_push_of_some _ e
  have g1 : h1.get? s.heap.objs.size = some _ := e1 ▸ Heap.get?_push_size _ rfl
  have g2 : h2.get? h1.objs.size = some _ := e2 ▸ Heap.get?_push_size _ rfl
  have g3 : h3.get? h2.objs.size = some _ := e3 ▸ Heap.get?_push_size _ rfl
  have g4 : h4.get? h3.objs.size = some _ := e4 ▸ Heap.get?_push_size _ rfl
  have g5 : h5.get? h4.objs.size = some _ := e5 ▸ Heap.get?_push_size _ rfl
  have g6 : h6.get? h5.objs.size = some _ := e6 ▸ Heap.get?_push_size _ rfl
  rw [z1] at g2
  rw [z2] at g3
  rw [z3, z1, z2] at g4
  rw [z4] at g5
  rw [z5, z3, z4] at g6
  show _ ∧ _
  rw [z5]
  exact ⟨⟨_, g6, rfl⟩, h _ g6 (u6 _ _ (u5 _ _ g4)) (u6 _ _ g5) ⟨_, u6 _ _ (u5 _ _ (u4 _ _ (u3 _ _ (u2 _ _ g1)))), rfl, rfl⟩ ⟨_, u6 _ _ (u5 _ _ (u4 _ _ (u3 _ _ g2))), rfl, rfl⟩ ⟨_, u6 _ _ (u5 _ _ (u4 _ _ g3)), rfl, rfl⟩ z6
    fun c o e => u6 _ _ (u5 _ _ (u4 _ _ (u3 _ _ (u2 _ _ (u1 _ _ e)))))⟩
end
section
variable {x : Cx} {A : Around} {own : Own} {env : Env} {n : Nat} {nm gn : List Str}
/-- for ... in zip(list, list, list) -/
theorem S_forZ3 (H : Fm n A env nm gn) {y : Str} {np p pp : Pos} {e1 e2 e3 : Expr} {elts : List Expr} {kk : Nat} {tp : Pos} {body : List Stmt} {Q : AFlow → Own → Prop} (hy : y ∈ gn) (g : Glob x.h₀ y (.type "zip"))
    (h : WVs x A env [e1, e2, e3] own fun as own1 => ∃ l1 l2 l3 xs ys zs, ∃ J : Nat → Own → Prop, as = [.val (.ref l1), .val (.ref l2), .val (.ref l3)] ∧ (l1, AObj.list xs) ∈ x.ro ∧ (l2, AObj.list ys) ∈ x.ro ∧ (l3, AObj.list zs) ∈ x.ro ∧ xs.length = ys.length ∧ xs.length = zs.length ∧ J 0 own1 ∧
      (∀ T i a b c own3, xs[i]? = some a → ys[i]? = some b → zs[i]? = some c → J i own3 → WA (wb x T) A env (.Tuple elts kk tp) (.tup [a, b, c]) own3 fun own4 => WS (wb x T) A (execs body env) own4 (LpPost (J (i + 1)) Q)) ∧
      (∀ own3, J xs.length own3 → Q .next own3))
    (hs : backTo pp (starEach [e1, e2, e3] env) = [e1, e2, e3].map fun e => (false, eval e env) := by with_unfolding_all rfl)
    (hf : ∀ v, foldedSetIterable (.Call (.Name y np) [e1, e2, e3] [] pp) env v = pure v := by intro _; with_unfolding_all rfl) :
    WS x A (exec (.For (.Tuple elts kk tp) (.Call (.Name y np) [e1, e2, e3] [] pp) body [] p) env) own Q := fun s R => by
  have hh := H.hnd
  refine wpAny_For_nil ?_ hf
  have h' : WVs x A env [e1, e2, e3] own fun as own2 => ∀ vs s', Step x own s own2 s' → Reps x.bad s'.heap as vs → wpAny (model x.prog x.w) A (call (.type "zip") vs) (fun v s₁ => wpAny (model x.prog x.w) A (pyIter v) (fun it s₂ => codeAny (model x.prog x.w) A (.forLoop (.Tuple elts kk tp) it body [] env) (fun r s' => match r with | .ok f => ∃ own', Step x own s own' s' ∧ ∃ af, FlowRep x.bad s'.heap af f ∧ Q af own' | .error _ => False) s₂) (fun _ _ => False) s₁) (fun _ _ => False) s' := by
    refine WP.mono h fun v s1 own1 ⟨a, ra, q1⟩ => ⟨a, ra, WP.mono q1 fun v2 s2 own2 ⟨b, rb, q2⟩ => ⟨b, rb, WP.mono q2 fun v3 s3 own2 ⟨c, rc, l1, l2, l3, xs, ys, zs, J, ee, k1, k2, k3, hlen, hlen3, j0, turn, done⟩ => ⟨c, rc, ?_⟩⟩⟩
    intro vs s' S' r
    rw [ee] at r
    obtain ⟨u, v, v', rfl, r1, r2, r3⟩ := reps3 r
    rw [rep_val r1, rep_val r2, rep_val r3]
    have R' := S'.rel
    obtain ⟨H1, n1, _⟩ := R'.ro _ k1
    obtain ⟨H2, n2, _⟩ := R'.ro _ k2
    obtain ⟨ws, p1, q1⟩ := H1
    obtain ⟨us, p2, q2⟩ := H2
    obtain ⟨H3, n3, _⟩ := R'.ro _ k3
    obtain ⟨ts, p3, q3⟩ := H3
    have p3 : s'.heap.PlainList l3 ts := p3
    have p1 : s'.heap.PlainList l1 ws := p1
    have p2 : s'.heap.PlainList l2 us := p2
    have hl1 := q1.length
    have hl2 := q2.length
    have hl3 := q3.length
    simp at hl1 hl2 hl3
    have lt1 : l1 < s'.heap.objs.size := by obtain ⟨k, e⟩ := p1; exact Heap.lt_size e
    have lt2 : l2 < s'.heap.objs.size := by obtain ⟨k, e⟩ := p2; exact Heap.lt_size e
    have lt3 : l3 < s'.heap.objs.size := by obtain ⟨k, e⟩ := p3; exact Heap.lt_size e
    refine call_zip_3 p1.isList p2.isList p3.isList fun h' a1 a2 a3 a4 a5 a5' a6 hk => ?_
    generalize hN : s'.heap.objs.size = N at a1 a2 a3 a4 a5 a5' a6 lt1 lt2 lt3
    have lt3' : @LT.lt Nat _ l3 N := lt3
    have lt1' : @LT.lt Nat _ l1 N := lt1
    have lt2' : @LT.lt Nat _ l2 N := lt2
    have fresh : ∀ a, N ≤ a → s'.heap.get? a = none := fun a ha => by
      cases e : s'.heap.get? a with
      | none => rfl
      | some o => have := Heap.lt_size e; rw [hN] at this; exact absurd this (Nat.not_lt.mpr ha)
    refine wpAny_pyIter_zip (s := { s' with heap := h' }) a1 ?_
    have D1 := Draws.list (prog := x.prog) (w := x.w) (A := A.in1) hh N l1 (Nat.ne_of_lt lt1) ws
    have D2 := Draws.list (prog := x.prog) (w := x.w) (A := A.in1) hh (N + 1) l2 (Nat.ne_of_lt (Nat.lt_succ_of_lt lt2)) us
    have hws : us.size = ws.size := by omega
    rw [hws] at D2
    have D3 := Draws.list (prog := x.prog) (w := x.w) (A := A.in1) hh (N + 2) l3 (Nat.ne_of_lt (Nat.lt_succ_of_lt (Nat.lt_succ_of_lt lt3))) ts
    have hws3 : ts.size = ws.size := by omega
    rw [hws3] at D3
    have Z : Zp (N + 5) (N + 3) (N + 4) [N, N + 1, N + 2] [[N, l1], [N + 1, l2], [N + 2, l3]] := by
      refine ⟨ne_a (by omega), ne_a (by omega), ne_a (by omega), ?_, ?_⟩
      · intro i hi
        simp at hi
        rcases hi with rfl | rfl | rfl <;> exact ⟨ne_a (by omega), ne_a (by omega), ne_a (by omega)⟩
      · intro f hf
        simp at hf
        rcases hf with rfl | rfl | rfl <;> (simp only [List.mem_cons, List.not_mem_nil, or_false, not_or]; exact ⟨⟨ne_a (by omega), Nat.ne_of_gt (by omega)⟩, ⟨ne_a (by omega), Nat.ne_of_gt (by omega)⟩, ⟨ne_a (by omega), Nat.ne_of_gt (by omega)⟩⟩)
    have W := zip3_walks (w := x.w) (prog := x.prog) hh D1 D2 D3 Z (by simp only [List.mem_cons, List.not_mem_nil, or_false, not_or]; exact ⟨ne_a (by omega), Nat.ne_of_gt (by omega)⟩) (by simp only [List.mem_cons, List.not_mem_nil, or_false, not_or]; exact ⟨ne_a (by omega), Nat.ne_of_gt (by omega)⟩) (by simp only [List.mem_cons, List.not_mem_nil, or_false, not_or]; exact ⟨ne_a (by omega), Nat.ne_of_gt (by omega)⟩) (by simp only [List.mem_cons, List.not_mem_nil, or_false, not_or]; exact ⟨ne_a (by omega), Nat.ne_of_gt (by omega)⟩) (by simp only [List.mem_cons, List.not_mem_nil, or_false, not_or]; exact ⟨ne_a (by omega), Nat.ne_of_gt (by omega)⟩) (by simp only [List.mem_cons, List.not_mem_nil, or_false, not_or]; exact ⟨ne_a (by omega), Nat.ne_of_gt (by omega)⟩) (by simp) (by simp) (by simp)
    have S2 : Step (wb x (N + 4)) own s own2 { s' with heap := h', toks := s'.toks } := bad_in S' (fresh _ (by omega)) hk ⟨_, a3⟩
    have src : Src (wb x (N + 4)) A (.Tuple elts kk tp) (.ref (N + 5)) (zip3 xs ys zs) ((N + 5) :: (N + 3) :: (N + 4) :: ([N, l1] ++ [N + 1, l2] ++ [N + 2, l3])) [N + 5, N + 4, N, N + 1, N + 2] (Z3 (N + 5) (N + 3) (N + 4) N (N + 1) (N + 2) (fun i h => h.IsListIter N l1 i ∧ h.IsList l1 ws) (fun i h => h.IsListIter (N + 1) l2 i ∧ h.IsList l2 us) (fun i h => h.IsListIter (N + 2) l3 i ∧ h.IsList l3 ts)) := by
      refine Src.of_walksT (x := wb x (N + 4)) W (by rw [zip3_length]; omega) ?_ ?_ ?_ ?_ ?_
      · rintro i h ⟨z1, z2, ⟨a, b, c, z3⟩, ⟨z4, z5⟩, ⟨z6, z7⟩, z8, z9⟩ b hb
        simp at hb
        rcases hb with rfl | rfl | rfl | rfl | rfl | rfl | rfl | rfl | rfl
        · exact ⟨_, z1, by simp⟩
        · exact ⟨_, z2, by simp⟩
        · exact ⟨_, z3, by simp⟩
        · obtain ⟨o, e, c, _⟩ := z4; exact ⟨o, e, by rw [c]; simp⟩
        · obtain ⟨o, e, c, _⟩ := z5; exact ⟨o, e, by rw [c]; simp⟩
        · obtain ⟨o, e, c, _⟩ := z6; exact ⟨o, e, by rw [c]; simp⟩
        · obtain ⟨o, e, c, _⟩ := z7; exact ⟨o, e, by rw [c]; simp⟩
        · obtain ⟨o, e, c, _⟩ := z8; exact ⟨o, e, by rw [c]; simp⟩
        · obtain ⟨o, e, c, _⟩ := z9; exact ⟨o, e, by rw [c]; simp⟩
      · rintro i h ⟨z1, z2, ⟨a, b, c, z3⟩, ⟨z4, z5⟩, ⟨z6, z7⟩, z8, z9⟩ b hb hnb vs m e
        simp at hb hnb
        rcases hb with rfl | rfl | rfl | rfl | rfl
        · rw [z1] at e; simp at e
        · exact hnb.1 rfl
        · obtain ⟨o, e', c, _⟩ := z4; rw [e] at e'; cases e'; simp at c
        · obtain ⟨o, e', c, _⟩ := z6; rw [e] at e'; cases e'; simp at c
        · obtain ⟨o, e', c, _⟩ := z8; rw [e] at e'; cases e'; simp at c
      · intro i T h hm
        exact hm.2.2.2.2.2.2.2.2.2.2.2
      · rintro i own' s2 vals h2 R2 ⟨z1, z2, z3, ⟨z4, z5⟩, ⟨z6, z7⟩, z8, z9⟩ ⟨va, vb, vc, ha, hb, hc, rfl⟩ hk2
        obtain ⟨G1, _⟩ := R2.ro _ k1
        obtain ⟨G2, _⟩ := R2.ro _ k2
        obtain ⟨ws', g1, g2⟩ := G1
        obtain ⟨us', g3, g4⟩ := G2
        obtain ⟨G3, _⟩ := R2.ro _ k3
        obtain ⟨ts', g5, g6⟩ := G3
        have := seq_exact g1 z5; subst this
        have := seq_exact g3 z7; subst this
        have := seq_exact g5 z9; subst this
        obtain ⟨a, ea, ra⟩ := g2.at (i := i) (v := va) (by rw [← Array.getElem?_toList] at ha; exact ha)
        obtain ⟨b, eb, rb⟩ := g4.at (i := i) (v := vb) (by rw [← Array.getElem?_toList] at hb; exact hb)
        obtain ⟨c, ec, rc⟩ := g6.at (i := i) (v := vc) (by rw [← Array.getElem?_toList] at hc; exact hc)
        have tk : TupKeep (wb x (N + 4)).bad s2.heap h2 := fun d us m nb e => hk2 d _ (fun hm => by
          simp at hm nb
          rcases hm with rfl | rfl | rfl | rfl | rfl
          · rw [z1] at e; simp at e
          · exact nb.1 rfl
          · obtain ⟨o, e', c, _⟩ := z4; rw [e] at e'; cases e'; simp at c
          · obtain ⟨o, e', c, _⟩ := z6; rw [e] at e'; cases e'; simp at c
          · obtain ⟨o, e', c, _⟩ := z8; rw [e] at e'; cases e'; simp at c) e
        refine ⟨[a, b, c], by rw [zip3_get, ea, eb, ec], Reps.cons (Rep.mono tk _ _ ra) (Reps.cons (Rep.mono tk _ _ rb) (Reps.cons (Rep.mono tk _ _ rc) .nil))⟩
      · rintro s2 ⟨z1, z2, ⟨a, b, c, z3⟩, z4, z6, z8⟩
        refine pyNext_end1 (rest := [.ref (N + 1), .ref (N + 2)]) hh D1 (ne_a (by omega)) (by simp only [List.mem_cons, List.not_mem_nil, or_false, not_or]; exact ⟨ne_a (by omega), Nat.ne_of_gt (by omega)⟩) z1 z2 z4 fun h4 hk4 => ⟨rfl, h4, s2.toks, rfl, fun c o hc e => hk4 c o (fun q => hc (by simp [q])) (fun q => hc (by simp [q])) e, fun c hc hcb => ?_⟩
        have hcb : c ∈ (N + 4) :: x.bad := hcb
        have hNb : N ≤ c := by simp at hc; rcases hc with rfl | rfl | rfl | rfl | rfl <;> omega
        rcases List.mem_cons.mp hcb with rfl | hcb
        · exact ⟨_, hk4 _ _ (ne_a (by omega)) (ne_a (by omega)) z3⟩
        · obtain ⟨o, e⟩ := R'.bd c hcb
          rw [fresh c hNb] at e; cases e
    have st0 : Z3 (N + 5) (N + 3) (N + 4) N (N + 1) (N + 2) (fun i h => h.IsListIter N l1 i ∧ h.IsList l1 ws) (fun i h => h.IsListIter (N + 1) l2 i ∧ h.IsList l2 us) (fun i h => h.IsListIter (N + 2) l3 i ∧ h.IsList l3 ts) 0 h' :=
      ⟨a1, a2, ⟨_, _, _, a3⟩, ⟨a4, (p1.at fun o e => hk _ _ e).isList⟩, ⟨a5, (p2.at fun o e => hk _ _ e).isList⟩, a5', (p3.at fun o e => hk _ _ e).isList⟩
    have noown : ∀ b, N ≤ b → b ∉ addrs own2 := fun b hb hm => by
      obtain ⟨q, hq, e⟩ := List.mem_map.mp hm
      obtain ⟨o, eo⟩ := (R'.has q hq).there
      have e : q.1 = b := e
      rw [e, fresh b hb] at eo; cases eo
    refine codeAny_mono (loop_src (x := wb x (N + 4)) (Q := Q) S2 src st0 ?_ ?_ (fun b _ hm => src.sub b hm) J j0 ?_ ?_) fun r' s3 hr => ?_
    · intro b hb
      simp at hb
      rcases hb with rfl | rfl | rfl | rfl | rfl | rfl | rfl | rfl | rfl
      · exact noown _ (by omega)
      · exact noown _ (by omega)
      · exact noown _ (by omega)
      · exact noown _ (by omega)
      · exact n1
      · exact noown _ (by omega)
      · exact n2
      · exact noown _ (by omega)
      · exact n3
    · intro b hb
      have hNb : N ≤ b := by simp at hb; rcases hb with rfl | rfl | rfl | rfl | rfl <;> omega
      refine ⟨?_, ?_, fun q hq e => ?_⟩
      · cases e : s.heap.get? b with
        | none => rfl
        | some o => obtain ⟨o', e'⟩ := S'.there _ _ e; rw [fresh b hNb] at e'; cases e'
      · cases e : x.h₀.get? b with
        | none => rfl
        | some o => obtain ⟨o', e'⟩ := R'.old.there _ _ e; rw [fresh b hNb] at e'; cases e'
      · obtain ⟨_, _, o, eo, _⟩ := R'.ro q hq
        rw [e, fresh b hNb] at eo; cases eo
    · intro i a own3 hia j
      rw [zip3_get] at hia
      cases ea : xs[i]? with
      | none => rw [ea] at hia; simp at hia
      | some a' =>
        cases eb : ys[i]? with
        | none => rw [ea, eb] at hia; simp at hia
        | some b' =>
          cases ec : zs[i]? with
          | none => rw [ea, eb, ec] at hia; simp at hia
          | some c' =>
            rw [ea, eb, ec] at hia
            simp at hia
            subst hia
            exact turn (N + 4) i a' b' c' own3 ea eb ec j
    · intro own3 j
      refine done own3 ?_
      rw [zip3_length, ← hlen, ← hlen3, Nat.min_self, Nat.min_self] at j
      exact j
    · cases r' with
      | error e => exact hr
      | ok f =>
        obtain ⟨own', S'', af, raf, q⟩ := hr
        refine ⟨own', bad_step S'', af, ?_, q⟩
        cases af <;> first | exact raf | (obtain ⟨v, e, rv⟩ := raf; exact ⟨v, e, Rep.rebad (fun a o _ nn hm => nn (.tail _ hm)) _ _ rv⟩)
  exact callName_raw H hy g Cle.type R h' hs
end
end
section
theorem enum_walks {prog : Program} {w : World} {A : Around} (hh : A.handled = none) (e it l : Addr) (hei : e ≠ it) (hle : l ≠ e) (hli : l ≠ it) (items : Array Value) :
    WalksT prog w A e [e, it, l] [e, it] items.size
      (fun i vals => ∃ t x, items[i]? = some x ∧ vals = #[.int i t, x])
      (fun i h => (∃ old, IsEnum h e it i old) ∧ h.IsListIter it l i ∧ h.IsList l items)
      (fun i T h => ((∃ x, IsEnumOut h e it ((i : Int) + 1) x T) ∧ h.IsListIter it l (i + 1) ∧ h.IsList l items ∧ T ≠ e ∧ T ≠ it) ∧ ∃ ob, h.get? T = some ob ∧ ob.dict = none ∧ ob.slots = #[]) where
  sub := (WalksT.enumerate (prog := prog) (w := w) hh e it l hei hle hli items).sub
  frame := (WalksT.enumerate (prog := prog) (w := w) hh e it l hei hle hli items).frame
  item := fun i s Q E hi hst hQ => by
    obtain ⟨⟨old, he⟩, hit, hl⟩ := hst
    have hx : items[i]? = some items[i] := Array.getElem?_eq_getElem hi
    refine wpAny_pyNext_enum_item he hit hl hx hei fun h' ho hit' hT hsz hk => ?_
    have helt : e < s.heap.objs.size := Heap.lt_size he
    have hilt : it < s.heap.objs.size := by obtain ⟨_, x, _⟩ := hit; exact Heap.lt_size x
    exact hQ s.heap.objs.size #[.int i s.toks, items[i]] h' (s.toks + 1) ⟨_, _, hx, rfl⟩ (Nat.le_refl _) ⟨_, hT, rfl, _, rfl⟩
      ⟨⟨⟨_, ho⟩, hit', hl.at fun o x => hk l o hle hli x, Nat.ne_of_gt helt, Nat.ne_of_gt hilt⟩, _, hT, rfl, rfl⟩
      fun b o hb x => hk b o (fun e' => hb (by simp [e'])) (fun e' => hb (by simp [e'])) x
  go := fun elts k pos i T s Q E hm hQ => (WalksT.enumerate (prog := prog) (w := w) hh e it l hei hle hli items).go elts k pos i T s Q E hm.1 hQ
  apart := fun i T h hm => (WalksT.enumerate (prog := prog) (w := w) (A := A) hh e it l hei hle hli items).apart i T h hm.1
  done := (WalksT.enumerate (prog := prog) (w := w) hh e it l hei hle hli items).done
  self := (WalksT.enumerate (prog := prog) (w := w) hh e it l hei hle hli items).self

section
variable {x : Cx} {A : Around} {own : Own} {env : Env} {n : Nat} {nm gn : List Str}
def enumAV (xs : List AV) : List AV := (List.range xs.length).map fun i => .tup [.int (i : Nat), xs.getD i .any]
theorem enumAV_get {xs : List AV} {i : Nat} {a : AV} (h : xs[i]? = some a) : (enumAV xs)[i]? = some (.tup [.int (i : Nat), a]) := by
  have hl : i < xs.length := (List.getElem?_eq_some_iff.mp h).1
  unfold enumAV
  rw [List.getElem?_map, List.getElem?_range hl]
  simp [List.getD_eq_getElem?_getD, h]
/-- for i, a in enumerate(list) -/
theorem S_forE (H : Fm n A env nm gn) {y : Str} {np p pp : Pos} {e1 : Expr} {elts : List Expr} {kk : Nat} {tp : Pos} {body : List Stmt} {Q : AFlow → Own → Prop} (hy : y ∈ gn) (g : Glob x.h₀ y (.type "enumerate"))
    (h : WVs x A env [e1] own fun as own1 => ∃ l xs, ∃ J : Nat → Own → Prop, as = [.val (.ref l)] ∧ (l, AObj.list xs) ∈ x.ro ∧ J 0 own1 ∧
      (∀ i a own3, xs[i]? = some a → J i own3 → WA x A env (.Tuple elts kk tp) (.tup [.int (i : Nat), a]) own3 fun own4 => WS x A (execs body env) own4 (LpPost (J (i + 1)) Q)) ∧
      (∀ own3, J xs.length own3 → Q .next own3))
    (hs : backTo pp (starEach [e1] env) = [e1].map fun e => (false, eval e env) := by with_unfolding_all rfl)
    (hf : ∀ v, foldedSetIterable (.Call (.Name y np) [e1] [] pp) env v = pure v := by intro _; with_unfolding_all rfl) :
    WS x A (exec (.For (.Tuple elts kk tp) (.Call (.Name y np) [e1] [] pp) body [] p) env) own Q := fun s R => by
  have hh := H.hnd
  refine wpAny_For_nil ?_ hf
  have h' : WVs x A env [e1] own fun as own2 => ∀ vs s', Step x own s own2 s' → Reps x.bad s'.heap as vs → wpAny (model x.prog x.w) A (call (.type "enumerate") vs) (fun v s₁ => wpAny (model x.prog x.w) A (pyIter v) (fun it s₂ => codeAny (model x.prog x.w) A (.forLoop (.Tuple elts kk tp) it body [] env) (fun r s' => match r with | .ok f => ∃ own', Step x own s own' s' ∧ ∃ af, FlowRep x.bad s'.heap af f ∧ Q af own' | .error _ => False) s₂) (fun _ _ => False) s₁) (fun _ _ => False) s' := by
    refine WP.mono h fun v s1 own1 ⟨a, ra, l, xs, J, ee, k1, j0, turn, done⟩ => ⟨a, ra, ?_⟩
    intro vs s' S' r
    rw [ee] at r
    obtain ⟨u, rfl, r1⟩ := reps1 r
    rw [rep_val r1]
    have R' := S'.rel
    obtain ⟨H1, n1, _⟩ := R'.ro _ k1
    obtain ⟨ws, p1, q1⟩ := H1
    have p1 : s'.heap.PlainList l ws := p1
    have hl1 := q1.length
    simp at hl1
    have lt1 : l < s'.heap.objs.size := by obtain ⟨k, e⟩ := p1; exact Heap.lt_size e
    refine call_enumerate_list p1.isList fun h' a1 a4 a6 hk => ?_
    generalize hN : s'.heap.objs.size = N at a1 a4 a6 lt1
    have lt1' : @LT.lt Nat _ l N := lt1
    have fresh : ∀ a, N ≤ a → s'.heap.get? a = none := fun a ha => by
      cases e : s'.heap.get? a with
      | none => rfl
      | some o => have := Heap.lt_size e; rw [hN] at this; exact absurd this (Nat.not_lt.mpr ha)
    refine wpAny_pyIter_enum (s := { s' with heap := h' }) a1 ?_
    have W := enum_walks (prog := x.prog) (w := x.w) (A := A) hh (N + 1) N l (ne_a (by omega)) (Nat.ne_of_lt (Nat.lt_succ_of_lt lt1)) (Nat.ne_of_lt lt1) ws
    have S2 : Step x own s own1 { s' with heap := h', toks := s'.toks } := S'.trans (Step.grow R' hk)
    have nobad : ∀ b ∈ [N + 1, N], b ∉ x.bad := fun b hb hm => by
      obtain ⟨o, e⟩ := R'.bd b hm
      have hNb : N ≤ b := by simp at hb; rcases hb with rfl | rfl <;> omega
      rw [fresh b hNb] at e; cases e
    have src : Src x A (.Tuple elts kk tp) (.ref (N + 1)) (enumAV xs) [N + 1, N, l] [N + 1, N] (fun i h => (∃ old, IsEnum h (N + 1) N i old) ∧ h.IsListIter N l i ∧ h.IsList l ws) := by
      refine Src.of_walksT W (by simp [enumAV]; omega) ?_ ?_ ?_ ?_ ?_
      · rintro i h ⟨⟨old, z1⟩, z4, z5⟩ b hb
        simp at hb
        rcases hb with rfl | rfl | rfl
        · exact ⟨_, z1, by simp⟩
        · obtain ⟨o, e, c, _⟩ := z4; exact ⟨o, e, by rw [c]; simp⟩
        · obtain ⟨o, e, c, _⟩ := z5; exact ⟨o, e, by rw [c]; simp⟩
      · rintro i h ⟨⟨old, z1⟩, z4, z5⟩ b hb hnb vs m e
        simp at hb
        rcases hb with rfl | rfl
        · rw [z1] at e; simp at e
        · obtain ⟨o, e', c, _⟩ := z4; rw [e] at e'; cases e'; simp at c
      · intro i T h hm
        exact hm.2
      · rintro i own' s2 vals h2 R2 ⟨⟨old, z1⟩, z4, z5⟩ ⟨t, va, ha, rfl⟩ hk2
        obtain ⟨G1, _⟩ := R2.ro _ k1
        obtain ⟨ws', g1, g2⟩ := G1
        have := seq_exact g1 z5; subst this
        obtain ⟨a, ea, ra⟩ := g2.at (i := i) (v := va) (by rw [← Array.getElem?_toList] at ha; exact ha)
        have tk : TupKeep x.bad s2.heap h2 := fun d us m nb e => hk2 d _ (fun hm => by
          simp at hm
          rcases hm with rfl | rfl
          · rw [z1] at e; simp at e
          · obtain ⟨o, e', c, _⟩ := z4; rw [e] at e'; cases e'; simp at c) e
        exact ⟨[.int (i : Nat), a], enumAV_get ea, Reps.cons rep_mk_int (Reps.cons (Rep.mono tk _ _ ra) .nil)⟩
      · intro s2 st
        exact W.done s2 _ _ st fun h4 tk4 hk4 => ⟨rfl, h4, tk4, rfl, hk4, fun c hc hcb => absurd hcb (nobad c hc)⟩
    have st0 : (∃ old, IsEnum h' (N + 1) N ((0 : Nat) : Int) old) ∧ h'.IsListIter N l 0 ∧ h'.IsList l ws := ⟨⟨_, a1⟩, a4, (p1.at fun o e => hk _ _ e).isList⟩
    have noown : ∀ b, N ≤ b → b ∉ addrs own1 := fun b hb hm => by
      obtain ⟨q, hq, e⟩ := List.mem_map.mp hm
      obtain ⟨o, eo⟩ := (R'.has q hq).there
      have e : q.1 = b := e
      rw [e, fresh b hb] at eo; cases eo
    refine codeAny_mono (loop_src (x := x) (Q := Q) S2 src st0 ?_ ?_ (fun b _ hm => src.sub b hm) J j0 ?_ ?_) fun r' s3 hr => ?_
    · intro b hb
      simp at hb
      rcases hb with rfl | rfl | rfl
      · exact noown _ (by omega)
      · exact noown _ (by omega)
      · exact n1
    · intro b hb
      have hNb : N ≤ b := by simp at hb; rcases hb with rfl | rfl <;> omega
      refine ⟨?_, ?_, fun q hq e => ?_⟩
      · cases e : s.heap.get? b with
        | none => rfl
        | some o => obtain ⟨o', e'⟩ := S'.there _ _ e; rw [fresh b hNb] at e'; cases e'
      · cases e : x.h₀.get? b with
        | none => rfl
        | some o => obtain ⟨o', e'⟩ := R'.old.there _ _ e; rw [fresh b hNb] at e'; cases e'
      · obtain ⟨_, _, o, eo, _⟩ := R'.ro q hq
        rw [e, fresh b hNb] at eo; cases eo
    · intro i a own3 hia j
      cases ea : xs[i]? with
      | none =>
        have : (enumAV xs)[i]? = none := by
          rw [List.getElem?_eq_none_iff] at ea ⊢
          simpa [enumAV] using ea
        rw [this] at hia; cases hia
      | some a' =>
        rw [enumAV_get ea] at hia
        cases hia
        exact turn i a' own3 ea j
    · intro own3 j
      refine done own3 ?_
      have : (enumAV xs).length = xs.length := by simp [enumAV]
      rw [this] at j
      exact j
    · cases r' with
      | error e => exact hr
      | ok f => exact hr
  exact callName_raw H hy g Cle.type R h' hs
end
end
section
open PySem PySem.W PyProof.Rows PySem.Builtin.Struct
def one (code : Char) (lo hi : Int) (size : Nat) (i : Int) : Sem (Array UInt8) := do
  if i < lo || i > hi then rule "struct.pack.out-of-range"; structError s!"'{code}' format requires {lo} <= number <= {hi}"
  return intBytes true size i
def plc (out : Array UInt8) (p : Nat) (raw : Array UInt8) : Array UInt8 :=
  raw.toList.zipIdx.foldl (fun out (c, k) => out.setIfInBounds (p + k) c) out
theorem kind_pack : builtinKind "_struct.pack" = none := by decide +kernel
theorem plain_pack : plainId "_struct.pack" = true := by decide +kernel
theorem entry_pack : entryFor table "_struct.pack" = some Builtin.«_struct.pack» := entryFor_of_tree (by kernel_rfl)
theorem args_pack4 (f a b c d : Value) : argsOk "_struct.pack" ⟨[f, a, b, c, d], []⟩ := by unfold argsOk; kernel_rfl
theorem args_pack3 (f a b c : Value) : argsOk "_struct.pack" ⟨[f, a, b, c], []⟩ := by unfold argsOk; kernel_rfl
theorem args_pack7 (f a b c d e g i : Value) : argsOk "_struct.pack" ⟨[f, a, b, c, d, e, g, i], []⟩ := by unfold argsOk; kernel_rfl
theorem kind_unpack : builtinKind "_struct.unpack" = none := by decide +kernel
theorem plain_unpack : plainId "_struct.unpack" = true := by decide +kernel
theorem entry_unpack : entryFor table "_struct.unpack" = some Builtin.«_struct.unpack» := entryFor_of_tree (by kernel_rfl)
theorem args_unpack (f a : Value) : argsOk "_struct.unpack" ⟨[f, a], []⟩ := by unfold argsOk; kernel_rfl
section
variable {M : Model} {A : Around} {E : Value → Shared → Prop} {s : Shared}
theorem one_ok {code : Char} {lo hi : Int} {size : Nat} {i : Int} {Q : Array UInt8 → Shared → Prop} (h0 : lo ≤ i) (h1 : i ≤ hi) (q : Q (intBytes true size i) s) : wpAny M A (one code lo hi size i) Q E s := by
  unfold one
  rw [if_neg (by simp; omega)]
  exact wpAny_bind (wpAny_pure (wpAny_pure q))
theorem pk_H {cs : List Builtin.Struct.Code} {S N off : Nat} {i : Int} {t : Tok} {vs : List Value} {init : Array UInt8} {Q : Array UInt8 → Shared → Prop} (h0 : 0 ≤ i) (h1 : i ≤ 65535)
    (h : wpAny M A (packEach "_struct.pack" ⟨true, false, cs, S, N⟩ vs (plc init (off + 0 * 2) (intBytes true 2 i)) fun out p raw => pure (plc out p raw)) Q E s) :
    wpAny M A (packEach "_struct.pack" ⟨true, false, ⟨'H', 1, off, 2⟩ :: cs, S, N⟩ (.int i t :: vs) init fun out p raw => pure (plc out p raw)) Q E s := by
  unfold packEach at h ⊢
  simp only [List.forIn_cons, pure_bind, bind_assoc] at h ⊢
  rw [if_neg (by decide), if_neg (by decide)]
  rw [KPc.range_list 1]
  simp only [List.range'_succ, List.range'_zero, List.forIn_cons, List.forIn_nil]
  refine wpAny_bind (wpAny_bind (wpAny_bind (wpAny_bind ?_)))
  show wpAny M A (one 'H' 0 65535 2 i) _ _ _
  exact one_ok h0 h1 (wpAny_pure (wpAny_pure (wpAny_pure h)))
theorem pk_B {cs : List Builtin.Struct.Code} {S N off : Nat} {i : Int} {t : Tok} {vs : List Value} {init : Array UInt8} {Q : Array UInt8 → Shared → Prop} (h0 : 0 ≤ i) (h1 : i ≤ 255)
    (h : wpAny M A (packEach "_struct.pack" ⟨true, false, cs, S, N⟩ vs (plc init (off + 0 * 1) (intBytes true 1 i)) fun out p raw => pure (plc out p raw)) Q E s) :
    wpAny M A (packEach "_struct.pack" ⟨true, false, ⟨'B', 1, off, 1⟩ :: cs, S, N⟩ (.int i t :: vs) init fun out p raw => pure (plc out p raw)) Q E s := by
  unfold packEach at h ⊢
  simp only [List.forIn_cons, pure_bind, bind_assoc] at h ⊢
  rw [if_neg (by decide), if_neg (by decide)]
  rw [KPc.range_list 1]
  simp only [List.range'_succ, List.range'_zero, List.forIn_cons, List.forIn_nil]
  refine wpAny_bind (wpAny_bind (wpAny_bind (wpAny_bind ?_)))
  show wpAny M A (one 'B' 0 255 1 i) _ _ _
  exact one_ok h0 h1 (wpAny_pure (wpAny_pure (wpAny_pure h)))
theorem pk_L {cs : List Builtin.Struct.Code} {S N off : Nat} {i : Int} {t : Tok} {vs : List Value} {init : Array UInt8} {Q : Array UInt8 → Shared → Prop} (h0 : 0 ≤ i) (h1 : i ≤ 4294967295)
    (h : wpAny M A (packEach "_struct.pack" ⟨true, false, cs, S, N⟩ vs (plc init (off + 0 * 4) (intBytes true 4 i)) fun out p raw => pure (plc out p raw)) Q E s) :
    wpAny M A (packEach "_struct.pack" ⟨true, false, ⟨'L', 1, off, 4⟩ :: cs, S, N⟩ (.int i t :: vs) init fun out p raw => pure (plc out p raw)) Q E s := by
  unfold packEach at h ⊢
  simp only [List.forIn_cons, pure_bind, bind_assoc] at h ⊢
  rw [if_neg (by decide), if_neg (by decide)]
  rw [KPc.range_list 1]
  simp only [List.range'_succ, List.range'_zero, List.forIn_cons, List.forIn_nil]
  refine wpAny_bind (wpAny_bind (wpAny_bind (wpAny_bind ?_)))
  show wpAny M A (one 'L' 0 4294967295 4 i) _ _ _
  exact one_ok h0 h1 (wpAny_pure (wpAny_pure (wpAny_pure h)))
theorem pk_h {cs : List Builtin.Struct.Code} {S N off : Nat} {i : Int} {t : Tok} {vs : List Value} {init : Array UInt8} {Q : Array UInt8 → Shared → Prop} (h0 : (-32768) ≤ i) (h1 : i ≤ 32767)
    (h : wpAny M A (packEach "_struct.pack" ⟨true, false, cs, S, N⟩ vs (plc init (off + 0 * 2) (intBytes true 2 i)) fun out p raw => pure (plc out p raw)) Q E s) :
    wpAny M A (packEach "_struct.pack" ⟨true, false, ⟨'h', 1, off, 2⟩ :: cs, S, N⟩ (.int i t :: vs) init fun out p raw => pure (plc out p raw)) Q E s := by
  unfold packEach at h ⊢
  simp only [List.forIn_cons, pure_bind, bind_assoc] at h ⊢
  rw [if_neg (by decide), if_neg (by decide)]
  rw [KPc.range_list 1]
  simp only [List.range'_succ, List.range'_zero, List.forIn_cons, List.forIn_nil]
  refine wpAny_bind (wpAny_bind (wpAny_bind (wpAny_bind ?_)))
  show wpAny M A (one 'h' (-32768) 32767 2 i) _ _ _
  exact one_ok h0 h1 (wpAny_pure (wpAny_pure (wpAny_pure h)))
theorem pk_nil {S N : Nat} {init : Array UInt8} {Q : Array UInt8 → Shared → Prop} (h : Q init s) : wpAny M A (packEach "_struct.pack" ⟨true, false, [], S, N⟩ [] init fun out p raw => pure (plc out p raw)) Q E s := by
  unfold packEach
  exact wpAny_pure h
theorem pk_7H {a b c d e f g : Int} {t1 t2 t3 t4 t5 t6 t7 : Tok} {init : Array UInt8} {Q : Array UInt8 → Shared → Prop} (ha : 0 ≤ a ∧ a ≤ 65535) (hb : 0 ≤ b ∧ b ≤ 65535) (hc : 0 ≤ c ∧ c ≤ 65535) (hd : 0 ≤ d ∧ d ≤ 65535) (he : 0 ≤ e ∧ e ≤ 65535) (hf : 0 ≤ f ∧ f ≤ 65535) (hg : 0 ≤ g ∧ g ≤ 65535)
    (h : Q (plc (plc (plc (plc (plc (plc (plc init 0 (intBytes true 2 a)) 2 (intBytes true 2 b)) 4 (intBytes true 2 c)) 6 (intBytes true 2 d)) 8 (intBytes true 2 e)) 10 (intBytes true 2 f)) 12 (intBytes true 2 g)) s) :
    wpAny M A (packEach "_struct.pack" ⟨true, false, [⟨'H', 7, 0, 2⟩], 14, 7⟩ [.int a t1, .int b t2, .int c t3, .int d t4, .int e t5, .int f t6, .int g t7] init fun out p raw => pure (plc out p raw)) Q E s := by
  unfold packEach
  simp only [List.forIn_cons, List.forIn_nil, pure_bind, bind_assoc]
  rw [if_neg (by decide), if_neg (by decide)]
  rw [KPc.range_list 7]
  simp only [List.range'_succ, List.range'_zero, List.forIn_cons, List.forIn_nil]
  refine wpAny_bind (wpAny_bind ?_)
  refine wpAny_bind (wpAny_bind ?_)
  show wpAny M A (one 'H' 0 65535 2 a) _ _ _
  refine one_ok ha.1 ha.2 (wpAny_pure ?_)
  refine wpAny_bind (wpAny_bind ?_)
  show wpAny M A (one 'H' 0 65535 2 b) _ _ _
  refine one_ok hb.1 hb.2 (wpAny_pure ?_)
  refine wpAny_bind (wpAny_bind ?_)
  show wpAny M A (one 'H' 0 65535 2 c) _ _ _
  refine one_ok hc.1 hc.2 (wpAny_pure ?_)
  refine wpAny_bind (wpAny_bind ?_)
  show wpAny M A (one 'H' 0 65535 2 d) _ _ _
  refine one_ok hd.1 hd.2 (wpAny_pure ?_)
  refine wpAny_bind (wpAny_bind ?_)
  show wpAny M A (one 'H' 0 65535 2 e) _ _ _
  refine one_ok he.1 he.2 (wpAny_pure ?_)
  refine wpAny_bind (wpAny_bind ?_)
  show wpAny M A (one 'H' 0 65535 2 f) _ _ _
  refine one_ok hf.1 hf.2 (wpAny_pure ?_)
  refine wpAny_bind (wpAny_bind ?_)
  show wpAny M A (one 'H' 0 65535 2 g) _ _ _
  refine one_ok hg.1 hg.2 (wpAny_pure ?_)
  exact wpAny_pure (wpAny_pure (wpAny_pure h))
end
theorem plc1 (out : Array UInt8) (p : Nat) (x : UInt8) : plc out p #[x] = out.setIfInBounds (p + 0) x := rfl
theorem plc2 (out : Array UInt8) (p : Nat) (x y : UInt8) : plc out p #[x, y] = (out.setIfInBounds (p + 0) x).setIfInBounds (p + 1) y := rfl
theorem plc4 (out : Array UInt8) (p : Nat) (x y z w : UInt8) : plc out p #[x, y, z, w] = (((out.setIfInBounds (p + 0) x).setIfInBounds (p + 1) y).setIfInBounds (p + 2) z).setIfInBounds (p + 3) w := rfl
theorem rp14 : Array.replicate 14 (0 : UInt8) = ⟨[0, 0, 0, 0, 0, 0, 0, 0, 0, 0, 0, 0, 0, 0]⟩ := rfl
theorem rp8 : Array.replicate 8 (0 : UInt8) = ⟨[0, 0, 0, 0, 0, 0, 0, 0]⟩ := rfl
theorem rp6 : Array.replicate 6 (0 : UInt8) = ⟨[0, 0, 0, 0, 0, 0]⟩ := rfl
theorem sib (l : List UInt8) (p : Nat) (x : UInt8) : (Array.mk l).setIfInBounds p x = ⟨l.set p x⟩ := by
  apply Array.toList_inj.mp; simp
def be2 (i : Int) : List Int := [i / 256, i % 256]
theorem u8 (n : Nat) : (((n % 256).toUInt8).toNat : Int) = ((n % 256 : Nat) : Int) := by
  show (((UInt8.ofNat (n % 256)).toNat : Nat) : Int) = _
  rw [UInt8.toNat_ofNat']; omega
theorem ib2 (i : Int) : intBytes true 2 i = #[((i % 2 ^ (8 * 2)).toNat / 256 ^ 1 % 256).toUInt8, ((i % 2 ^ (8 * 2)).toNat / 256 ^ 0 % 256).toUInt8] := by
  simp [intBytes, PySem.Builtin.Memoryview.toLittleEndian, List.range_succ]
theorem ib1 (i : Int) : intBytes true 1 i = #[((i % 2 ^ (8 * 1)).toNat / 256 ^ 0 % 256).toUInt8] := by
  simp [intBytes, PySem.Builtin.Memoryview.toLittleEndian, List.range_succ]
theorem ib4 (i : Int) : intBytes true 4 i = #[((i % 2 ^ (8 * 4)).toNat / 256 ^ 3 % 256).toUInt8, ((i % 2 ^ (8 * 4)).toNat / 256 ^ 2 % 256).toUInt8, ((i % 2 ^ (8 * 4)).toNat / 256 ^ 1 % 256).toUInt8, ((i % 2 ^ (8 * 4)).toNat / 256 ^ 0 % 256).toUInt8] := by
  simp [intBytes, PySem.Builtin.Memoryview.toLittleEndian, List.range_succ]
theorem e2h {i : Int} (h0 : 0 ≤ i) (h1 : i ≤ 65535) : ((((i % 2 ^ (8 * 2)).toNat / 256 ^ 1 % 256).toUInt8.toNat : Nat) : Int) = i / 256 := by
  rw [u8]; have : (i % 2 ^ (8 * 2)) = i := Int.emod_eq_of_lt h0 (by show i < 65536; omega)
  rw [this]; show (((i.toNat / 256 % 256 : Nat)) : Int) = _; omega
theorem e2l {i : Int} (h0 : 0 ≤ i) (h1 : i ≤ 65535) : ((((i % 2 ^ (8 * 2)).toNat / 256 ^ 0 % 256).toUInt8.toNat : Nat) : Int) = i % 256 := by
  rw [u8]; have : (i % 2 ^ (8 * 2)) = i := Int.emod_eq_of_lt h0 (by show i < 65536; omega)
  rw [this]; show (((i.toNat / 1 % 256 : Nat)) : Int) = _; omega
theorem s2h {i : Int} : ((((i % 2 ^ (8 * 2)).toNat / 256 ^ 1 % 256).toUInt8.toNat : Nat) : Int) = i % 65536 / 256 := by
  rw [u8]; show ((((i % 65536).toNat / 256 % 256 : Nat)) : Int) = _; omega
theorem s2l {i : Int} : ((((i % 2 ^ (8 * 2)).toNat / 256 ^ 0 % 256).toUInt8.toNat : Nat) : Int) = i % 65536 % 256 := by
  rw [u8]; show ((((i % 65536).toNat / 1 % 256 : Nat)) : Int) = _; omega
theorem e1 {i : Int} (h0 : 0 ≤ i) (h1 : i ≤ 255) : ((((i % 2 ^ (8 * 1)).toNat / 256 ^ 0 % 256).toUInt8.toNat : Nat) : Int) = i := by
  rw [u8]; have : (i % 2 ^ (8 * 1)) = i := Int.emod_eq_of_lt h0 (by show i < 256; omega)
  rw [this]; show (((i.toNat / 1 % 256 : Nat)) : Int) = _; omega
theorem e4 {i : Int} (k : Nat) : ((((i % 2 ^ (8 * 4)).toNat / 256 ^ k % 256).toUInt8.toNat : Nat) : Int) = (((i % 2 ^ 32).toNat / 256 ^ k % 256 : Nat) : Int) := u8 _

section
variable {x : Cx} {A : Around} {own : Own} {Q : AV → Own → Prop}
theorem pack_any {fmt : Str} {f : Format} {t : Tok} {vals : List Value} {s : Shared} {P : Value → Shared → Prop} (ha : argsOk "_struct.pack" ⟨.str fmt t :: vals, []⟩) (hf : moduleFormat (.str fmt t) = pure f) (hn : (vals.length != f.items) = false) (hz : f.size ≤ 100)
    (h : wpAny (model x.prog x.w) A.in1 (packEach "_struct.pack" f vals (Array.replicate f.size 0) fun out p raw => pure (plc out p raw)) (fun b s' => b.size ≤ 1000 ∧ P (.bytes b s'.toks) { s' with toks := s'.toks + 1 }) (fun _ _ => False) s) :
    wpAny (model x.prog x.w) A (call (.builtin "_struct.pack") (.str fmt t :: vals)) P (fun _ _ => False) s := by
  refine PySem.Calls.call_function_entry kind_pack plain_pack entry_pack ha ?_
  unfold Builtin.«_struct.pack»
  refine wpAny_bind (m := noKeywords "_struct.pack" ⟨.str fmt t :: vals, []⟩) (wpAny_pure ?_)
  show wpAny _ _ (moduleFormat (.str fmt t) >>= _) _ _ _
  rw [hf]
  refine wpAny_bind (wpAny_pure ?_)
  unfold packed
  rw [if_neg (by rw [hn]; exact Bool.false_ne_true)]
  have htl : ¬ (Builtin.Bytes.tooLong f.size = true) := by rw [KBy.tooLong_not (by omega)]; exact Bool.false_ne_true
  rw [if_neg htl]
  refine wpAny_bind (wpAny_mono h (fun b s' => ?_) fun _ _ f => f.elim)
  rintro ⟨hb, hp⟩
  exact wpAny_bind (wpAny_mkBytes (wpAny_pure ⟨_, rfl, hp⟩) (by rw [sizeLine_eq]; omega))
theorem C_pack7H {a b c d e f g : Int} (ha : 0 ≤ a ∧ a ≤ 65535) (hb : 0 ≤ b ∧ b ≤ 65535) (hc : 0 ≤ c ∧ c ≤ 65535) (hd : 0 ≤ d ∧ d ≤ 65535) (he : 0 ≤ e ∧ e ≤ 65535) (hf : 0 ≤ f ∧ f ≤ 65535) (hg : 0 ≤ g ∧ g ≤ 65535)
    (q : Q (.byt [a / 256, a % 256, b / 256, b % 256, c / 256, c % 256, d / 256, d % 256, e / 256, e % 256, f / 256, f % 256, g / 256, g % 256]) own) :
    WO x A (callv (.builtin "_struct.pack")) [.str ">7H", .int a, .int b, .int c, .int d, .int e, .int f, .int g] own Q := fun vs s R r => by
  simp only [Reps] at r
  obtain ⟨u0, _, rfl, r0, u1, _, rfl, r1, u2, _, rfl, r2, u3, _, rfl, r3, u4, _, rfl, r4, u5, _, rfl, r5, u6, _, rfl, r6, u7, _, rfl, r7, rfl⟩ := r
  obtain ⟨t0, rfl⟩ := rep_str r0; obtain ⟨t1, rfl⟩ := rep_int r1; obtain ⟨t2, rfl⟩ := rep_int r2; obtain ⟨t3, rfl⟩ := rep_int r3; obtain ⟨t4, rfl⟩ := rep_int r4; obtain ⟨t5, rfl⟩ := rep_int r5; obtain ⟨t6, rfl⟩ := rep_int r6; obtain ⟨t7, rfl⟩ := rep_int r7
  refine pack_any (f := ⟨true, false, [⟨'H', 7, 0, 2⟩], 14, 7⟩) (args_pack7 ..) (by kernel_rfl) rfl (by decide) (pk_7H ha hb hc hd he hf hg ?_)
  rw [ib2, ib2, ib2, ib2, ib2, ib2, ib2]
  simp only [rp14, plc1, plc2, plc4, sib, List.set_cons_zero, List.set_cons_succ, Nat.reduceAdd, Nat.reduceMul, Nat.add_zero, Nat.zero_add, Nat.zero_mul, Nat.mul_zero]
  refine ⟨by show (14 : Nat) ≤ 1000; decide, own, Step.toks R, _, rep_mk_byt ?_, q⟩
  simp only [KBw.bInts, List.map_cons, List.map_nil]
  rw [e2h ha.1 ha.2, e2l ha.1 ha.2, e2h hb.1 hb.2, e2l hb.1 hb.2, e2h hc.1 hc.2, e2l hc.1 hc.2, e2h hd.1 hd.2, e2l hd.1 hd.2, e2h he.1 he.2, e2l he.1 he.2, e2h hf.1 hf.2, e2l hf.1 hf.2, e2h hg.1 hg.2, e2l hg.1 hg.2]
theorem C_pack4H {a b c d : Int} (ha : 0 ≤ a ∧ a ≤ 65535) (hb : 0 ≤ b ∧ b ≤ 65535) (hc : 0 ≤ c ∧ c ≤ 65535) (hd : 0 ≤ d ∧ d ≤ 65535)
    (q : Q (.byt [a / 256, a % 256, b / 256, b % 256, c / 256, c % 256, d / 256, d % 256]) own) :
    WO x A (callv (.builtin "_struct.pack")) [.str ">HHHH", .int a, .int b, .int c, .int d] own Q := fun vs s R r => by
  simp only [Reps] at r
  obtain ⟨u0, _, rfl, r0, u1, _, rfl, r1, u2, _, rfl, r2, u3, _, rfl, r3, u4, _, rfl, r4, rfl⟩ := r
  obtain ⟨t0, rfl⟩ := rep_str r0; obtain ⟨t1, rfl⟩ := rep_int r1; obtain ⟨t2, rfl⟩ := rep_int r2; obtain ⟨t3, rfl⟩ := rep_int r3; obtain ⟨t4, rfl⟩ := rep_int r4
  refine pack_any (f := ⟨true, false, [⟨'H', 1, 0, 2⟩, ⟨'H', 1, 2, 2⟩, ⟨'H', 1, 4, 2⟩, ⟨'H', 1, 6, 2⟩], 8, 4⟩) (args_pack4 ..) (by kernel_rfl) rfl (by decide) (pk_H ha.1 ha.2 (pk_H hb.1 hb.2 (pk_H hc.1 hc.2 (pk_H hd.1 hd.2 (pk_nil ?_)))))
  rw [ib2, ib2, ib2, ib2]
  simp only [rp8, plc1, plc2, plc4, sib, List.set_cons_zero, List.set_cons_succ, Nat.reduceAdd, Nat.reduceMul, Nat.add_zero, Nat.zero_add, Nat.zero_mul, Nat.mul_zero]
  refine ⟨by show (8 : Nat) ≤ 1000; decide, own, Step.toks R, _, rep_mk_byt ?_, q⟩
  simp only [KBw.bInts, List.map_cons, List.map_nil]
  rw [e2h ha.1 ha.2, e2l ha.1 ha.2, e2h hb.1 hb.2, e2l hb.1 hb.2, e2h hc.1 hc.2, e2l hc.1 hc.2, e2h hd.1 hd.2, e2l hd.1 hd.2]
theorem C_packHHh {a b c : Int} (ha : 0 ≤ a ∧ a ≤ 65535) (hb : 0 ≤ b ∧ b ≤ 65535) (hc : -32768 ≤ c ∧ c ≤ 32767)
    (q : Q (.byt [a / 256, a % 256, b / 256, b % 256, c % 65536 / 256, c % 65536 % 256]) own) :
    WO x A (callv (.builtin "_struct.pack")) [.str ">HHh", .int a, .int b, .int c] own Q := fun vs s R r => by
  simp only [Reps] at r
  obtain ⟨u0, _, rfl, r0, u1, _, rfl, r1, u2, _, rfl, r2, u3, _, rfl, r3, rfl⟩ := r
  obtain ⟨t0, rfl⟩ := rep_str r0; obtain ⟨t1, rfl⟩ := rep_int r1; obtain ⟨t2, rfl⟩ := rep_int r2; obtain ⟨t3, rfl⟩ := rep_int r3
  refine pack_any (f := ⟨true, false, [⟨'H', 1, 0, 2⟩, ⟨'H', 1, 2, 2⟩, ⟨'h', 1, 4, 2⟩], 6, 3⟩) (args_pack3 ..) (by kernel_rfl) rfl (by decide) (pk_H ha.1 ha.2 (pk_H hb.1 hb.2 (pk_h hc.1 hc.2 (pk_nil ?_))))
  rw [ib2, ib2, ib2]
  simp only [rp6, plc1, plc2, plc4, sib, List.set_cons_zero, List.set_cons_succ, Nat.reduceAdd, Nat.reduceMul, Nat.add_zero, Nat.zero_add, Nat.zero_mul, Nat.mul_zero]
  refine ⟨by show (6 : Nat) ≤ 1000; decide, own, Step.toks R, _, rep_mk_byt ?_, q⟩
  simp only [KBw.bInts, List.map_cons, List.map_nil]
  rw [e2h ha.1 ha.2, e2l ha.1 ha.2, e2h hb.1 hb.2, e2l hb.1 hb.2, s2h, s2l]
theorem C_packHHBB {a b c d : Int} (ha : 0 ≤ a ∧ a ≤ 65535) (hb : 0 ≤ b ∧ b ≤ 65535) (hc : 0 ≤ c ∧ c ≤ 255) (hd : 0 ≤ d ∧ d ≤ 255)
    (q : Q (.byt [a / 256, a % 256, b / 256, b % 256, c, d]) own) :
    WO x A (callv (.builtin "_struct.pack")) [.str ">HHBB", .int a, .int b, .int c, .int d] own Q := fun vs s R r => by
  simp only [Reps] at r
  obtain ⟨u0, _, rfl, r0, u1, _, rfl, r1, u2, _, rfl, r2, u3, _, rfl, r3, u4, _, rfl, r4, rfl⟩ := r
  obtain ⟨t0, rfl⟩ := rep_str r0; obtain ⟨t1, rfl⟩ := rep_int r1; obtain ⟨t2, rfl⟩ := rep_int r2; obtain ⟨t3, rfl⟩ := rep_int r3; obtain ⟨t4, rfl⟩ := rep_int r4
  refine pack_any (f := ⟨true, false, [⟨'H', 1, 0, 2⟩, ⟨'H', 1, 2, 2⟩, ⟨'B', 1, 4, 1⟩, ⟨'B', 1, 5, 1⟩], 6, 4⟩) (args_pack4 ..) (by kernel_rfl) rfl (by decide) (pk_H ha.1 ha.2 (pk_H hb.1 hb.2 (pk_B hc.1 hc.2 (pk_B hd.1 hd.2 (pk_nil ?_)))))
  rw [ib2, ib2, ib1, ib1]
  simp only [rp6, plc1, plc2, plc4, sib, List.set_cons_zero, List.set_cons_succ, Nat.reduceAdd, Nat.reduceMul, Nat.add_zero, Nat.zero_add, Nat.zero_mul, Nat.mul_zero]
  refine ⟨by show (6 : Nat) ≤ 1000; decide, own, Step.toks R, _, rep_mk_byt ?_, q⟩
  simp only [KBw.bInts, List.map_cons, List.map_nil]
  rw [e2h ha.1 ha.2, e2l ha.1 ha.2, e2h hb.1 hb.2, e2l hb.1 hb.2, e1 hc.1 hc.2, e1 hd.1 hd.2]
theorem C_packLBBH {a b c d : Int} (ha : 0 ≤ a ∧ a ≤ 65535) (hb : 0 ≤ b ∧ b ≤ 255) (hc : 0 ≤ c ∧ c ≤ 255) (hd : 0 ≤ d ∧ d ≤ 65535)
    (q : Q (.byt [0, 0, a / 256, a % 256, b, c, d / 256, d % 256]) own) :
    WO x A (callv (.builtin "_struct.pack")) [.str ">LBBH", .int a, .int b, .int c, .int d] own Q := fun vs s R r => by
  simp only [Reps] at r
  obtain ⟨u0, _, rfl, r0, u1, _, rfl, r1, u2, _, rfl, r2, u3, _, rfl, r3, u4, _, rfl, r4, rfl⟩ := r
  obtain ⟨t0, rfl⟩ := rep_str r0; obtain ⟨t1, rfl⟩ := rep_int r1; obtain ⟨t2, rfl⟩ := rep_int r2; obtain ⟨t3, rfl⟩ := rep_int r3; obtain ⟨t4, rfl⟩ := rep_int r4
  refine pack_any (f := ⟨true, false, [⟨'L', 1, 0, 4⟩, ⟨'B', 1, 4, 1⟩, ⟨'B', 1, 5, 1⟩, ⟨'H', 1, 6, 2⟩], 8, 4⟩) (args_pack4 ..) (by kernel_rfl) rfl (by decide) (pk_L ha.1 (by omega) (pk_B hb.1 hb.2 (pk_B hc.1 hc.2 (pk_H hd.1 hd.2 (pk_nil ?_)))))
  rw [ib4, ib2, ib1, ib1]
  simp only [rp8, plc1, plc2, plc4, sib, List.set_cons_zero, List.set_cons_succ, Nat.reduceAdd, Nat.reduceMul, Nat.add_zero, Nat.zero_add, Nat.zero_mul, Nat.mul_zero]
  refine ⟨by show (8 : Nat) ≤ 1000; decide, own, Step.toks R, _, rep_mk_byt ?_, q⟩
  simp only [KBw.bInts, List.map_cons, List.map_nil]
  have e : (a % 2 ^ 32).toNat = a.toNat := by
    have : a % 2 ^ 32 = a := Int.emod_eq_of_lt ha.1 (by show a < 4294967296; omega)
    rw [this]
  rw [e4, e4, e4, e4, e1 hb.1 hb.2, e1 hc.1 hc.2, e2h hd.1 hd.2, e2l hd.1 hd.2, e]
  have p3 : a.toNat / 256 ^ 3 % 256 = 0 := by show a.toNat / 16777216 % 256 = 0; omega
  have p2 : a.toNat / 256 ^ 2 % 256 = 0 := by show a.toNat / 65536 % 256 = 0; omega
  have p1 : ((a.toNat / 256 ^ 1 % 256 : Nat) : Int) = a / 256 := by show ((a.toNat / 256 % 256 : Nat) : Int) = a / 256; omega
  have p0 : ((a.toNat / 256 ^ 0 % 256 : Nat) : Int) = a % 256 := by show ((a.toNat / 1 % 256 : Nat) : Int) = a % 256; omega
  rw [p3, p2, p1, p0]
  rfl
end
end
section
open PySem PySem.W PyProof.Rows PySem.Builtin.Struct
section
variable {x : Cx} {A : Around} {own : Own} {Q : AV → Own → Prop}
theorem unpack_any {fmt : Str} {f : Format} {t tb : Tok} {b : Array UInt8} {s : Shared} {P : Value → Shared → Prop} (hf : moduleFormat (.str fmt t) = pure f) (hn : b.size = f.size)
    (h : wpAny (model x.prog x.w) A.in1 (unpacked "_struct.unpack" f b 0) P (fun _ _ => False) s) :
    wpAny (model x.prog x.w) A (call (.builtin "_struct.unpack") [.str fmt t, .bytes b tb]) P (fun _ _ => False) s := by
  refine PySem.Calls.call_function_entry kind_unpack plain_unpack entry_unpack (args_unpack ..) ?_
  unfold Builtin.«_struct.unpack»
  refine wpAny_bind (m := noKeywords "_struct.unpack" ⟨[.str fmt t, .bytes b tb], []⟩) (wpAny_pure ?_)
  refine wpAny_bind (wpAny_pure ?_)
  show wpAny _ _ (moduleFormat (.str fmt t) >>= _) _ _ _
  rw [hf]
  refine wpAny_bind (wpAny_pure ?_)
  show wpAny _ _ (unpackExact "_struct.unpack" (pure f) (.bytes b tb)) _ _ _
  unfold unpackExact
  refine wpAny_bind (wpAny_of_eq (a := b) (by unfold Builtin.Bytes.bytesLike; rw [KBy.buffer_eq]; rfl) ?_)
  show wpAny _ _ ((pure f : Sem Format) >>= _) _ _ _
  refine wpAny_bind (wpAny_pure ?_)
  rw [if_neg (by rw [hn]; simp)]
  exact wpAny_bind (wpAny_mono h (fun b s' hp => wpAny_pure ⟨_, rfl, hp⟩) fun _ _ f => f.elim)
/-- the made numbers, and the tuple of them -/
def mkAll : List Int → List Value → Sem Value
  | [], vs => newTuple vs
  | i :: is, vs => do let v ← mkInt i; mkAll is (vs ++ [v])
theorem mkAll_any {is : List Int} (hz : is.length ≤ 100) (q : Q (.tup (is.map .int)) own) : ∀ {vs : List Value} {done rest : List Int} {s : Shared}, is = done ++ rest → Rel x own s → Reps x.bad s.heap (done.map .int) vs →
    wpAny (model x.prog x.w) A (mkAll rest vs) (fun v s' => ∃ own', Step x own s own' s' ∧ ∃ a, Rep x.bad s'.heap a v ∧ Q a own') (fun _ _ => False) s := by
  intro vs done rest
  induction rest generalizing vs done with
  | nil =>
    intro s e R r
    have hl := r.length
    have hz' : vs.length ≤ 100 := by rw [← hl, List.length_map]; rw [e, List.append_nil] at hz; exact hz
    refine wpAny_newTuple ?_ (by rw [sizeLine_eq]; omega)
    have gr : ∀ b o, s.heap.get? b = some o → (s.heap.push { cls := .type "tuple", data := .seq vs.toArray }).get? b = some o := fun b o e => Heap.get?_push_of_some _ e
    refine ⟨own, Step.grow (tk := s.toks) R gr, .tup (is.map .int), ?_, q⟩
    simp only [Rep]
    refine ⟨_, _, _, rfl, fun hm => ?_, Heap.get?_push_size _ rfl, ?_⟩
    · obtain ⟨o, e⟩ := R.bd _ hm
      rw [fresh_none] at e; cases e
    · have : is = done := by rw [e, List.append_nil]
      rw [this]
      exact Reps.mono (fun b us m _ e => gr _ _ e) _ _ r
  | cons i is' ih =>
    intro s e R r
    refine wpAny_bind (wpAny_mkInt ?_)
    have R' : Rel x own { s with toks := s.toks + 1 } := (Step.toks R).rel
    refine wpAny_mono (ih (done := done ++ [i]) (by rw [e]; simp) R' ?_) (fun v s' ⟨own', S, h⟩ => ⟨own', (Step.toks R).trans S, h⟩) fun _ _ f => f
    rw [List.map_append]
    exact Reps.append r (by simp only [List.map, Reps]; exact ⟨_, _, rfl, rep_mk_int, rfl⟩)
end
theorem lit2 (a b : UInt8) : ((natOf true #[a, b] : Nat) : Int) = (a.toNat : Int) * 256 + (b.toNat : Int) := by
  have e : natOf true #[a, b] = (0 * 256 + a.toNat) * 256 + b.toNat := by kernel_rfl
  rw [e]; omega
theorem lit1 (a : UInt8) : ((natOf true #[a] : Nat) : Int) = (a.toNat : Int) := by
  show (((0 * 256 + a.toNat : Nat)) : Int) = _; omega
theorem lit4 (a b c d : UInt8) : ((natOf true #[a, b, c, d] : Nat) : Int) = (a.toNat : Int) * 16777216 + (b.toNat : Int) * 65536 + (c.toNat : Int) * 256 + (d.toNat : Int) := by
  have e : natOf true #[a, b, c, d] = (((0 * 256 + a.toNat) * 256 + b.toNat) * 256 + c.toNat) * 256 + d.toNat := by kernel_rfl
  rw [e]; omega
section
variable {x : Cx} {A : Around} {own : Own} {Q : AV → Own → Prop}
theorem un_HHH (c0 c1 c2 c3 c4 c5 : UInt8) : unpacked "_struct.unpack" ⟨true, false, [⟨'H', 1, 0, 2⟩, ⟨'H', 1, 2, 2⟩, ⟨'H', 1, 4, 2⟩], 6, 3⟩ #[c0, c1, c2, c3, c4, c5] 0 = mkAll [((natOf true #[c0, c1] : Nat) : Int), ((natOf true #[c2, c3] : Nat) : Int), ((natOf true #[c4, c5] : Nat) : Int)] [] := by kernel_rfl
theorem C_unHHH {k0 k1 k2 k3 k4 k5 : Int} (q : Q (.tup [.int (k0 * 256 + k1), .int (k2 * 256 + k3), .int (k4 * 256 + k5)]) own) : WO x A (callv (.builtin "_struct.unpack")) [.str ">HHH", .byt [k0, k1, k2, k3, k4, k5]] own Q := fun vs s R r => by
  simp only [Reps] at r
  obtain ⟨u0, _, rfl, r0, u1, _, rfl, r1, rfl⟩ := r
  obtain ⟨t0, rfl⟩ := rep_str r0
  obtain ⟨c, t1, rfl, e⟩ := rep_byt r1
  obtain ⟨l⟩ := c
  have hl : l.length = 6 := by have := congrArg List.length e; simpa [KBw.bInts] using this
  match l, hl, e with
  | [c0, c1, c2, c3, c4, c5], _, e =>
  simp only [KBw.bInts, List.map_cons, List.map_nil, List.cons.injEq, and_true] at e
  obtain ⟨rfl, rfl, rfl, rfl, rfl, rfl⟩ := e
  refine unpack_any (f := ⟨true, false, [⟨'H', 1, 0, 2⟩, ⟨'H', 1, 2, 2⟩, ⟨'H', 1, 4, 2⟩], 6, 3⟩) (by kernel_rfl) rfl ?_
  rw [un_HHH]
  refine mkAll_any (is := [((natOf true #[c0, c1] : Nat) : Int), ((natOf true #[c2, c3] : Nat) : Int), ((natOf true #[c4, c5] : Nat) : Int)]) (done := []) (by show (3 : Nat) ≤ 100; decide) ?_ rfl R (by simp only [List.map, Reps])
  simpa only [List.map, lit1, lit2, lit4] using q
theorem un_4H (c0 c1 c2 c3 c4 c5 c6 c7 : UInt8) : unpacked "_struct.unpack" ⟨true, false, [⟨'H', 4, 0, 2⟩], 8, 4⟩ #[c0, c1, c2, c3, c4, c5, c6, c7] 0 = mkAll [((natOf true #[c0, c1] : Nat) : Int), ((natOf true #[c2, c3] : Nat) : Int), ((natOf true #[c4, c5] : Nat) : Int), ((natOf true #[c6, c7] : Nat) : Int)] [] := by kernel_rfl
theorem C_un4H {k0 k1 k2 k3 k4 k5 k6 k7 : Int} (q : Q (.tup [.int (k0 * 256 + k1), .int (k2 * 256 + k3), .int (k4 * 256 + k5), .int (k6 * 256 + k7)]) own) : WO x A (callv (.builtin "_struct.unpack")) [.str ">4H", .byt [k0, k1, k2, k3, k4, k5, k6, k7]] own Q := fun vs s R r => by
  simp only [Reps] at r
  obtain ⟨u0, _, rfl, r0, u1, _, rfl, r1, rfl⟩ := r
  obtain ⟨t0, rfl⟩ := rep_str r0
  obtain ⟨c, t1, rfl, e⟩ := rep_byt r1
  obtain ⟨l⟩ := c
  have hl : l.length = 8 := by have := congrArg List.length e; simpa [KBw.bInts] using this
  match l, hl, e with
  | [c0, c1, c2, c3, c4, c5, c6, c7], _, e =>
  simp only [KBw.bInts, List.map_cons, List.map_nil, List.cons.injEq, and_true] at e
  obtain ⟨rfl, rfl, rfl, rfl, rfl, rfl, rfl, rfl⟩ := e
  refine unpack_any (f := ⟨true, false, [⟨'H', 4, 0, 2⟩], 8, 4⟩) (by kernel_rfl) rfl ?_
  rw [un_4H]
  refine mkAll_any (is := [((natOf true #[c0, c1] : Nat) : Int), ((natOf true #[c2, c3] : Nat) : Int), ((natOf true #[c4, c5] : Nat) : Int), ((natOf true #[c6, c7] : Nat) : Int)]) (done := []) (by show (4 : Nat) ≤ 100; decide) ?_ rfl R (by simp only [List.map, Reps])
  simpa only [List.map, lit1, lit2, lit4] using q
theorem un_HHHH (c0 c1 c2 c3 c4 c5 c6 c7 : UInt8) : unpacked "_struct.unpack" ⟨true, false, [⟨'H', 1, 0, 2⟩, ⟨'H', 1, 2, 2⟩, ⟨'H', 1, 4, 2⟩, ⟨'H', 1, 6, 2⟩], 8, 4⟩ #[c0, c1, c2, c3, c4, c5, c6, c7] 0 = mkAll [((natOf true #[c0, c1] : Nat) : Int), ((natOf true #[c2, c3] : Nat) : Int), ((natOf true #[c4, c5] : Nat) : Int), ((natOf true #[c6, c7] : Nat) : Int)] [] := by kernel_rfl
theorem C_unHHHH {k0 k1 k2 k3 k4 k5 k6 k7 : Int} (q : Q (.tup [.int (k0 * 256 + k1), .int (k2 * 256 + k3), .int (k4 * 256 + k5), .int (k6 * 256 + k7)]) own) : WO x A (callv (.builtin "_struct.unpack")) [.str ">HHHH", .byt [k0, k1, k2, k3, k4, k5, k6, k7]] own Q := fun vs s R r => by
  simp only [Reps] at r
  obtain ⟨u0, _, rfl, r0, u1, _, rfl, r1, rfl⟩ := r
  obtain ⟨t0, rfl⟩ := rep_str r0
  obtain ⟨c, t1, rfl, e⟩ := rep_byt r1
  obtain ⟨l⟩ := c
  have hl : l.length = 8 := by have := congrArg List.length e; simpa [KBw.bInts] using this
  match l, hl, e with
  | [c0, c1, c2, c3, c4, c5, c6, c7], _, e =>
  simp only [KBw.bInts, List.map_cons, List.map_nil, List.cons.injEq, and_true] at e
  obtain ⟨rfl, rfl, rfl, rfl, rfl, rfl, rfl, rfl⟩ := e
  refine unpack_any (f := ⟨true, false, [⟨'H', 1, 0, 2⟩, ⟨'H', 1, 2, 2⟩, ⟨'H', 1, 4, 2⟩, ⟨'H', 1, 6, 2⟩], 8, 4⟩) (by kernel_rfl) rfl ?_
  rw [un_HHHH]
  refine mkAll_any (is := [((natOf true #[c0, c1] : Nat) : Int), ((natOf true #[c2, c3] : Nat) : Int), ((natOf true #[c4, c5] : Nat) : Int), ((natOf true #[c6, c7] : Nat) : Int)]) (done := []) (by show (4 : Nat) ≤ 100; decide) ?_ rfl R (by simp only [List.map, Reps])
  simpa only [List.map, lit1, lit2, lit4] using q
theorem un_HHBB (c0 c1 c2 c3 c4 c5 : UInt8) : unpacked "_struct.unpack" ⟨true, false, [⟨'H', 1, 0, 2⟩, ⟨'H', 1, 2, 2⟩, ⟨'B', 1, 4, 1⟩, ⟨'B', 1, 5, 1⟩], 6, 4⟩ #[c0, c1, c2, c3, c4, c5] 0 = mkAll [((natOf true #[c0, c1] : Nat) : Int), ((natOf true #[c2, c3] : Nat) : Int), ((natOf true #[c4] : Nat) : Int), ((natOf true #[c5] : Nat) : Int)] [] := by kernel_rfl
theorem C_unHHBB {k0 k1 k2 k3 k4 k5 : Int} (q : Q (.tup [.int (k0 * 256 + k1), .int (k2 * 256 + k3), .int (k4), .int (k5)]) own) : WO x A (callv (.builtin "_struct.unpack")) [.str ">HHBB", .byt [k0, k1, k2, k3, k4, k5]] own Q := fun vs s R r => by
  simp only [Reps] at r
  obtain ⟨u0, _, rfl, r0, u1, _, rfl, r1, rfl⟩ := r
  obtain ⟨t0, rfl⟩ := rep_str r0
  obtain ⟨c, t1, rfl, e⟩ := rep_byt r1
  obtain ⟨l⟩ := c
  have hl : l.length = 6 := by have := congrArg List.length e; simpa [KBw.bInts] using this
  match l, hl, e with
  | [c0, c1, c2, c3, c4, c5], _, e =>
  simp only [KBw.bInts, List.map_cons, List.map_nil, List.cons.injEq, and_true] at e
  obtain ⟨rfl, rfl, rfl, rfl, rfl, rfl⟩ := e
  refine unpack_any (f := ⟨true, false, [⟨'H', 1, 0, 2⟩, ⟨'H', 1, 2, 2⟩, ⟨'B', 1, 4, 1⟩, ⟨'B', 1, 5, 1⟩], 6, 4⟩) (by kernel_rfl) rfl ?_
  rw [un_HHBB]
  refine mkAll_any (is := [((natOf true #[c0, c1] : Nat) : Int), ((natOf true #[c2, c3] : Nat) : Int), ((natOf true #[c4] : Nat) : Int), ((natOf true #[c5] : Nat) : Int)]) (done := []) (by show (4 : Nat) ≤ 100; decide) ?_ rfl R (by simp only [List.map, Reps])
  simpa only [List.map, lit1, lit2, lit4] using q
theorem un_LBBH (c0 c1 c2 c3 c4 c5 c6 c7 : UInt8) : unpacked "_struct.unpack" ⟨true, false, [⟨'L', 1, 0, 4⟩, ⟨'B', 1, 4, 1⟩, ⟨'B', 1, 5, 1⟩, ⟨'H', 1, 6, 2⟩], 8, 4⟩ #[c0, c1, c2, c3, c4, c5, c6, c7] 0 = mkAll [((natOf true #[c0, c1, c2, c3] : Nat) : Int), ((natOf true #[c4] : Nat) : Int), ((natOf true #[c5] : Nat) : Int), ((natOf true #[c6, c7] : Nat) : Int)] [] := by kernel_rfl
theorem C_unLBBH {k0 k1 k2 k3 k4 k5 k6 k7 : Int} (q : Q (.tup [.int (k0 * 16777216 + k1 * 65536 + k2 * 256 + k3), .int (k4), .int (k5), .int (k6 * 256 + k7)]) own) : WO x A (callv (.builtin "_struct.unpack")) [.str ">LBBH", .byt [k0, k1, k2, k3, k4, k5, k6, k7]] own Q := fun vs s R r => by
  simp only [Reps] at r
  obtain ⟨u0, _, rfl, r0, u1, _, rfl, r1, rfl⟩ := r
  obtain ⟨t0, rfl⟩ := rep_str r0
  obtain ⟨c, t1, rfl, e⟩ := rep_byt r1
  obtain ⟨l⟩ := c
  have hl : l.length = 8 := by have := congrArg List.length e; simpa [KBw.bInts] using this
  match l, hl, e with
  | [c0, c1, c2, c3, c4, c5, c6, c7], _, e =>
  simp only [KBw.bInts, List.map_cons, List.map_nil, List.cons.injEq, and_true] at e
  obtain ⟨rfl, rfl, rfl, rfl, rfl, rfl, rfl, rfl⟩ := e
  refine unpack_any (f := ⟨true, false, [⟨'L', 1, 0, 4⟩, ⟨'B', 1, 4, 1⟩, ⟨'B', 1, 5, 1⟩, ⟨'H', 1, 6, 2⟩], 8, 4⟩) (by kernel_rfl) rfl ?_
  rw [un_LBBH]
  refine mkAll_any (is := [((natOf true #[c0, c1, c2, c3] : Nat) : Int), ((natOf true #[c4] : Nat) : Int), ((natOf true #[c5] : Nat) : Int), ((natOf true #[c6, c7] : Nat) : Int)]) (done := []) (by show (4 : Nat) ≤ 100; decide) ?_ rfl R (by simp only [List.map, Reps])
  simpa only [List.map, lit1, lit2, lit4] using q
end
end
section
open PySem PySem.W PyProof.Rows PySem.Builtin
theorem entry_bjoin : entryFor table "bytes.join" = some Builtin.«bytes.join» := entryFor_of_tree (by kernel_rfl)
theorem args_bjoin (f a : Value) : argsOk "bytes.join" ⟨[f, a], []⟩ := by unfold argsOk; kernel_rfl
theorem slot_bjoin : Slot "bytes" "join" "bytes.join" :=
  .of (owner := "bytes") (n := "join") (by rw [typeLookup_type, builtinLookup_eq_fast]; kernel_rfl) (by decide +kernel) (by decide +kernel) (by decide +kernel)
    (by first | exact .inl (by decide +kernel) | exact .inr (by decide +kernel)) (by rw [isSubtype_type]; kernel_rfl)
theorem ty_bjoin : typeOf (.builtin "bytes.join") = pure (.type "method_descriptor") := by show builtinType _ = _; rw [builtinType_eq_fast]; kernel_rfl

theorem forIn_inv {M : Model} {A : Around} {σ : Type} {E : Value → Shared → Prop} {Q : σ → Shared → Prop} {f : Nat → σ → Sem (ForInStep σ)} (I : Nat → σ → Shared → Prop) : ∀ {m k : Nat} {b : σ} {s : Shared},
    (∀ i b s, k ≤ i → i < k + m → I i b s → wpAny M A (f i b) (fun r s' => ∃ b', r = .yield b' ∧ I (i + 1) b' s') E s) → I k b s → (∀ b s, I (k + m) b s → Q b s) → wpAny M A (forIn (List.range' k m 1) b f) Q E s := by
  intro m
  induction m with
  | zero => intro k b s _ h q; simp only [List.range'_zero, List.forIn_nil]; exact wpAny_pure (q b s h)
  | succ m ih =>
    intro k b s hf h q
    simp only [List.range'_succ, List.forIn_cons]
    refine wpAny_bind (wpAny_mono (hf k b s (Nat.le_refl _) (by omega) h) (fun r s' hr => ?_) fun _ _ e => e)
    obtain ⟨b', rfl, h'⟩ := hr
    refine ih (fun i b s h1 h2 => hf i b s (by omega) (by omega)) h' fun b s h => q b s (by rw [show k + (m + 1) = k + 1 + m by omega]; exact h)

theorem take_eq {b : Array UInt8} {t : Tok} {id : String} : Bytes.takeBufferQuiet? id (.bytes b t) 0 = pure (some (b, none)) := by
  unfold Bytes.takeBufferQuiet? Bytes.takeBuffer?
  rw [KBy.special_eq KBy.look_buffer, KBy.own_buffer]
  rw [show ((0 : Int) == Bytes.fullReadOnly) = false by decide, KBy.buffer_eq]
  rfl
theorem joined_nil (ps : List (Array UInt8)) : (Bytes.joined #[] ps).toList = (ps.map Array.toList).flatten := by
  unfold Bytes.joined
  have key : ∀ (k : Nat) (out : Array UInt8), ((ps.zipIdx k).foldl (fun out (p, i) => (if i > 0 then out ++ #[] else out) ++ p) out).toList = out.toList ++ (ps.map Array.toList).flatten := by
    induction ps with
    | nil => intro k out; simp
    | cons p ps ih =>
      intro k out
      simp only [List.zipIdx_cons, List.foldl_cons, List.map_cons, List.flatten_cons]
      rw [ih]
      simp
  simpa using key 0 #[]
theorem sizes_le (ps : List (Array UInt8)) (a : Nat) : ps.foldl (fun n p => n + p.size) a = a + ((ps.map Array.toList).flatten).length := by
  induction ps generalizing a with
  | nil => simp
  | cons p ps ih => simp only [List.foldl_cons, List.map_cons, List.flatten_cons, List.length_append]; rw [ih]; simp; omega
theorem joinLetGo_any {M : Model} {A : Around} {E : Value → Shared → Prop} {Q : Unit → Shared → Prop} {s : Shared} {keep : List Value} (vs : List Value) (q : Q () s) : wpAny M A (Bytes.joinLetGo (vs.map fun v => (v, none)) keep) Q E s := by
  induction vs with
  | nil => exact wpAny_pure q
  | cons v vs ih =>
    simp only [List.map_cons, Bytes.joinLetGo]
    exact wpAny_bind (wpAny_letGo ih)
section
variable {x : Cx} {A : Around} {own : Own} {Q : AV → Own → Prop}
theorem reps_byts {B : List Addr} {h : Heap} : ∀ {bs : List (List Int)} {vs : List Value}, Reps B h (bs.map .byt) vs → ∃ cs : List (Array UInt8), cs.map KBw.bInts = bs ∧ ∃ ts : List Tok, vs = (cs.zip ts).map (fun p => .bytes p.1 p.2) ∧ ts.length = cs.length := by
  intro bs
  induction bs with
  | nil => intro vs r; simp only [List.map, Reps] at r; subst r; exact ⟨[], rfl, [], rfl, rfl⟩
  | cons b bs ih =>
    intro vs r
    simp only [List.map, Reps] at r
    obtain ⟨v, vs, rfl, r1, r2⟩ := r
    obtain ⟨c, t, rfl, e⟩ := rep_byt r1
    obtain ⟨cs, e1, ts, rfl, e2⟩ := ih r2
    exact ⟨c :: cs, by simp [e, e1], t :: ts, rfl, by simp [e2]⟩
theorem C_bjoin {l : Addr} {bs : List (List Int)} (kn : Kn x own (l, .list (bs.map .byt))) (h2 : 2 ≤ bs.length) (hn : bs.length ≤ 1000000) (hz : bs.flatten.length ≤ 1000000) (q : Q (.byt bs.flatten) own) :
    WO x A (callv (.builtin "bytes.join")) [.byt [], .val (.ref l)] own Q := fun vs s R r => by
  obtain ⟨u, v, rfl, r1, r2⟩ := reps2 r
  obtain ⟨c0, t, rfl, e0⟩ := rep_byt r1
  rw [rep_val r2]
  have ec : c0 = #[] := by
    obtain ⟨l⟩ := c0; cases l with
    | nil => rfl
    | cons a l => simp [KBw.bInts] at e0
  subst ec
  obtain ⟨ws, pl, rs⟩ := R.kn kn
  obtain ⟨cs, e1, ts, e2, e3⟩ := reps_byts rs
  obtain ⟨n, ho⟩ := pl
  have hlen : cs.length = bs.length := by rw [← e1, List.length_map]
  have hsz : ws.size = bs.length := by rw [← Array.length_toList, e2, List.length_map, List.length_zip, e3, Nat.min_self, hlen]
  have hit : ∀ i (hi : i < cs.length), ws.getD i .none = .bytes cs[i] (ts[i]'(by omega)) := fun i hi => by
    have : ws.toList[i]? = some (.bytes cs[i] (ts[i]'(by omega))) := by
      rw [e2]; simp [hi, e3]
    rw [Array.getElem?_toList] at this
    rw [Array.getD_eq_getD_getElem?, this]; rfl
  refine wpAny_call_entry slot_bjoin (typeIs_bytes s #[] t) entry_bjoin ?_ (args_bjoin ..)
  show wpAny _ _ (Bytes.joinM .bytes ⟨[.bytes #[] t, .ref l], []⟩) _ _ _
  unfold Bytes.joinM
  refine wpAny_bind (wpAny_pure ?_)
  refine wpAny_bind (m := Bytes.joinItems (.ref l)) ?_
  unfold Bytes.joinItems
  refine wpAny_bind (wpAny_typeOf (T := "list") ⟨_, ho, rfl⟩ ?_)
  refine wpAny_pure ?_
  refine wpAny_bind (wpAny_seqItems ho rfl ?_)
  have hne : ∀ y, ws ≠ #[y] := fun y e => by rw [e] at hsz; simp at hsz; omega
  dsimp only
  rw [if_pos (show (Bytes.Kind.bytes == Bytes.Kind.bytes) = true from rfl)]
  unfold Bytes.joinM.match_1
  rw [dif_neg (by omega)]
  rw [KPc.range_list ws.size]
  refine wpAny_bind (forIn_inv (I := fun i st s' => s' = s ∧ st = ((cs.take i).toArray, (ws.toList.take i).map fun v => (v, none))) (fun i st s' _ hi ⟨es, est⟩ => ?_) ⟨rfl, by simp⟩ fun st s' ⟨es, est⟩ => ?_)
  · subst es est
    have hi' : i < cs.length := by omega
    refine wpAny_bind (wpAny_seqItems ho rfl ?_)
    dsimp only
    rw [hit i hi']
    have last : ∃ b', (ForInStep.yield (((cs.take i).toArray).push cs[i], ((ws.toList.take i).map fun v => ((v, none) : Value × Option Value)) ++ [(Value.bytes cs[i] (ts[i]'(by omega)), none)])) = ForInStep.yield b' ∧ s' = s' ∧ b' = ((cs.take (i + 1)).toArray, (ws.toList.take (i + 1)).map fun v => (v, none)) := by
      refine ⟨_, rfl, rfl, ?_⟩
      have hw : ws.toList[i]'(by rw [Array.length_toList]; omega) = .bytes cs[i] (ts[i]'(by omega)) := by
        rw [← hit i hi', Array.getD_eq_getD_getElem?, Array.getElem?_eq_getElem (by omega)]; simp
      rw [List.take_add_one, List.take_add_one, List.getElem?_eq_getElem hi', List.getElem?_eq_getElem (by rw [Array.length_toList]; omega), hw]
      simp
    refine wpAny_ite ?_
    split
    · refine wpAny_bind (wpAny_of_eq (KBy.special_eq KBy.look_buffer) ?_)
      dsimp only
      refine wpAny_bind (wpAny_holding (wpAny_of_eq take_eq ?_))
      dsimp only
      refine wpAny_bind (wpAny_seqItems ho rfl ?_)
      dsimp only
      exact wpAny_ite (KBy.ite_no (by simp) (wpAny_pure last))
    · refine wpAny_bind (wpAny_holding (wpAny_of_eq take_eq ?_))
      dsimp only
      refine wpAny_bind (wpAny_seqItems ho rfl ?_)
      dsimp only
      exact wpAny_ite (KBy.ite_no (by simp) (wpAny_pure last))
  · subst es
    rw [Nat.zero_add, List.take_of_length_le (by omega), List.take_of_length_le (by rw [Array.length_toList]; omega)] at est
    subst est
    have ez : (cs.map Array.toList).flatten.length = bs.flatten.length := by
      rw [← e1]; simp [List.length_flatten, KBw.bInts, Function.comp_def]
    refine wpAny_bind (wpAny_of_eq (a := #[]) rfl ?_)
    dsimp only
    have ht : ¬ (Bytes.tooLong (cs.toArray.foldl (fun n p => n + p.size) (0 * (cs.toArray.size - 1))) = true) := by
      rw [Nat.zero_mul, List.foldl_toArray, sizes_le, KBy.tooLong_not (by omega)]; exact Bool.false_ne_true
    refine wpAny_ite (KBy.ite_no ht ?_)
    have hb : (Bytes.joined #[] cs).size ≤ sizeLine := by
      rw [← Array.length_toList, joined_nil, sizeLine_eq]; omega
    refine wpAny_bind (m := mkBytes (Bytes.joined #[] cs)) (wpAny_mkBytes ?_ hb)
    refine wpAny_bind (wpAny_holding (wpAny_point ?_))
    refine wpAny_bind (joinLetGo_any _ ?_)
    refine wpAny_pure ⟨_, rfl, own, Step.toks R, _, rep_mk_byt ?_, q⟩
    show (Bytes.joined #[] cs).toList.map _ = _
    rw [joined_nil, ← e1, List.map_flatten, List.map_map]
    rfl
end
end
section
/-- generators whose items are objects -/
def protoH (C : Addr) (Y : Heap → Prop) (fp wr : List Addr) (pz : Nat → Bool) (n₀ : Nat) (F : Nat → Value → Heap → Prop) : Protocol := fun m s₀ v s kap =>
  (∃ i, (passing pz n₀ 0)[(passing pz n₀ 0).length - 1 - m]? = some i ∧ F i v s.heap) ∧ GenSince C wr s₀ s ∧ (∃ m, s.heap.Ns C m) ∧ Y s.heap ∧
    ∀ s'' : Shared, (∀ b ∈ fp, ∀ o, s.heap.get? b = some o → s''.heap.get? b = some o) → (∃ m, s''.heap.Ns C m) → Y s''.heap → kap (.send .none) s''

def EndH (C : Addr) (wr bd : List Addr) (n : Nat) (s₀ s₁ : Shared) : Prop := n = 0 ∧ GenSince C wr s₀ s₁ ∧ ∀ b ∈ C :: wr, b ∈ bd → ∃ o, s₁.heap.get? b = some o

structure TurnH (prog : Program) (w : World) (cenv : Env) (Y : Heap → Prop) (target : Expr) (ifs : List Expr) (elt : Expr) (I : Addr) (fp wr bd : List Addr) (n₀ : Nat) (pz : Nat → Bool) (F : Nat → Value → Heap → Prop) (Inv : Nat → Heap → Prop) : Prop where
  frame : ∀ i h h', Inv i h → (∀ b ∈ fp, ∀ o, h.get? b = some o → h'.get? b = some o) → (∃ m, h'.Ns cenv.locals m) → Y h' → Inv i h'
  ns : ∀ i h, Inv i h → ∃ m, h.Ns cenv.locals m
  yy : ∀ i h, Inv i h → Y h
  go : ∀ (A' : Around) i s, A'.handled = none → i < n₀ → Inv i s.heap → wpAny (model prog w) A' (pyNext (.ref I)) (fun r s1 => ∃ v, r = some v ∧
    wpAny (model prog w) A' (letOwnedTupleGo target (.ref I) v) (fun _ s2 => wpAny (model prog w) A' (assign target cenv v) (fun _ s3 =>
      wpAny (model prog w) A' (forIn ifs true fun c r => if r = true then do let ok ← isTrue c cenv (eval c cenv); pure (ForInStep.yield ok) else pure (ForInStep.yield r)) (fun ok s4 => ok = pz i ∧
        (pz i = false → Inv (i + 1) s4.heap ∧ GenSince cenv.locals wr s s4) ∧
        (pz i = true → wpAny (model prog w) A' (eval elt cenv) (fun y s5 => F i y s5.heap ∧ Inv (i + 1) s5.heap ∧ GenSince cenv.locals wr s s5) (fun _ _ => False) s4)) (fun _ _ => False) s3) (fun _ _ => False) s2) (fun _ _ => False) s1) (fun _ _ => False) s
  done : ∀ (A' : Around) s, A'.handled = none → Inv n₀ s.heap → wpAny (model prog w) A' (pyNext (.ref I)) (fun r s1 => r = none ∧ GenSince cenv.locals wr s s1 ∧ ∀ b ∈ cenv.locals :: wr, b ∈ bd → ∃ o, s1.heap.get? b = some o) (fun _ _ => False) s
  self : ∀ (A' : Around) i s (Q : Value → Shared → Prop) (E : Value → Shared → Prop), A'.handled = none → Inv i s.heap → Q (.ref I) s → wpAny (model prog w) A' (pyIter (.ref I)) Q E s

theorem sinceT {C : Addr} {wr : List Addr} {s₀ s s' : Shared} (x : GenSince C wr s₀ s) (y : GenSince C wr s s') : GenSince C wr s₀ s' := by
  obtain ⟨h, tk, rfl, k⟩ := y
  exact x.step k

section
variable {prog : Program} {w : World} {A : Around}
theorem seg_genLoopH {elt target iter : Expr} {ifs : List Expr} {scope : Scope} {pos : Pos} {I : Addr} {fp wr bd : List Addr} {n₀ : Nat} {cenv : Env} {pz : Nat → Bool} {F : Nat → Value → Heap → Prop} {Inv : Nat → Heap → Prop} {Y : Heap → Prop}
    (hh : A.handled = none) (T : TurnH prog w cenv Y target ifs elt I fp wr bd n₀ pz F Inv) (hco : cenv.scope.isCoroutine = false) :
    ∀ (k i : Nat) (s₀ s : Shared), n₀ - i = k → i ≤ n₀ → Inv i s.heap → GenSince cenv.locals wr s₀ s →
      Seg (model prog w) A (fun n s₀ r s₁ => r = .ok .next ∧ EndH cenv.locals wr bd n s₀ s₁) (protoH cenv.locals Y fp wr pz n₀ F) (passing pz n₀ i).length s₀
        (.compLoop (.GeneratorExp elt [⟨target, iter, ifs, 0⟩] scope pos) 0 (.ref I) .none cenv)
        ((model prog w).den (.compLoop (.GeneratorExp elt [⟨target, iter, ifs, 0⟩] scope pos) 0 (.ref I) .none cenv)) [] s := by
  have hh' : (A.over (.compLoop (.GeneratorExp elt [⟨target, iter, ifs, 0⟩] scope pos) 0 (.ref I) .none cenv) []).handled = none := hh
  intro k
  induction k with
  | zero =>
    intro i s₀ s hk hi hst hsince
    have hin : i = n₀ := by omega
    subst hin
    show Seg _ A _ _ _ s₀ _ ((compTurn (.GeneratorExp elt [⟨target, iter, ifs, 0⟩] scope pos) 0 (.ref I) .none cenv).onRaise (leaving cenv)) [] s
    rw [compTurn_gen, Sem.onRaise_eq_wrap]
    refine seg_bind_wrap (wpAny_standAt ?_)
    refine seg_bind_wrap (wpAny_mono (T.done _ s hh' hst) (fun r s1 ⟨e, g, ex⟩ => ?_) fun _ _ f => f.elim)
    subst e
    exact seg_end (.ok .next) ⟨rfl, by rw [passing_end]; rfl, sinceT hsince g, ex⟩
  | succ k ih =>
    intro i s₀ s hk hi hst hsince
    have hlt : i < n₀ := by omega
    show Seg _ A _ _ _ s₀ _ ((compTurn (.GeneratorExp elt [⟨target, iter, ifs, 0⟩] scope pos) 0 (.ref I) .none cenv).onRaise (leaving cenv)) [] s
    rw [compTurn_gen, Sem.onRaise_eq_wrap]
    refine seg_bind_wrap (wpAny_standAt ?_)
    refine seg_bind_wrap (wpAny_mono (T.go _ i s hh' hlt hst) (fun r s1 ⟨v, e, h1⟩ => ?_) fun _ _ f => f.elim)
    subst e
    refine seg_bind_wrap (wpAny_mono h1 (fun _ s2 h2 => ?_) fun _ _ f => f.elim)
    refine seg_bind_wrap (wpAny_mono h2 (fun _ s3 h3 => ?_) fun _ _ f => f.elim)
    refine seg_bind_wrap (wpAny_mono h3 (fun ok s4 ⟨e, hf, ht⟩ => ?_) fun _ _ f => f.elim)
    subst e
    cases hpz : pz i with
    | false =>
      obtain ⟨i4, g4⟩ := hf hpz
      rw [passing_false hlt hpz]
      simp only [Bool.false_eq_true, if_false]
      exact seg_again rfl (ih (i + 1) s₀ _ (by omega) hlt i4 (sinceT hsince g4))
    | true =>
      rw [passing_true hlt hpz, List.length_cons]
      simp only [if_true]
      have hy : ∀ v, yieldOut cenv v = yieldValue v := fun v => by simp only [yieldOut, hco, Bool.false_eq_true, if_false]
      simp only [hy]
      rw [Sem.bind_eq_wrap', Sem.bind_eq_wrap', Sem.wrap_wrap, Sem.wrap_wrap]
      refine seg_wrap (wpAny_mono (ht hpz) (fun y s₅ ⟨hFy, i5, g5⟩ => ?_) fun _ _ f => f.elim)
      refine seg_at (seg_yield rfl rfl rfl ⟨⟨i, passing_here hlt hpz, hFy⟩, sinceT hsince g5, T.ns _ _ i5, T.yy _ _ i5, fun s'' hal hC hY => ?_⟩)
      exact seg_again rfl (ih (i + 1) s'' s'' (by omega) hlt (T.frame _ _ _ i5 hal hC hY) (GenSince.refl _ _ _))

theorem seg_genStartH {elt target iter : Expr} {ifs : List Expr} {scope : Scope} {pos : Pos} {I : Addr} {fp wr bd : List Addr} {n₀ : Nat} {cenv : Env} {pz : Nat → Bool} {F : Nat → Value → Heap → Prop} {Inv : Nat → Heap → Prop} {Y : Heap → Prop}
    (hh : A.handled = none) (T : TurnH prog w cenv Y target ifs elt I fp wr bd n₀ pz F Inv) (hco : cenv.scope.isCoroutine = false) (s₀ s : Shared) (hst : Inv 0 s.heap) (hsince : GenSince cenv.locals wr s₀ s) :
    Seg (model prog w) A (fun n s₀ r s₁ => r = .ok .next ∧ EndH cenv.locals wr bd n s₀ s₁) (protoH cenv.locals Y fp wr pz n₀ F) (passing pz n₀ 0).length s₀
      (.compStart (.GeneratorExp elt [⟨target, iter, ifs, 0⟩] scope pos) 0 (.ref I) .none cenv)
      ((model prog w).den (.compStart (.GeneratorExp elt [⟨target, iter, ifs, 0⟩] scope pos) 0 (.ref I) .none cenv)) [] s := by
  have hh' : (A.over (.compStart (.GeneratorExp elt [⟨target, iter, ifs, 0⟩] scope pos) 0 (.ref I) .none cenv) []).handled = none := hh
  have loop := seg_genLoopH (iter := iter) (scope := scope) (pos := pos) hh T hco n₀ 0 s₀ s (Nat.sub_zero _) (Nat.zero_le _) hst hsince
  show Seg _ A _ _ _ s₀ _ ((compStart (.GeneratorExp elt [⟨target, iter, ifs, 0⟩] scope pos) 0 (.ref I) .none cenv).onRaise (leaving cenv)) [] s
  unfold compStart
  rw [Sem.onRaise_eq_wrap]
  show Seg _ A _ _ _ s₀ _ ((ask >>= _).wrap _ _ _ _) [] s
  refine seg_bind_wrap (wpAny_askSetting ?_)
  split
  · exact seg_again rfl loop
  · first
      | exact seg_bind_wrap (wpAny_rule (seg_bind_wrap (wpAny_standAt (seg_bind_wrap (T.self _ 0 s _ _ hh' hst (seg_again rfl loop))))))
      | (refine seg_bind_wrap (wpAny_rule ?_); show Seg _ A _ _ _ s₀ _ ((standAt iter.pos >>= _).wrap _ _ _ _) [] s; exact seg_bind_wrap (wpAny_standAt (seg_bind_wrap (T.self _ 0 s _ _ hh' hst (seg_again rfl loop)))))

def GenAtH (prog : Program) (w : World) (A : Around) (a : Addr) (g : Nat) (C : Addr) (Y : Heap → Prop) (fp wr bd : List Addr) (pz : Nat → Bool) (n₀ : Nat) (F : Nat → Value → Heap → Prop) (j : Nat) (s : Shared) : Prop :=
  s.heap.IsGen a g ∧ ∃ gs, s.gens[g]? = some gs ∧ ∀ s'' : Shared, (∀ b ∈ fp, ∀ o, s.heap.get? b = some o → s''.heap.get? b = some o) → (∃ m, s''.heap.Ns C m) → Y s''.heap →
    gs.Goes (model prog w) A.in1 (fun n s₀ r s₁ => r = .ok .next ∧ EndH C wr bd n s₀ s₁) (protoH C Y fp wr pz n₀ F) ((passing pz n₀ 0).length - j) (.send .none) s''

theorem GenAtH.fresh {elt target iter : Expr} {ifs : List Expr} {scope : Scope} {pos : Pos} {I a : Addr} {g : Nat} {fp wr bd : List Addr} {n₀ : Nat} {cenv : Env} {pz : Nat → Bool} {F : Nat → Value → Heap → Prop} {Inv : Nat → Heap → Prop} {Y : Heap → Prop}
    (hh : A.handled = none) (T : TurnH prog w cenv Y target ifs elt I fp wr bd n₀ pz F Inv) (hco : cenv.scope.isCoroutine = false) {s : Shared}
    (hg : s.heap.IsGen a g) (hgs : s.gens[g]? = some (.fresh (.compStart (.GeneratorExp elt [⟨target, iter, ifs, 0⟩] scope pos) 0 (.ref I) .none cenv)))
    (hst : Inv 0 s.heap) : GenAtH prog w A a g cenv.locals Y fp wr bd pz n₀ F 0 s :=
  ⟨hg, _, hgs, fun s'' hal hC hY => ⟨rfl, seg_genStartH (A := A.in1) hh T hco s'' s'' (T.frame _ _ _ hst hal hC hY) (GenSince.refl _ _ _)⟩⟩

section
variable {a C : Addr} {Y : Heap → Prop} {g n₀ : Nat} {fp wr bd : List Addr} {pz : Nat → Bool} {F : Nat → Value → Heap → Prop} {j : Nat} {s : Shared}
theorem GenAtH.frame (st : GenAtH prog w A a g C Y fp wr bd pz n₀ F j s) {h' : Heap} {tk : Nat} (hk : ∀ b ∈ a :: fp, ∀ o, s.heap.get? b = some o → h'.get? b = some o) : GenAtH prog w A a g C Y fp wr bd pz n₀ F j { s with heap := h', toks := tk } :=
  ⟨let ⟨o, nm, qn, ho, r⟩ := st.1; ⟨o, nm, qn, hk a (List.mem_cons_self ..) o ho, r⟩,
   let ⟨gs, hgs, hgo⟩ := st.2; ⟨gs, hgs, fun s'' hal => hgo s'' fun b hb o e => hal b hb o (hk b (List.mem_cons_of_mem _ hb) o e)⟩⟩
theorem GenAtH.item (st : GenAtH prog w A a g C Y fp wr bd pz n₀ F j s) (hh : A.handled = none) (hl : s.heap.NoLimit) (hC : ∃ m, s.heap.Ns C m) (hY : Y s.heap) (haC : a ≠ C) (haw : a ∉ wr) (hroom : A.depth < recursionLimit) (hj : j < (passing pz n₀ 0).length) :
    wpAny (model prog w) A (pyNext (.ref a)) (fun r s' => ∃ v i, r = some v ∧ (passing pz n₀ 0)[j]? = some i ∧ F i v s'.heap ∧ (∃ m, s'.heap.Ns C m) ∧ Y s'.heap ∧ GenAtH prog w A a g C Y fp wr bd pz n₀ F (j + 1) s' ∧ ∃ h' tk gn, s' = { s with heap := h', toks := tk, gens := gn } ∧ (∀ b o, b ∉ C :: wr → s.heap.get? b = some o → h'.get? b = some o) ∧ GenOnlyQ g s.gens gn) (fun _ _ => False) s := by
  obtain ⟨hg, gs, hgs, hgo⟩ := st
  obtain ⟨m, hm⟩ : ∃ m, (passing pz n₀ 0).length - j = m + 1 := ⟨(passing pz n₀ 0).length - j - 1, by omega⟩
  rw [hm] at hgo
  refine wpAny_pyNext_genexpQ (P := EndH C wr bd) hh hl hroom hg hgs (hgo _ (fun _ _ _ e => e) hC hY) (fun v s₁ gs' hb hv => ?_) (fun s₁ hp h' hk => ?_)
  · obtain ⟨⟨i, hi, hF⟩, ⟨h₁, tk₁, rfl, hk₁⟩, hC1, hY1, hkap⟩ := hv
    have hidx : (passing pz n₀ 0).length - 1 - (m + 1 - 1) = j := by omega
    rw [hidx] at hi
    refine ⟨v, i, rfl, hi, hF, hC1, hY1, ⟨let ⟨o, nm, qn, ho, r⟩ := hg; ⟨o, nm, qn, hk₁ a o haC haw ho, r⟩, gs', setGen_self (gs := .running) (setGen_self hgs), fun s'' hal hC' hY' => ?_⟩, _, _, _, rfl,
      fun b o hb e => hk₁ b o (fun h => hb (h ▸ List.mem_cons_self ..)) (fun h => hb (List.mem_cons_of_mem _ h)) e, GenOnlyQ.of ((GenOnly.setGen s g .running).trans (GenOnly.setGen _ g gs')) (setGen_self (gs := .running) (setGen_self hgs)) hb⟩
    have e : (passing pz n₀ 0).length - (j + 1) = m := by omega
    rw [e]
    exact hkap s'' hal hC' hY'
  · exact absurd hp.1 (Nat.succ_ne_zero m)
theorem GenAtH.done (st : GenAtH prog w A a g C Y fp wr bd pz n₀ F (passing pz n₀ 0).length s) (hh : A.handled = none) (hl : s.heap.NoLimit) (hC : ∃ m, s.heap.Ns C m) (hY : Y s.heap) (hroom : A.depth < recursionLimit) :
    wpAny (model prog w) A (pyNext (.ref a)) (fun r s' => r = none ∧ ∃ h' tk gn, s' = { s with heap := h', toks := tk, gens := gn } ∧ (∀ b o, b ∉ C :: wr → s.heap.get? b = some o → h'.get? b = some o) ∧ (∀ b ∈ C :: wr, b ∈ bd → ∃ o, h'.get? b = some o) ∧ GenOnlyQ g s.gens gn) (fun _ _ => False) s := by
  obtain ⟨hg, gs, hgs, hgo⟩ := st
  rw [Nat.sub_self] at hgo
  refine wpAny_pyNext_genexpQ (P := EndH C wr bd) hh hl hroom hg hgs (hgo _ (fun _ _ _ e => e) hC hY) (fun v s₁ gs' hb hv => ?_) (fun s₁ hp h' hk => ?_)
  · obtain ⟨_, _, hC1, hY1, hkap⟩ := hv
    exact False.elim (hkap s₁ (fun _ _ _ e => e) hC1 hY1)
  · obtain ⟨_, ⟨h₁, tk₁, rfl, hk₁⟩, ex⟩ := hp
    exact ⟨rfl, _, _, _, rfl, fun b o hb e => hk b o (hk₁ b o (fun h => hb (h ▸ List.mem_cons_self ..)) (fun h => hb (List.mem_cons_of_mem _ h)) e), fun b hb hb2 => let ⟨o, e⟩ := ex b hb hb2; ⟨o, hk b o e⟩, GenOnlyQ.of ((GenOnly.setGen s g .running).trans (GenOnly.setGen _ g .finished)) (setGen_self (gs := .running) (setGen_self hgs)) rfl⟩
end
end

/-- as Step.side, and generators move -/
theorem Step.sideG {x : Cx} {own₀ own : Own} {s₀ s : Shared} {WR : List Addr} {h' : Heap} {tk : Nat} {gn : Array GenState} (S : Step x own₀ s₀ own s) (hk : ∀ b o, b ∉ WR → s.heap.get? b = some o → h'.get? b = some o)
    (off : ∀ b ∈ WR, b ∉ addrs own ∧ s₀.heap.get? b = none ∧ (b ∉ x.bad → ∀ vs n, s.heap.get? b ≠ some { cls := .type "tuple", data := .seq vs n }) ∧ x.h₀.get? b = none ∧ (∀ p ∈ x.ro, p.1 ≠ b))
    (bd : ∀ a ∈ x.bad, ∃ o, h'.get? a = some o) (hg : AllBare gn) :
    Step x own₀ s₀ own { s with heap := h', toks := tk, gens := gn } := by
  have S1 := S.side (tk := tk) hk off bd
  have R := S1.rel
  exact ⟨⟨R.old, R.lim, R.os, hg, R.nodup, R.has, R.new, R.cs, R.ro, R.bd, R.kh, R.kin, R.tb⟩, S1.ext, S1.sub, S1.there⟩
end
section
structure TabOk (x : Cx) (c P : Addr) : Prop where
  m : (c, P) ∈ x.tabs
  k : x.K.lookup P = none
  t : ∃ c₀ ps₀, x.h₀.TableAt c₀ P ps₀
  n : P ≠ cStatics
section
variable {x : Cx} {A : Around} {own : Own}

theorem code_step {env : Env} {c P : Addr} {pos : Pos} {qn : Str} {scope : Scope} {s : Shared} {Q : Value → Shared → Prop} {E : Value → Shared → Prop} (R : Rel x own s) (T : TabOk x c P) (hc : env.code = .ref c)
    (hQ : ∀ v h' tk, Step x own s own { s with heap := h', toks := tk } → (∀ b o, b ≠ P → s.heap.get? b = some o → h'.get? b = some o) → (∃ o, s.heap.get? P = some o) → Q v { s with heap := h', toks := tk }) : wpAny (model x.prog x.w) A (genexprCode env pos qn scope) Q E s := by
  obtain ⟨⟨oc, hoc⟩, ⟨oP, hoP⟩, ⟨o, op, ps, e1, e2, k⟩⟩ := R.tb _ T.m
  obtain ⟨i1, i2⟩ := k _ e1 e2
  cases hf : codeAmong pos ps.toList with
  | some v => exact wpAny_genexprCode_hit hc i1 hf (hQ v s.heap s.toks (Step.toks (tk := s.toks) R) (fun _ _ _ e => e) ⟨_, e2⟩)
  | none =>
    refine wpAny_genexprCodeX hc i1 i2 hf fun c' h' tk hx hc' _ j1 _ j2 _ => hQ _ h' tk ?_ (fun b o hb e => hx b o hb e) ⟨_, e2⟩
    have hx' : ∀ b o, b ≠ P → s.heap.get? b = some o → h'.get? b = some o := fun b o hb e => hx b o hb e
    obtain ⟨c₀, ps₀, t₀⟩ := T.t
    have e2' := i2.2
    dsimp only at e2 e1
    have hop : op = { cls := .none, data := .fields ps } := Option.some.inj (e2.symm.trans e2')
    have tP : ∀ a o, s.heap.get? a = some o → o.cls ≠ .none → a ≠ P := fun a o e n h => by
      subst h; rw [e2'] at e; cases e; exact n rfl
    have nP : ∀ p ∈ own, p.1 ≠ P := fun p hp h => by
      have := R.new p hp
      rw [h] at this
      have h2 := t₀.2
      rw [this] at h2; cases h2
    have tup : TupKeep x.bad s.heap h' := fun d vs n _ e => hx' d _ (tP d _ e (by simp)) e
    refine ⟨⟨R.old.step_table t₀ i2 j2 hx T.n, ?_, R.os, R.gens, R.nodup, fun p hp => ?_, R.new, R.cs, fun p hp => ?_, fun a ha => ?_, R.kh, fun b o e => ?_, fun q hq => ?_⟩, fun a o e cl _ => hx' a o (tP a o e cl) e, fun _ h => .inl h, fun a o e => ?_⟩
    · obtain ⟨mc, ⟨o, es, ep, ho, r⟩, q⟩ := R.lim
      exact ⟨mc, ⟨o, es, ep, hx' _ _ (fun h => T.n h.symm) ho, r⟩, q⟩
    · obtain ⟨ob, e⟩ := (R.has p hp).there
      exact (R.has p hp).keep tup ((hx' _ _ (nP p hp) e).trans e.symm)
    · obtain ⟨h1, h2, o, e, cl⟩ := R.ro p hp
      have e' := hx' _ _ (tP _ _ e cl) e
      exact ⟨h1.keep tup (e'.trans e.symm), h2, o, e', cl⟩
    · obtain ⟨o, e⟩ := R.bd a ha
      by_cases h : a = P
      · subst h; exact ⟨_, j2.2⟩
      · exact ⟨o, hx' _ _ h e⟩
    · exact hx' b o (fun h => by subst h; rw [T.k] at e; cases e) (R.kin b o e)
    · obtain ⟨a1, a2, Tq⟩ := R.tb q hq
      refine ⟨a1, a2, ?_⟩
      obtain ⟨c2, P2⟩ := q
      by_cases h : P2 = P
      · subst h
        obtain ⟨o', op', ps', f1, f2, k'⟩ := Tq
        obtain ⟨l1, l2⟩ := k' _ f1 f2
        have nb : c2 ≠ P2 := by
          obtain ⟨_, _, _, _, _, _, _, _, _, _, _, _, _, _, _, _, _, _, _, _, hne⟩ := l1; exact hne
        have g1 : h'.get? c2 = some o' := hx' _ _ nb f1
        obtain ⟨o1, vs1, file1, tf1, fl1, tg1, inF1, tx1, tt1, op1, ho1, r1, r2, r3, r4, r5, r6, hop1, r7, r8, r9⟩ := l1
        obtain ⟨o3, vs3, file3, tf3, fl3, tg3, inF3, tx3, tt3, op3, ho3, _, _, _, _, _, _, hop3, r73, r83, _⟩ := j1
        obtain ⟨⟨o4, vs4, q1, q2, q3, q4⟩, _⟩ := l2
        exact Tab.of ⟨o1, vs1, file1, tf1, fl1, tg1, inF1, tx1, tt1, op3, hx' _ _ nb ho1, r1, r2, r3, r4, r5, r6, hop3, r73, r83, r9⟩ ⟨⟨o4, vs4, hx' _ _ nb q1, q2, q3, q4⟩, j2.2⟩
      · refine Tq.keep fun b o hb e => hx' b o ?_ e
        rcases hb with rfl | rfl
        · obtain ⟨o', op', ps', f1, f2, k'⟩ := Tq
          obtain ⟨_, ⟨⟨o4, vs4, q1, q2, _⟩, _⟩⟩ := k' _ f1 f2
          exact tP _ _ q1 (by rw [q2]; simp)
        · exact h
    · by_cases h : a = P
      · subst h; exact ⟨_, j2.2⟩
      · exact ⟨o, hx' _ _ h e⟩
end
end
section
structure BiOk (x : Cx) : Prop where
  ok : ∃ mg bm ob, BMod x.h₀ mainGlobals mg bm ob ∧ ∀ o, x.h₀.get? mainGlobals = some o → o.cls ≠ .none
section
variable {x : Cx} {A : Around} {own : Own} {env : Env} {n : Nat} {nm gn : List Str}
theorem bi_step {s : Shared} (R : Rel x own s) (B : BiOk x) {r : Addr} {Q : Addr → Shared → Prop} {E : Value → Shared → Prop} (h : Q builtinsNs s) : wpAny (model x.prog x.w) A (builtinsFor mainGlobals r) Q E s := by
  obtain ⟨mg, bm, ob, M, gc⟩ := B.ok
  obtain ⟨o, es, ep, e, q⟩ := M.ns
  exact wpAny_builtinsFor ⟨o, es, ep, R.get e (gc _ e), q⟩ M.name M.ne (R.get M.obj (by rw [M.cls]; simp)) M.cls M.dict M.data h
theorem gen_make {elt target iter : Expr} {ifs : List Expr} {scope : Scope} {cl : List (Str × Addr)} {pos : Pos} {P c : Addr} (H : Fm n A env nm gn) (B : BiOk x) (T : TabOk x c P) (hc : env.code = .ref c) (hco : scope.isCoroutine = false) (hclos : closureFor scope env = pure cl)
    (hcell : ∀ y ∈ scope.names, y.2 ≠ .cell) (h0 : scope.names.lookup (".0" : Str) = some NameKind.local) (hkind : scope.kind = .function) {s : Shared} {K : Value → Shared → Prop}
    (h : wpAny (model x.prog x.w) A (eval iter env) (fun xv s₁ => wpAny (model x.prog x.w) A (pyIter xv) (fun it s₂ => ∃ y : Cx, y.prog = x.prog ∧ y.w = x.w ∧ y.h₀ = x.h₀ ∧ y.tabs = x.tabs ∧ y.K = x.K ∧ ∃ own, Rel y own s₂ ∧
      ∀ code h' tk C a, s₂.heap.get? C = none → s₂.heap.get? a = none → C ≠ a → (∀ b o, b ≠ P → s₂.heap.get? b = some o → h'.get? b = some o) → h'.Ns C (fun y => if y = ".0" then some it else none) → (∃ nm qn, h'.get? a = some { cls := .type "generator", data := .fields #[.int s₂.gens.size 0, nm, qn] }) →
        Step y own s₂ own { s₂ with gens := s₂.gens.push (.fresh (.compStart (.GeneratorExp elt [⟨target, iter, ifs, 0⟩] scope pos) 0 it .none (genEnv scope cl C code builtinsNs env))), toks := tk, heap := h' } →
        K (.ref a) { s₂ with gens := s₂.gens.push (.fresh (.compStart (.GeneratorExp elt [⟨target, iter, ifs, 0⟩] scope pos) 0 it .none (genEnv scope cl C code builtinsNs env))), toks := tk, heap := h' }) (fun _ _ => False) s₁) (fun _ _ => False) s)
    (hs : ∀ x, genFold iter env x = pure x := by intro _; with_unfolding_all rfl) :
    wpAny (model x.prog x.w) A (eval (.GeneratorExp elt [⟨target, iter, ifs, 0⟩] scope pos) env) K (fun _ _ => False) s := by
  have hroom : A.depth < recursionLimit := by have := H.dep; omega
  refine wpAny_GeneratorExp_make hco hclos hcell h0 hkind hroom (wpAny_mono h (fun xv s₁ h₁ => wpAny_mono h₁ (fun it s₂ h₂ => ?_) fun _ _ e => e) fun _ _ e => e) hs
  obtain ⟨y, e1, e2, e3, e4, e5, own2, R, h₂⟩ := h₂
  refine ⟨R.lim, ?_⟩
  have B' : BiOk y := ⟨by rw [e3]; exact B.ok⟩
  have T' : TabOk y c P := ⟨by rw [e4]; exact T.m, by rw [e5]; exact T.k, by rw [e3]; exact T.t, T.n⟩
  rw [← e1, ← e2]
  refine code_step R T' hc fun code h3 tk3 S3 k3 hP => ?_
  rw [H.gl]
  refine bi_step S3.rel B' fun h' hn' hs' => ?_
  obtain ⟨oP, eP⟩ := hP
  have hsz : h'.objs.size = h3.objs.size + 1 := by rw [hs'.1, Heap.size_push]
  have keep4 : ∀ b o, h3.get? b = some o → h'.get? b = some o := fun b o e => hs'.extBut b o (Nat.ne_of_lt (Heap.lt_size e)) (Heap.get?_push_of_some _ e)
  have none3 : ∀ b, h3.objs.size ≤ b → s₂.heap.get? b = none := fun b hb => by
    cases e : s₂.heap.get? b with
    | none => rfl
    | some o =>
      obtain ⟨o', e'⟩ := S3.there b o e
      exact absurd (Nat.lt_of_lt_of_le (Heap.lt_size e') hb) (Nat.lt_irrefl _)
  refine h₂ code _ _ h3.objs.size h'.objs.size (none3 _ (Nat.le_refl _)) (none3 _ (by rw [hsz]; exact Nat.le_succ _)) (by rw [hsz]; exact Nat.ne_of_lt (Nat.lt_succ_self _)) (fun b o hb e => Heap.get?_push_of_some _ (keep4 b o (k3 b o hb e))) (hn'.push _) ⟨_, _, Heap.get?_push_size _ rfl⟩ ?_
  refine S3.trans ?_
  have R3 := S3.rel
  exact Step.make R3 (fun b o _ e => Heap.get?_push_of_some _ (keep4 b o e)) (fun p hp => let ⟨o, e⟩ := (R3.has p hp).there; ⟨o, Heap.get?_push_of_some _ (keep4 _ o e)⟩) R3.nodup (fun p hp => (R3.has p hp).grow fun b o e => Heap.get?_push_of_some _ (keep4 b o e)) (fun _ h => .inl h) (R3.gens.push rfl)
end
end
section
open PySem PySem.W PyProof.Rows PySem.Calls
theorem lk_gen_ga : typeLookup (.type "generator") "__getattribute__" = pure (some (.builtin "object.__getattribute__")) := by rw [typeLookup_type, builtinLookup_eq_fast]; kernel_rfl
theorem lk_gen_keys : typeLookup (.type "generator") "keys" = pure none := by rw [typeLookup_type, builtinLookup_eq_fast]; kernel_rfl
theorem lk_gen_hook : typeLookup (.type "generator") "__getattr__" = pure none := by rw [typeLookup_type, builtinLookup_eq_fast]; kernel_rfl
theorem args_obj_ga (f a : Value) : argsOk "object.__getattribute__" ⟨[f, a], []⟩ := by unfold argsOk; kernel_rfl
theorem entry_obj_ga : entryFor table "object.__getattribute__" = some Builtin.«object.__getattribute__» := entryFor_of_tree (by kernel_rfl)
section
variable {prog : Program} {w : World} {A : Around} {h : Heap} {g : Array GenState} {d : Drawn} {t : Nat} {os : OsState} {a : Addr} {k : Nat}
theorem sub_attr : isSubtype (.type "AttributeError") (.type "AttributeError") = pure true := by rw [isSubtype_type]; kernel_rfl
theorem note_fresh {B : Addr} {tt : Value} {x name : Value} {s : Shared} {Q : Unit → Shared → Prop} {E : Value → Shared → Prop} (he : s.heap.get? B = some { cls := .type "AttributeError", data := .fields #[tt, .none, .none, .none, .bool false, .none, unsetMember, unsetMember] })
    (q : ∀ h', Heap.SameBut B s.heap h' → (∃ o, h'.get? B = some o ∧ o.cls = .type "AttributeError") → Q () { s with heap := h' }) : wpAny (model prog w) A (noteAttr (.ref B) x name) Q E s := by
  unfold noteAttr lacksNameAndObj
  refine wpAny_bind (wpAny_bind (wpAny_isInstance (T := "AttributeError") (b := true) ⟨_, he, rfl⟩ sub_attr ?_))
  refine wpAny_bind (wpAny_load he ?_)
  refine wpAny_pure ?_
  refine wpAny_bind (wpAny_rule ?_)
  refine wpAny_bind (wpAny_typeOf (T := "AttributeError") ⟨_, he, rfl⟩ ?_)
  show wpAny _ _ (layMembers B 6 #[name, x]) _ _ _
  unfold layMembers
  refine wpAny_bind (wpAny_load he ?_)
  refine wpAny_update he (q _ (Heap.SameBut.update ..) ⟨_, Heap.get?_update_self _ he rfl, rfl⟩)
theorem ga_entry {tk : Tok} {Q : Fin → Shared → Prop} {E : Value → Shared → Prop} (hh : A.handled = none) (hg : ∃ nm qn, h.get? a = some { cls := .type "generator", data := .fields #[.int k 0, nm, qn] }) (hq : ∀ e h' tk, (∀ b o, h.get? b = some o → h'.get? b = some o) → (∃ b o, e = .ref b ∧ h'.get? b = some o ∧ o.cls = .type "AttributeError") → E e ⟨h', g, d, tk, os⟩) :
    wpAny (model prog w) A (Builtin.«object.__getattribute__» ⟨[.ref a, .str "keys" tk], []⟩) Q E ⟨h, g, d, t, os⟩ := by
  obtain ⟨nm, qn, ho⟩ := hg
  have hT : (⟨h, g, d, t, os⟩ : Shared).TypeIs (.ref a) "generator" := ⟨_, ho, rfl⟩
  have f4 := lk_gen_keys
  repeat (any_goals (first | assumption | wp_step))
  unfold raiseAttrError
  refine wpAny_bind (wpAny_mkStr ?_ (by rw [sizeLine_eq]; decide +kernel))
  simp only [newExc, newTuple]
  refine wpAny_bind ?_
  refine wpAny_bind (wpAny_newObj_type ?_ (by size_fits))
  refine wpAny_bind (wpAny_of_eq (a := Value.none) (by kernel_rfl) ?_)
  refine wpAny_newObj_type ?_ (by size_fits)
  refine wpAny_bind (wpAny_mkText ?_)
  refine wpAny_bind (note_fresh (tt := .ref h.objs.size) (Heap.get?_push_size _ rfl) fun h' hs' he' => ?_)
  unfold raiseNew
  refine wpAny_bind (wpAny_handled ?_)
  rw [hh]
  refine wpAny_throw (hq _ h' _ (fun b o e => ?_) ?_)
  · have e1 := Heap.get?_push_of_some { cls := .type "tuple", data := .seq #[Value.str (Str.ofString (toString "'" ++ toString ((Manifest.find? "generator").elim "generator" fun x => x.tpName) ++ toString "' object has no attribute '") ++ Str.ofString "keys" ++ Str.ofString "'") t] } e
    refine hs'.extBut b o (fun h => ?_) (Heap.get?_push_of_some _ e1)
    have := Heap.lt_size e1
    rw [h] at this
    exact Nat.lt_irrefl _ this
  · obtain ⟨o, e, c⟩ := he'
    exact ⟨_, o, rfl, e, c⟩
theorem slot_gen_ga : Slot "generator" "__getattribute__" "object.__getattribute__" :=
  .of (owner := "object") (n := "__getattribute__") (by rw [typeLookup_type, builtinLookup_eq_fast]; kernel_rfl) (by decide +kernel) (by decide +kernel) (by decide +kernel)
    (by first | exact .inl (by decide +kernel) | exact .inr (by decide +kernel)) (by rw [isSubtype_type]; kernel_rfl)
theorem keys_none {s : Shared} {Q : Option Value → Shared → Prop} {E : Value → Shared → Prop} (hh : A.handled = none) (hg : ∃ nm qn, s.heap.get? a = some { cls := .type "generator", data := .fields #[.int k 0, nm, qn] })
    (q : ∀ h' tk, (∀ b o, s.heap.get? b = some o → h'.get? b = some o) → Q none { s with heap := h', toks := tk }) : wpAny (model prog w) A (getAttr? (.ref a) "keys") Q E s := by
  obtain ⟨h, g, d, t, os⟩ := s
  have hT : (⟨h, g, d, t, os⟩ : Shared).TypeIs (.ref a) "generator" := let ⟨_, _, e⟩ := hg; ⟨_, e, rfl⟩
  unfold getAttr? getAttrBy?
  refine wpAny_bind (wpAny_mkText ?_)
  refine wpAny_bind (wpAny_attempt ?_)
  unfold getAttrBy
  refine wpAny_holding ?_
  have hT : (⟨h, g, d, t + 1, os⟩ : Shared).TypeIs (.ref a) "generator" := let ⟨_, _, e⟩ := hg; ⟨_, e, rfl⟩
  refine wpAny_bind (wpAny_typeOf hT ?_)
  rw [lk_gen_ga]
  refine wpAny_bind (wpAny_pure ?_)
  show wpAny _ _ (getAttrByItsOwn (.ref a) _ (.type "generator") (.builtin "object.__getattribute__") false false) _ _ _
  unfold getAttrByItsOwn
  refine wpAny_bind (m := hookBefore (.type "generator")) (wpAny_pure ?_)
  refine wpAny_bind (wpAny_attempt (wpAny_holding ?_))
  show wpAny _ _ (boundAndCalled (.builtin "object.__getattribute__") (.ref a) _) _ _ _
  unfold boundAndCalled
  rw [slot_gen_ga.bind]
  refine wpAny_bind (wpAny_pure ?_)
  refine wpAny_call_entry slot_gen_ga hT entry_obj_ga ?_ (args_obj_ga ..)
  refine ga_entry hh hg fun e h' tk hk ⟨b, o, eb, e1, c1⟩ => ?_
  subst eb
  have hT' : (⟨h', g, d, tk, os⟩ : Shared).TypeIs (.ref b) "AttributeError" := ⟨_, e1, c1⟩
  show wpAny _ _ (getattributeRaised (.ref a) _ (.type "generator") (.ref b) none false false) _ _ _
  unfold getattributeRaised
  refine wpAny_bind (wpAny_isInstance hT' sub_attr ?_)
  rw [if_pos rfl]
  show wpAny _ _ (hookBehind (.type "generator") none >>= _) _ _ _
  unfold hookBehind
  rw [if_neg (by simp [onTheHeap]), lk_gen_hook]
  refine wpAny_bind (wpAny_pure ?_)
  refine wpAny_throw ?_
  refine wpAny_bind (wpAny_isInstance hT' sub_attr ?_)
  rw [if_pos rfl]
  exact wpAny_pure (q h' tk hk)
end
end
section
theorem Upd.mk {a : Addr} {o o' : AObj} {l l' : Own} (u : Upd a o o' l l') (o2 : AObj) : ∃ l2, Upd a o' o2 l' l2 ∧ Upd a o o2 l l2 := by
  induction u with
  | z => exact ⟨_, .z, .z⟩
  | s _ ih => obtain ⟨l2, u1, u2⟩ := ih; exact ⟨_, .s u1, .s u2⟩
theorem Upd.self {a : Addr} {o : AObj} {l : Own} (m : (a, o) ∈ l) : Upd a o o l l := by
  induction l with
  | nil => cases m
  | cons p l ih =>
    rcases List.mem_cons.mp m with rfl | m
    · exact .z
    · exact .s (ih m)
theorem Upd.uniq {a : Addr} {o o' : AObj} {l l1 l2 : Own} (u1 : Upd a o o' l l1) (u2 : Upd a o o' l l2) (nd : (Mine.addrs l).Nodup) : l1 = l2 := by
  induction u1 generalizing l2 with
  | z =>
    cases u2 with
    | z => rfl
    | s u => exact absurd (mem_addrs u.mem) (List.nodup_cons.mp nd).1
  | s u ih =>
    cases u2 with
    | z => exact absurd (mem_addrs u.mem) (List.nodup_cons.mp nd).1
    | s u' => rw [ih u' (List.nodup_cons.mp nd).2]

/-- a lone object joins the ledger -/
theorem Step.join {x : Cx} {own₀ own : Own} {s₀ s : Shared} {C : Addr} {o : AObj} (S : Step x own₀ s₀ own s) (H : Has x.prog x.w x.bad s.heap C o) (h0 : x.h₀.get? C = none) (hs : s₀.heap.get? C = none) (ho : C ∉ addrs own) (hr : ∀ p ∈ x.ro, p.1 ≠ C) : Step x own₀ s₀ ((C, o) :: own) s := by
  have R := S.rel
  refine ⟨⟨R.old, R.lim, R.os, R.gens, List.nodup_cons.mpr ⟨ho, R.nodup⟩, fun p hp => ?_, fun p hp => ?_, R.cs, fun p hp => ?_, R.bd, R.kh, R.kin, R.tb⟩, S.ext, fun d hd => ?_, S.there⟩
  · rcases List.mem_cons.mp hp with rfl | hp
    · exact H
    · exact R.has p hp
  · rcases List.mem_cons.mp hp with rfl | hp
    · exact h0
    · exact R.new p hp
  · obtain ⟨a, b, c⟩ := R.ro p hp
    refine ⟨a, fun hm => ?_, c⟩
    rcases List.mem_cons.mp hm with h | h
    · exact hr p hp h
    · exact b h
  · rcases List.mem_cons.mp hd with rfl | hd
    · exact .inr hs
    · exact S.sub d hd

theorem entry_updloop : entryFor table "dict.update.loop" = some Builtin.«dict.update.loop» := entryFor_of_tree (by kernel_rfl)
theorem plain_updloop : plainId "dict.update.loop" = true := by decide +kernel

def Lf (bad : List Addr) (fp wr : List Addr) (h : Heap) : Prop := ∀ b ∈ fp, ∃ o, h.get? b = some o ∧ o.cls ≠ .none ∧ (b ∈ wr → b ∉ bad → o.cls ≠ .type "tuple")
theorem Lf.keep {bad fp wr : List Addr} {h h' : Heap} (L : Lf bad fp wr h) (hk : ∀ b ∈ fp, ∀ o, h.get? b = some o → h'.get? b = some o) : Lf bad fp wr h' := fun b hb => let ⟨o, e, r⟩ := L b hb; ⟨o, hk b hb o e, r⟩
def FPair (bad fp wr : List Addr) (cs gs : Nat → Int) (i : Nat) (y : Value) (h : Heap) : Prop := Lf bad fp wr h ∧ ∃ T t1 t2 n, y = .ref T ∧ h.get? T = some { cls := .type "tuple", data := .seq #[.int (cs i) t1, .int (gs i) t2] n }
def putAll (es : List (Int × AV)) (l : List Nat) (cs gs : Nat → Int) : List (Int × AV) := l.foldl (fun es i => putK es (cs i) (.int (gs i))) es

section
variable {x : Cx} {A : Around} {own₀ own : Own} {a C D : Addr} {g n₀ : Nat} {fp wr : List Addr} {pz : Nat → Bool} {cs gs : Nat → Int}
theorem putAll_len (es : List (Int × AV)) (l : List Nat) : (putAll es l cs gs).length ≤ es.length + l.length := by
  induction l generalizing es with
  | nil => exact Nat.le_refl _
  | cons i l ih =>
    have := ih (putK es (cs i) (.int (gs i)))
    have h2 : (putK es (cs i) (.int (gs i))).length ≤ es.length + 1 := by unfold putK; split <;> simp
    show (putAll (putK es (cs i) (.int (gs i))) l cs gs).length ≤ _
    simp only [List.length_cons]; omega
theorem upd_loop (hh : A.handled = none) (hroom : A.depth < recursionLimit) (haC : a ≠ C) (haw : a ∉ wr) (hsub : ∀ b ∈ wr, b ∈ fp) (hCf : C ∉ fp) (haf : a ∉ fp) {s₀ : Shared} {es : List (Int × AV)} (hz : (es.length : Int) + (passing pz n₀ 0).length < 10000000)
    (hWR : ∀ b ∈ C :: wr, s₀.heap.get? b = none ∧ x.h₀.get? b = none ∧ (∀ p ∈ x.ro, p.1 ≠ b)) {R : Result → Shared → Prop} {own' : Own} (u : Upd D (.dictI es) (.dictI (putAll es (passing pz n₀ 0) cs gs)) own own') (nd : (addrs own).Nodup)
    (hq : ∀ s', Step x own₀ s₀ own' s' → R (.ok (.ret .none)) s') :
    ∀ (k j : Nat) (s : Shared) (own1 : Own), (passing pz n₀ 0).length - j = k → j ≤ (passing pz n₀ 0).length → Step x own₀ s₀ own1 s → Upd D (.dictI es) (.dictI (putAll es ((passing pz n₀ 0).take j) cs gs)) own own1 →
      Lf x.bad fp wr s.heap → (∃ m, s.heap.Ns C m) → (∀ b ∈ a :: C :: fp, b ∉ addrs own) → GenAtH x.prog x.w A.in1 a g C (fun _ => True) fp wr x.bad pz n₀ (FPair x.bad fp wr cs gs) j s →
      ∀ (i : Int) t, codeAny (model x.prog x.w) A (.builtin "dict.update.loop" ⟨[.ref D, .ref a, .int i t, .none], []⟩) R s := by
  intro k
  induction k with
  | zero =>
    intro j s own1 hk hj S u1 L hC hF G i t
    have ej : j = (passing pz n₀ 0).length := by omega
    subst ej
    refine codeAny_builtin entry_updloop ?_
    rw [Around.under_plainId plain_updloop _]
    show wpAny _ A.in1 (pyNext (.ref a) >>= _) _ _ s
    refine wpAny_bind (wpAny_mono (G.done hh S.rel.lim hC trivial hroom) (fun r s' ⟨er, h', tk, gn, es', hk', hex, hg'⟩ => ?_) fun _ _ f => f.elim)
    subst er es'
    rw [List.take_length] at u1
    have eo := u1.uniq u nd
    subst eo
    have hF1 : ∀ b ∈ a :: C :: fp, b ∉ addrs own1 := by rw [u1.addrs]; exact hF
    refine wpAny_bind (wpAny_pure (wpAny_pure ?_))
    refine hq _ (S.sideG (WR := C :: wr) (fun b o hb e => hk' b o hb e) (fun b hb => ⟨hF1 b (by rcases List.mem_cons.mp hb with rfl | hb; simp; exact .tail _ (.tail _ (hsub b hb))), (hWR b hb).1, fun nb vs n e => ?_, (hWR b hb).2⟩) (fun b hb => ?_) (hg'.bare S.rel.gens))
    · rcases List.mem_cons.mp hb with rfl | hb
      · obtain ⟨m, o, es, ep, e', d, _⟩ := hC
        rw [e] at e'; cases e'; cases d
      · obtain ⟨o, e', _, c⟩ := L b (hsub b hb)
        rw [e] at e'; cases e'; exact c hb nb rfl
    · by_cases hm : b ∈ C :: wr
      · exact hex b hm hb
      · obtain ⟨o, e⟩ := S.rel.bd b hb
        exact ⟨o, hk' b o hm e⟩
  | succ k ih =>
    intro j s own1 hk hj S u1 L hC hF G i t
    have hlt : j < (passing pz n₀ 0).length := by omega
    have hF1 : ∀ b ∈ a :: C :: fp, b ∉ addrs own1 := by rw [u1.addrs]; exact hF
    refine codeAny_builtin entry_updloop ?_
    rw [Around.under_plainId plain_updloop _]
    show wpAny _ A.in1 (pyNext (.ref a) >>= _) _ _ s
    refine wpAny_bind (wpAny_mono (G.item hh S.rel.lim hC trivial haC haw hroom hlt) (fun r s' ⟨v, ii, er, ei, ⟨L', T, t1, t2, nT, ev, eT⟩, hC', _, G', h', tk, gn, es', hk', hg'⟩ => ?_) fun _ _ f => f.elim)
    subst er es' ev
    have S1 : Step x own₀ s₀ own1 { s with heap := h', toks := tk, gens := gn } := S.sideG (WR := C :: wr) (fun b o hb e => hk' b o hb e) (fun b hb => ⟨hF1 b (by rcases List.mem_cons.mp hb with rfl | hb; simp; exact .tail _ (.tail _ (hsub b hb))), (hWR b hb).1, fun nb vs n e => by
        rcases List.mem_cons.mp hb with rfl | hb
        · obtain ⟨m, o, es, ep, e', d, _⟩ := hC
          rw [e] at e'; cases e'; cases d
        · obtain ⟨o, e', _, c⟩ := L b (hsub b hb)
          rw [e] at e'; cases e'; exact c hb nb rfl, (hWR b hb).2⟩) (fun b hb => by
        by_cases hm : b ∈ C :: wr
        · rcases List.mem_cons.mp hm with rfl | hm
          · obtain ⟨m, o, es, ep, e', _⟩ := hC'; exact ⟨o, e'⟩
          · obtain ⟨o, e', _⟩ := L' b (hsub b hm); exact ⟨o, e'⟩
        · obtain ⟨o, e⟩ := S.rel.bd b hb
          exact ⟨o, hk' b o hm e⟩) (hg'.bare S.rel.gens)
    have SC : Step x own₀ s₀ ((C, .ns [] []) :: own1) { s with heap := h', toks := tk, gens := gn } := S1.join (by obtain ⟨m, e⟩ := hC'; exact ⟨m, e, .nil, by simp⟩) (hWR C (.head _)).2.1 (hWR C (.head _)).1 (hF1 C (by simp)) (hWR C (.head _)).2.2
    refine wpAny_bind (wpAny_holding ?_)
    refine wpAny_bind (wpAny_tryCatch ?_)
    unfold Builtin.Dict.pairItems
    refine wpAny_bind (wpAny_typeOf (T := "tuple") ⟨_, eT, rfl⟩ ?_)
    refine wpAny_bind (wpAny_seqItems eT rfl ?_)
    refine wpAny_pure ?_
    show wpAny _ _ (holding [.int (cs ii) t1, .int (gs ii) t2] (dictSet D (.int (cs ii) t1) (.int (gs ii) t2))) _ _ _
    refine wpAny_holding ?_
    have hlen : (putAll es ((passing pz n₀ 0).take j) cs gs).length ≤ es.length + j := by
      have := putAll_len (cs := cs) (gs := gs) es ((passing pz n₀ 0).take j)
      rw [List.length_take] at this; omega
    have et : (passing pz n₀ 0).take (j + 1) = (passing pz n₀ 0).take j ++ [ii] := by
      rw [List.take_add_one, ei]; rfl
    have ep : putAll es ((passing pz n₀ 0).take (j + 1)) cs gs = putK (putAll es ((passing pz n₀ 0).take j) cs gs) (cs ii) (.int (gs ii)) := by
      rw [et]; unfold putAll; rw [List.foldl_append]; rfl
    obtain ⟨own2, v1, v2⟩ := u1.mk (.dictI (putAll es ((passing pz n₀ 0).take (j + 1)) cs gs))
    have RC := SC.rel
    have v1' : Upd D (.dictI (putAll es ((passing pz n₀ 0).take j) cs gs)) (.dictI (putAll es ((passing pz n₀ 0).take (j + 1)) cs gs)) ((C, .ns [] []) :: own1) ((C, .ns [] []) :: own2) := .s v1
    have H := RC.has _ v1'.mem
    obtain ⟨ns, kvs, epd, hd, rs⟩ := H
    refine wpAny_dictSet_pairs (intKind_is x.prog x.w (cs ii) t1) hd.dictOf (fun h2 hd2 hs2 => ?_) (by rw [← rs.length, sizeLine_eq]; omega)
    have tkp : TupKeep x.bad h' h2 := fun b us m _ e => hs2.extBut b _ (fun eb => by subst eb; exact (RC.has _ v1'.mem).notTup e) e
    obtain ⟨ep', hd'⟩ := hd2.dictAt
    have S2 : Step x ((C, .ns [] []) :: own1) { s with heap := h', toks := tk, gens := gn } ((C, .ns [] []) :: own2) { s with heap := h2, toks := tk + 1, gens := gn } :=
      Step.upd (tk := tk + 1) RC v1' (fun b o hb e => hs2.extBut b o hb e) (by
        refine ⟨ns, _, ep', hd', ?_⟩
        rw [ep]
        exact (rs.mono tkp).put _ rep_mk_int)
    have S3 := (SC.trans S2)
    have S3' : Step x own₀ s₀ own2 { s with heap := h2, toks := tk + 1, gens := gn } := S3.forget (List.sublist_cons_self ..)
    have kfp : ∀ b ∈ a :: fp, ∀ o, h'.get? b = some o → h2.get? b = some o := fun b hb o e => hs2.extBut b o (fun eb => by
      have m1 := mem_addrs v1.mem
      refine hF1 b ?_ (eb ▸ m1)
      rcases List.mem_cons.mp hb with rfl | hb
      · simp
      · exact .tail _ (.tail _ hb)) e
    refine wpAny_pure ⟨plainId_quiet plain_updloop _, ih (j + 1) _ own2 (by omega) hlt S3' (ep ▸ ?_) (L'.keep fun b hb o e => kfp b (.tail _ hb) o e) ?_ hF (G'.frame (tk := tk + 1) kfp) _ _⟩
    · rw [← ep]; exact v2
    · obtain ⟨f, e, _⟩ := S3.rel.has (C, .ns [] []) (.head _)
      exact ⟨f, e⟩
end
end
section
theorem name_local {M : Model} {A : Around} {E : Value → Shared → Prop} {s : Shared} {env : Env} {y : Str} {p : Pos} {m} {v : Value} {Q : Value → Shared → Prop} (hk : env.scope.kind = .function) (hl : env.kindOf y = some .local) (hd : (y == ("__debug__" : Str)) = false) (hn : s.heap.Ns env.locals m) (hv : m y = some v) (h : Q v s) :
    wpAny M A (eval (.Name y p) env) Q E s := wpAny_Name (wpAny_loadName_local hk hl hn hv h) hd
theorem turn_zip {prog : Program} {w : World} {cenv : Env} {xa xb : Str} {pa pb pt pf p1 p2 pe : Pos} {kt ke : Nat} {I : Addr} {fp wr bd : List Addr} {n₀ : Nat} {cs gs : Nat → Int} {Pt : Nat → Array Value → Prop} {St : Nat → Heap → Prop} {Mid : Nat → Addr → Heap → Prop}
    {A₀ : Around} (hA₀ : A₀.handled = none) (W : ∀ A' : Around, A'.handled = none → WalksT prog w A' I fp wr n₀ Pt St Mid) (hval : ∀ i vals, i < n₀ → Pt i vals → ∃ t1 t2, vals = #[.int (cs i) t1, .int (gs i) t2]) (hl : ∀ i h, St i h → Lf bd fp wr h)
    (hD : ∀ (A' : Around) s, A'.handled = none → St n₀ s.heap → wpAny (model prog w) A' (pyNext (.ref I)) (fun r s1 => r = none ∧ ∃ h1 t1, s1 = { s with heap := h1, toks := t1 } ∧ (∀ b o, b ∉ wr → s.heap.get? b = some o → h1.get? b = some o) ∧ (∀ b ∈ wr, b ∈ bd → ∃ o, h1.get? b = some o)) (fun _ _ => False) s)
    (hab : xa ≠ xb) (hxa : cenv.kindOf xa = some .local) (hxb : cenv.kindOf xb = some .local) (hda : (xa == ("__debug__" : Str)) = false) (hdb : (xb == ("__debug__" : Str)) = false) (hk : cenv.scope.kind = .function) (hCf : cenv.locals ∉ fp) :
    TurnH prog w cenv (fun _ => True) (.Tuple [.Name xa pa, .Name xb pb] kt pt) [.Name xb pf] (.Tuple [.Name xa p1, .Name xb p2] ke pe) I fp wr bd n₀ (fun i => decide (gs i ≠ 0)) (FPair bd fp wr cs gs) (fun i h => (∃ m, h.Ns cenv.locals m) ∧ St i h) where
  yy := fun _ _ _ => trivial
  frame := fun i h h' ⟨_, st⟩ hk hC _ => ⟨hC, (W A₀ hA₀).frame _ _ _ st hk⟩
  ns := fun _ _ st => st.1
  self := fun A' i s Q E hA st q => (W A' hA).self i s Q E st.2 q
  done := fun A' s hA st => by
    refine wpAny_mono (hD A' s hA st.2) (fun r s1 ⟨er, h1, t1, es, k, ex⟩ => ?_) fun _ _ f => f
    subst er es
    have hCw : cenv.locals ∉ wr := fun hm => hCf ((W A' hA).sub _ hm)
    refine ⟨rfl, ⟨h1, t1, rfl, fun b o _ hb e => k b o hb e⟩, fun b hb hb2 => ?_⟩
    rcases List.mem_cons.mp hb with rfl | hb
    · obtain ⟨m, o, es, ep, e, _⟩ := st.1
      exact ⟨o, k _ _ hCw e⟩
    · exact ex b hb hb2
  go := fun A' i s hA hi st => by
    have Wa := W A' hA
    have hCw : cenv.locals ∉ wr := fun hm => hCf (Wa.sub _ hm)
    have hp : (cenv.scope.kind == .class || (cenv.scope.kind == .module && cenv.locals != cenv.globals)) = false := by rw [hk]; rfl
    refine Wa.item i s _ _ hi st.2 fun T vals h₁ tk₁ hPv _ hT₁ hmid hk₁ => ?_
    obtain ⟨t1, t2, rfl⟩ := hval i vals hi hPv
    obtain ⟨m, hn⟩ := st.1
    refine ⟨_, rfl, Wa.go _ _ _ i T _ _ _ hmid fun h₁' hst₁ hk₁' => ?_⟩
    have hT₁' : h₁'.IsTuple T _ := let ⟨o, e, r⟩ := hT₁; ⟨o, hk₁' _ o (Wa.apart i T _ hmid) e, r⟩
    refine wpAny_assign_Tuple hA hT₁' rfl rfl fun h₁'' hx₁ => ?_
    replace hx₁ : Heap.ExtBut h₁'.objs.size h₁' h₁'' := hx₁
    have old₁ : ∀ b o, h₁'.get? b = some o → h₁''.get? b = some o := fun b o e => hx₁ b o (Nat.ne_of_lt (Heap.lt_size e)) e
    show wpAny _ _ (do holding [.int (gs i) t2] (assign (.Name xa pa) cenv (.int (cs i) t1)); do holding [] (assign (.Name xb pb) cenv (.int (gs i) t2)); pure ()) _ _ _
    refine wpAny_bind (wpAny_holding (wpAny_assign_Name (wpAny_storeName_local hxa (hn.at' fun o e => old₁ _ o (hk₁' _ o hCw (hk₁ _ o hCw e))) (fun h₂a hn₂a hs₂a => ?_) hp)))
    replace hs₂a : Heap.SameBut cenv.locals h₁'' h₂a := hs₂a
    refine wpAny_bind (wpAny_holding (wpAny_assign_Name (wpAny_storeName_local hxb hn₂a (fun h₂ hn₂ hs₂ => wpAny_pure ?_) hp)))
    replace hs₂ : Heap.SameBut cenv.locals h₂a h₂ := hs₂
    have up₂ : ∀ b o, b ≠ cenv.locals → b ∉ wr → s.heap.get? b = some o → h₂.get? b = some o := fun b o hbC hbw e => hs₂.extBut b o hbC (hs₂a.extBut b o hbC (old₁ b o (hk₁' b o hbw (hk₁ b o hbw e))))
    have hst₂ : St (i + 1) h₂ := Wa.frame _ _ _ hst₁ fun b hb o e => hs₂.extBut b o (fun h => hCf (h ▸ hb)) (hs₂a.extBut b o (fun h => hCf (h ▸ hb)) (old₁ b o e))
    have va : (fun x => if x = xb then some (Value.int (gs i) t2) else (fun x => if x = xa then some (Value.int (cs i) t1) else m x) x) xa = some (.int (cs i) t1) := by simp [hab]
    have vb : (fun x => if x = xb then some (Value.int (gs i) t2) else (fun x => if x = xa then some (Value.int (cs i) t1) else m x) x) xb = some (.int (gs i) t2) := by simp
    simp only [List.forIn_cons, List.forIn_nil, if_true]
    refine wpAny_bind (wpAny_bind (wpAny_isTrue_value (name_local hk hxb hdb hn₂ vb (truthy_int ?_))))
    refine wpAny_pure (wpAny_pure ⟨?_, fun hpz => ?_, fun hpz => ?_⟩)
    · by_cases h : gs i = 0 <;> simp [h]
    · exact ⟨⟨⟨_, hn₂⟩, hst₂⟩, ⟨h₂, _, rfl, up₂⟩⟩
    · refine wpAny_Tuple ?_
      show wpAny _ _ (spliced [(false, eval (.Name xa p1) cenv), (false, eval (.Name xb p2) cenv)]) _ _ _
      refine Calls.spliced_cons (name_local hk hxa hda hn₂ va ?_)
      refine Calls.spliced_cons (name_local hk hxb hdb hn₂ vb ?_)
      refine Calls.spliced_nil ⟨by rw [sizeLine_eq]; show (2 : Nat) ≤ 16777216; decide, ?_⟩
      have kp : ∀ b o, h₂.get? b = some o → (h₂.push { cls := .type "tuple", data := .seq [Value.int (cs i) t1, Value.int (gs i) t2].toArray }).get? b = some o := fun b o e => Heap.get?_push_of_some _ e
      have hst₃ := Wa.frame _ _ _ hst₂ fun b _ o e => kp b o e
      exact ⟨⟨hl _ _ hst₃, _, t1, t2, _, rfl, Heap.get?_push_size _ rfl⟩, ⟨⟨_, hn₂.push _⟩, hst₃⟩, ⟨_, _, rfl, fun b o h1 h2 e => kp b o (up₂ b o h1 h2 e)⟩⟩
end
section
section
variable {prog : Program} {w : World} {A : Around} {E : Value → Shared → Prop} {s : Shared}
theorem call_zip_rl {r l : Addr} {ys : Array Value} {a b c k : Int} {t u v : Tok} {Q : Value → Shared → Prop} (hr : IsRange s.heap r a b c t u v) (hsm : Builtin.Range.small a b c = true) (hk : Builtin.Range.rangeSize a b c = k) (hl : s.heap.IsList l ys)
    (h : ∀ h', IsZip h' (s.heap.objs.size + 4) (s.heap.objs.size + 2) (s.heap.objs.size + 3) .none → IsPair h' (s.heap.objs.size + 2) (.ref s.heap.objs.size) (.ref (s.heap.objs.size + 1)) →
      IsPair h' (s.heap.objs.size + 3) .none .none → IsRangeIter h' s.heap.objs.size a k c → h'.IsListIter (s.heap.objs.size + 1) l 0 → h'.objs.size = s.heap.objs.size + 5 →
      (∀ c o, s.heap.get? c = some o → h'.get? c = some o) → Q (.ref (s.heap.objs.size + 4)) { s with heap := h' }) :
    wpAny (model prog w) A (call (.type "zip") [.ref r, .ref l]) Q E s := by
  refine callType_new F.called_zip (by decide) (F.typeCall_zip_2 _ _) (F.newCall_zip_2 _ _) (fun obj => F.args_object_init_3 obj _ _) F.entry_zip_new
    (meets_zip_rl r l ys a b c t u v k hsm hk) ⟨hr, hl, ?_⟩
  intro h1 h2 h3 h4 h5 e1 e2 e3 e4 e5
  have z1 : h1.objs.size = s.heap.objs.size + 1 := by rw [e1]; exact Heap.size_push ..
  have z2 : h2.objs.size = s.heap.objs.size + 2 := by rw [e2, Heap.size_push, z1]
  have z3 : h3.objs.size = s.heap.objs.size + 3 := by rw [e3, Heap.size_push, z2]
  have z4 : h4.objs.size = s.heap.objs.size + 4 := by rw [e4, Heap.size_push, z3]
  have z5 : h5.objs.size = s.heap.objs.size + 5 := by rw [e5, Heap.size_push, z4]
  have u1 : ∀ c o, s.heap.get? c = some o → h1.get? c = some o := fun c o e => e1 ▸ Heap.get?_push_of_some _ e
  have u2 : ∀ c o, h1.get? c = some o → h2.get? c = some o := fun c o e => e2 ▸ Heap.get?_push_of_some _ e
  have u3 : ∀ c o, h2.get? c = some o → h3.get? c = some o := fun c o e => e3 ▸ Heap.get?_push_of_some _ e
  have u4 : ∀ c o, h3.get? c = some o → h4.get? c = some o := fun c o e => e4 ▸ Heap.get?_push_of_some _ e
  have u5 : ∀ c o, h4.get? c = some o → h5.get? c = some o := fun c o e => e5 ▸ Heap.get?_push_of_some _ e
  have g1 : h1.get? s.heap.objs.size = some _ := e1 ▸ Heap.get?_push_size _ rfl
  have g2 : h2.get? h1.objs.size = some _ := e2 ▸ Heap.get?_push_size _ rfl
  have g3 : h3.get? h2.objs.size = some _ := e3 ▸ Heap.get?_push_size _ rfl
  have g4 : h4.get? h3.objs.size = some _ := e4 ▸ Heap.get?_push_size _ rfl
  have g5 : h5.get? h4.objs.size = some _ := e5 ▸ Heap.get?_push_size _ rfl
  rw [z1] at g2
  rw [z2, z1] at g3
  rw [z3] at g4
  rw [z4, z2, z3] at g5
  show _ ∧ _
  rw [z4]
  exact ⟨⟨_, g5, rfl⟩, h _ g5 (u5 _ _ (u4 _ _ g3)) (u5 _ _ g4) (u5 _ _ (u4 _ _ (u3 _ _ (u2 _ _ g1)))) ⟨_, u5 _ _ (u4 _ _ (u3 _ _ g2)), rfl, rfl⟩ z5
    fun c o e => u5 _ _ (u4 _ _ (u3 _ _ (u2 _ _ (u1 _ _ e))))⟩
end
section
variable {x : Cx} {A : Around} {own : Own} {env : Env} {n : Nat} {nm gn : List Str}

/-- d.update(generator) -/
theorem call_update {D a : Addr} {es : List (Int × AV)} {s : Shared} {own1 : Own} {R : Value → Shared → Prop} {k : Nat} (hh : A.handled = none) (R1 : Rel x own1 s) (hm : (D, AObj.dictI es) ∈ own1) (hg : ∃ nm qn, s.heap.get? a = some { cls := .type "generator", data := .fields #[.int k 0, nm, qn] })
    (h : ∀ h' tk, (∀ b o, s.heap.get? b = some o → h'.get? b = some o) → codeAny (model x.prog x.w) A (.builtin "dict.update.loop" ⟨[.ref D, .ref a, rawInt 0, .none], []⟩) (fun r s' => match r with | .ok (.ret v) => R v s' | .ok _ => False | .error e => False) { s with heap := h', toks := tk }) :
    wpAny (model x.prog x.w) A (call (.builtin "dict.update") [.ref D, .ref a]) R (fun _ _ => False) s := by
  have HD := R1.has _ hm
  obtain ⟨ns, kvs, ep, ⟨o, es', e, d, _⟩, _⟩ := HD
  have hT : s.TypeIs (.ref D) "dict" := ⟨_, e, d.1⟩
  have hG : s.TypeIs (.ref a) "generator" := let ⟨_, _, e⟩ := hg; ⟨_, e, rfl⟩
  refine wpAny_call (codeAny_call_builtin F.slot_dict_update.plain F.entry_dict_update (F.slot_dict_update.check _ _ _ _ _ _ _ _ hT (F.args_dict_update_2 _ _) ?_))
  unfold Builtin.«dict.update»
  refine wpAny_bind ?_
  unfold Builtin.Dict.selfAndRest
  refine wpAny_bind (wpAny_notOrdered_dict hT ?_)
  show wpAny _ _ (pure (D, [Value.ref a])) _ _ s
  refine wpAny_pure ?_
  show wpAny _ _ (Builtin.Dict.updateFrom "dict.update" D (.ref a) [] .none) _ _ _
  unfold Builtin.Dict.updateFrom
  refine wpAny_bind (wpAny_typeOf hG ?_)
  rw [if_pos (by decide)]
  refine wpAny_bind (keys_none hh hg fun h' tk hk => ?_)
  refine wpAny_bind (wpAny_rule ?_)
  obtain ⟨nm, qn, eg⟩ := hg
  refine wpAny_bind (wpAny_pyIter_gen (g := k) ⟨_, nm, qn, hk _ _ eg, rfl, rfl, rfl⟩ ?_)
  exact wpAny_pure ⟨plainId_quiet plain_updloop _, h h' tk hk⟩
end
end
section
section
variable {x : Cx} {A : Around} {own : Own} {env : Env} {n : Nat} {nm gn : List Str}
/-- d.update(((a, b) for a, b in zip(range, list) if b)) -/
theorem E_updzip (H : Fm n A env nm gn) (B : BiOk x) {c P : Addr} (T : TabOk x c P) (hc : env.code = .ref c) {o e1 e2 : Expr} {zn xa xb : Str} {apos np zp p1 p2 pe pa pb pt pf gp p : Pos} {ke kt : Nat} {scope : Scope} {Q : AV → Own → Prop}
    (hy : zn ∈ gn) (g : Glob x.h₀ zn (.type "zip"))
    (hco : scope.isCoroutine = false) (hclos : closureFor scope env = pure []) (hcell : ∀ y ∈ scope.names, y.2 ≠ .cell) (h0 : scope.names.lookup (".0" : Str) = some NameKind.local) (hkind : scope.kind = .function)
    (hab : xa ≠ xb) (hxa : scope.names.lookup xa = some .local) (hxb : scope.names.lookup xb = some .local) (hda : (xa == ("__debug__" : Str)) = false) (hdb : (xb == ("__debug__" : Str)) = false)
    (h : WV x A (eval o env) own fun oa own1 => ∃ D es, oa = .val (.ref D) ∧ (D, AObj.dictI es) ∈ own1 ∧ WVs x A env [e1, e2] own1 fun as own2 => ∃ (r l : Addr) (a b : Int) (ys : List Int) (own' : Own), as = [.val (.ref r), .val (.ref l)] ∧ (r, AObj.rng a b 1) ∈ x.ro ∧ (l, AObj.list (ys.map .int)) ∈ x.ro ∧
      Builtin.Range.small a b 1 = true ∧ Builtin.Range.rangeSize a b 1 = ((ys.length : Nat) : Int) ∧ (es.length : Int) + ys.length < 10000000 ∧
      Upd D (.dictI es) (.dictI (putAll es (passing (fun i => decide (ys.getD i 0 ≠ 0)) ys.length 0) (fun i => a + (i : Int)) (fun i => ys.getD i 0))) own2 own' ∧ Q (.val .none) own')
    (hs : backTo p (starEach [.GeneratorExp (.Tuple [.Name xa p1, .Name xb p2] ke pe) [⟨.Tuple [.Name xa pa, .Name xb pb] kt pt, .Call (.Name zn np) [e1, e2] [] zp, [.Name xb pf], 0⟩] scope gp] env) = [.GeneratorExp (.Tuple [.Name xa p1, .Name xb p2] ke pe) [⟨.Tuple [.Name xa pa, .Name xb pb] kt pt, .Call (.Name zn np) [e1, e2] [] zp, [.Name xb pf], 0⟩] scope gp].map fun e => (false, eval e env) := by with_unfolding_all rfl)
    (hs2 : backTo zp (starEach [e1, e2] env) = [e1, e2].map fun e => (false, eval e env) := by with_unfolding_all rfl)
    (hgf : ∀ x, genFold (.Call (.Name zn np) [e1, e2] [] zp) env x = pure x := by intro _; with_unfolding_all rfl)
    (h1 : attributeBase o "update" env (eval o env) = eval o env := by with_unfolding_all rfl) (h3 : (apos.endLine == p.line) = true := by with_unfolding_all rfl) :
    WV x A (eval (.Call (.Attribute o "update" apos) [.GeneratorExp (.Tuple [.Name xa p1, .Name xb p2] ke pe) [⟨.Tuple [.Name xa pa, .Name xb pb] kt pt, .Call (.Name zn np) [e1, e2] [] zp, [.Name xb pf], 0⟩] scope gp] [] p) env) own Q := fun s R => by
  have hh := H.hnd
  refine wpAny_Call_method h1 ?_ h3 F.plainAttrs_dict F.slot_dict_update F.type_dict_update (h.run (Step.refl R) fun v s1 own1 S1 k1 ⟨oa, r1, D, es, e, hm, h2⟩ => ?_)
  · rw [hs]; rfl
  subst e
  rw [rep_val r1]
  obtain ⟨ty1, ty2⟩ := AVTy.dictI (.inl hm) s1 v S1.rel r1
  rw [rep_val r1] at ty1 ty2
  refine ⟨ty1, ty2, ?_⟩
  rw [hs]
  refine callWith_of (P := x.K.In) rfl Cle.builtin (evalArgs_of (Calls.spliced_cons ?_))
  refine gen_make H B T hc hco hclos hcell h0 hkind (callName_raw H hy g Cle.type S1.rel ?_ hs2) hgf
  refine WP.mono h2 fun v2 s2 own2 ⟨a2, r2, q2⟩ => ⟨a2, r2, WP.mono q2 fun v3 s3 own3 ⟨a3, r3, r, l, a, b, ys, own', ee, kr, kl, hsm, hsz, hz, u, q⟩ => ⟨a3, r3, ?_⟩⟩
  intro vs s' S' rr
  rw [ee] at rr
  obtain ⟨u1, u2, rfl, r4, r5⟩ := reps2 rr
  rw [rep_val r4, rep_val r5]
  have R' := S'.rel
  obtain ⟨H1, n1, _⟩ := R'.ro _ kr
  obtain ⟨H2, n2, _⟩ := R'.ro _ kl
  obtain ⟨t, uu, vv, hr⟩ := H1
  obtain ⟨us, pl, q4⟩ := H2
  have pl : s'.heap.PlainList l us := pl
  have hl2 := q4.length
  simp at hl2
  refine call_zip_rl hr hsm hsz pl.isList fun h' b1 b2 b3 b4 b5 b6 hk => ?_
  have lt2 : l < s'.heap.objs.size := by obtain ⟨k, e⟩ := pl; exact Heap.lt_size e
  generalize hN : s'.heap.objs.size = N at b1 b2 b3 b4 b5 b6 lt2
  have lt2' : @LT.lt Nat _ l N := lt2
  have fresh : ∀ a, N ≤ a → s'.heap.get? a = none := fun a ha => by
    cases e : s'.heap.get? a with
    | none => rfl
    | some o => have := Heap.lt_size e; rw [hN] at this; exact absurd this (Nat.not_lt.mpr ha)
  refine wpAny_pyIter_zip (s := { s' with heap := h' }) b1 ?_
  have S2 : Step (wb x (N + 3)) own s own3 { s' with heap := h', toks := s'.toks } := bad_in (S1.trans S') (fresh _ (by omega)) hk ⟨_, b3⟩
  refine ⟨wb x (N + 3), rfl, rfl, rfl, rfl, rfl, own3, S2.rel, ?_⟩
  intro code h5 tk5 C ga eC ea hCa k5 nC gG S5
  have S6 := S2.trans S5
  refine Calls.spliced_nil ⟨S6.rel.kin, ?_⟩
  have mD : (D, AObj.dictI es) ∈ own3 := u.mem
  refine call_update (x := wb x (N + 3)) hh S6.rel mD gG fun h7 tk7 k7 => ?_
  have S8 : Step (wb x (N + 3)) own s own3 _ := S6.trans (Step.grow (tk := tk7) S6.rel k7)
  have hus : us.size = ys.length := by omega
  have noown : ∀ b, N ≤ b → b ∉ addrs own3 := fun b hb hm => by
    obtain ⟨q, hq, e⟩ := List.mem_map.mp hm
    obtain ⟨o, eo⟩ := (R'.has q hq).there
    have e : q.1 = b := e
    rw [e, fresh b hb] at eo; cases eo
  have none0 : ∀ b, s'.heap.get? b = none → s.heap.get? b = none ∧ x.h₀.get? b = none ∧ (∀ p ∈ x.ro, p.1 ≠ b) ∧ b ∉ addrs own3 := fun b hb => by
    refine ⟨?_, ?_, fun q hq e => ?_, fun hm => ?_⟩
    · cases e : s.heap.get? b with
      | none => rfl
      | some o => obtain ⟨o', e'⟩ := (S1.trans S').there _ _ e; rw [hb] at e'; cases e'
    · cases e : x.h₀.get? b with
      | none => rfl
      | some o => obtain ⟨o', e'⟩ := R'.old.there _ _ e; rw [hb] at e'; cases e'
    · obtain ⟨_, _, o, eo, _⟩ := R'.ro q hq
      rw [e, hb] at eo; cases eo
    · obtain ⟨q, hq, e⟩ := List.mem_map.mp hm
      obtain ⟨o, eo⟩ := (R'.has q hq).there
      have e : q.1 = b := e
      rw [e, hb] at eo; cases eo
  have none2 : ∀ b, h'.get? b = none → s'.heap.get? b = none := fun b hb => by
    cases e : s'.heap.get? b with
    | none => rfl
    | some o => rw [hk _ _ e] at hb; cases hb
  have Z : Zp (N + 4) (N + 2) (N + 3) [N, N + 1] [[N], [N + 1, l]] := by
    refine ⟨ne_a (by omega), ne_a (by omega), ne_a (by omega), ?_, ?_⟩
    · intro i hi
      simp at hi
      rcases hi with rfl | rfl <;> exact ⟨ne_a (by omega), ne_a (by omega), ne_a (by omega)⟩
    · intro f hf
      simp at hf
      rcases hf with rfl | rfl
      · simp only [List.mem_cons, List.not_mem_nil, or_false]
        exact ⟨ne_a (by omega), ne_a (by omega), ne_a (by omega)⟩
      · simp only [List.mem_cons, List.not_mem_nil, or_false, not_or]
        exact ⟨⟨ne_a (by omega), Nat.ne_of_gt (by omega)⟩, ⟨ne_a (by omega), Nat.ne_of_gt (by omega)⟩, ⟨ne_a (by omega), Nat.ne_of_gt (by omega)⟩⟩
  have D1 : ∀ A' : Around, A'.handled = none → _ := fun A' hA' => Draws.range (prog := x.prog) (w := x.w) (A := A'.in1) hA' N a 1 ys.length
  have D2 : ∀ A' : Around, A'.handled = none → _ := fun A' hA' => Draws.list (prog := x.prog) (w := x.w) (A := A'.in1) hA' (N + 1) l (Nat.ne_of_lt (Nat.lt_succ_of_lt lt2)) us
  rw [hus] at D2
  have W := fun (A' : Around) (hA' : A'.handled = none) => zip2_walks (w := x.w) (prog := x.prog) hA' (D1 A' hA') (D2 A' hA') Z (by simp only [List.mem_cons, List.not_mem_nil, or_false, not_or]; exact ⟨ne_a (by omega), Nat.ne_of_gt lt2⟩) (by simp only [List.mem_cons, List.not_mem_nil, or_false]; exact ne_a (by omega)) (by simp) (by simp)
  have lN : ∀ b, b = l ∨ N ≤ b → b ∉ addrs own3 := fun b hb => by
    rcases hb with rfl | hb
    · exact n2
    · exact noown b hb
  have fpo : ∀ b ∈ ((N + 4) :: (N + 2) :: (N + 3) :: ([N] ++ [N + 1, l]) : List Addr), b = l ∨ @LE.le Nat _ N b := fun b hb => by
    simp at hb
    rcases hb with rfl | rfl | rfl | rfl | rfl | rfl
    all_goals first | exact .inl rfl | exact .inr (by omega)
  have hCl : ∀ {o}, h'.get? C = some o → False := fun e => by rw [eC] at e; cases e
  have hAl : ∀ {o}, h'.get? ga = some o → False := fun e => by rw [ea] at e; cases e
  have liveP : ∀ b ∈ ((N + 4) :: (N + 2) :: (N + 3) :: ([N] ++ [N + 1, l]) : List Addr), ∃ o, h'.get? b = some o ∧ o.cls ≠ .none := fun b hb => by
    simp at hb
    rcases hb with rfl | rfl | rfl | rfl | rfl | rfl
    · exact ⟨_, b1, by simp⟩
    · exact ⟨_, b2, by simp⟩
    · exact ⟨_, b3, by simp⟩
    · exact ⟨_, b4, by simp⟩
    · obtain ⟨o, e, c, _⟩ := b5; exact ⟨o, e, by rw [c]; simp⟩
    · obtain ⟨k, e⟩ := pl; exact ⟨_, hk _ _ e, by simp⟩
  have keep5 : ∀ b ∈ ((N + 4) :: (N + 2) :: (N + 3) :: ([N] ++ [N + 1, l]) : List Addr), ∀ o, h'.get? b = some o → h5.get? b = some o := fun b hb o e => by
    obtain ⟨o', e', c'⟩ := liveP b hb
    rw [e] at e'; cases e'
    exact S5.ext b o e c' (lN b (fpo b hb))
  have st0 : Z2 (N + 4) (N + 2) (N + 3) N (N + 1) (fun i h => IsRangeIter h N (a + (i : Nat) * 1) (((ys.length : Nat) : Int) - (i : Nat)) 1) (fun i h => h.IsListIter (N + 1) l i ∧ h.IsList l us) 0 h' :=
    ⟨b1, b2, ⟨_, _, b3⟩, (by simpa using b4), b5, (pl.at fun o e => hk _ _ e).isList⟩
  have CF : C ∉ ((N + 4) :: (N + 2) :: (N + 3) :: ([N] ++ [N + 1, l]) : List Addr) := fun hm => by
    obtain ⟨o, e, _⟩ := liveP C hm; exact hCl e
  have GF : ga ∉ ((N + 4) :: (N + 2) :: (N + 3) :: ([N] ++ [N + 1, l]) : List Addr) := fun hm => by
    obtain ⟨o, e, _⟩ := liveP ga hm; exact hAl e
  have LIV : ∀ i h, Z2 (N + 4) (N + 2) (N + 3) N (N + 1) (fun i h => IsRangeIter h N (a + (i : Nat) * 1) (((ys.length : Nat) : Int) - (i : Nat)) 1) (fun i h => h.IsListIter (N + 1) l i ∧ h.IsList l us) i h → Lf (wb x (N + 3)).bad ((N + 4) :: (N + 2) :: (N + 3) :: ([N] ++ [N + 1, l])) [N + 4, N + 3, N, N + 1] h :=
    fun i h ⟨z1, z2, ⟨za, zb, z3⟩, z4, z6, z7⟩ b hb => by
      simp at hb
      rcases hb with rfl | rfl | rfl | rfl | rfl | rfl
      · exact ⟨_, z1, by simp, fun _ _ => by simp⟩
      · refine ⟨_, z2, by simp, fun hm => ?_⟩
        simp only [List.mem_cons, List.not_mem_nil, or_false] at hm
        rcases hm with h | h | h | h <;> exact absurd h (ne_a (by omega))
      · exact ⟨_, z3, by simp, fun _ hn => absurd (List.mem_cons_self ..) hn⟩
      · exact ⟨_, z4, by simp, fun _ _ => by simp⟩
      · obtain ⟨o, e, c, _⟩ := z6; exact ⟨o, e, by rw [c]; simp, fun _ _ => by rw [c]; simp⟩
      · obtain ⟨o, e, c, _⟩ := z7; exact ⟨o, e, by rw [c]; simp, fun _ _ => by rw [c]; simp⟩
  have TT := turn_zip (prog := x.prog) (w := x.w) (cenv := genEnv scope [] C code builtinsNs env) (xa := xa) (xb := xb) (pa := pa) (pb := pb) (pt := pt) (pf := pf) (p1 := p1) (p2 := p2) (pe := pe) (kt := kt) (ke := ke) (I := N + 4) (bd := (wb x (N + 3)).bad) (cs := fun i => a + (i : Int)) (gs := fun i => ys.getD i 0) (A₀ := A) hh W
    (fun i vals hi ⟨va, vb, ⟨ta, ha⟩, hb, ev⟩ => by
      obtain ⟨b, eb, rb⟩ := q4.at (i := i) (v := vb) (by rw [← Array.getElem?_toList] at hb; exact hb)
      rw [List.getElem?_map] at eb
      cases ey : ys[i]? with
      | none => rw [ey] at eb; cases eb
      | some k =>
        rw [ey] at eb; cases eb
        obtain ⟨tb, rfl⟩ := rep_int rb
        refine ⟨ta, tb, ?_⟩
        rw [ev, ha, List.getD_eq_getElem?_getD, ey, Int.mul_one]; rfl)
    LIV
    (fun A' s2 hA' ⟨z1, z2, ⟨za, zb, z3⟩, z4, z6⟩ => by
      refine pyNext_end1 (rest := [.ref (N + 1)]) hA' (D1 A' hA') (ne_a (by omega)) (by simp only [List.mem_cons, List.not_mem_nil, or_false]; exact ne_a (by omega)) z1 z2 z4 fun h4 hk4 => ⟨rfl, h4, s2.toks, rfl, fun c o hc e => hk4 c o (fun q => hc (by simp [q])) (fun q => hc (by simp [q])) e, fun c hc hcb => ?_⟩
      have hcb : c ∈ (N + 3) :: x.bad := hcb
      have hNb : N ≤ c := by simp at hc; rcases hc with rfl | rfl | rfl | rfl <;> omega
      rcases List.mem_cons.mp hcb with rfl | hcb
      · exact ⟨_, hk4 _ _ (ne_a (by omega)) (ne_a (by omega)) z3⟩
      · obtain ⟨o, e⟩ := R'.bd c hcb
        rw [fresh c hNb] at e; cases e)
    hab hxa hxb hda hdb hkind CF
  have stC : Z2 (N + 4) (N + 2) (N + 3) N (N + 1) (fun i h => IsRangeIter h N (a + (i : Nat) * 1) (((ys.length : Nat) : Int) - (i : Nat)) 1) (fun i h => h.IsListIter (N + 1) l i ∧ h.IsList l us) 0 h5 := (W A hh).frame _ _ _ st0 keep5
  have GG := GenAtH.fresh (A := A.in1) hh TT hco (s := { s' with heap := h5, gens := s'.gens.push (.fresh (.compStart (.GeneratorExp (.Tuple [.Name xa p1, .Name xb p2] ke pe) [⟨.Tuple [.Name xa pa, .Name xb pb] kt pt, .Call (.Name zn np) [e1, e2] [] zp, [.Name xb pf], 0⟩] scope gp) 0 (.ref (N + 4)) .none (genEnv scope [] C code builtinsNs env))), toks := tk5 }) (a := ga) (g := s'.gens.size)
    (let ⟨nm, qn, e⟩ := gG; ⟨_, nm, qn, e, rfl, rfl, rfl⟩) (Array.getElem?_push_size ..) ⟨⟨_, nC⟩, stC⟩
  have G8 := GG.frame (tk := tk7) fun b hb o e => k7 b o e
  have sC := none0 C (none2 C eC)
  have sA := none0 ga (none2 ga ea)
  have hpl : (passing (fun i => decide (ys.getD i 0 ≠ 0)) ys.length 0).length ≤ ys.length := by
    unfold passing
    refine Nat.le_trans (List.length_filter_le ..) ?_
    simp
  have wrN : ∀ b ∈ ([N + 4, N + 3, N, N + 1] : List Addr), @LE.le Nat _ N b := fun b hb => by simp at hb; rcases hb with rfl | rfl | rfl | rfl <;> omega
  refine codeAny_mono (upd_loop (x := wb x (N + 3)) (C := C) (own := own3) (own' := own') hh (by have := H.dep; omega) hCa.symm (fun hm => GF ((W A hh).sub _ hm)) (fun b hb => (W A hh).sub b hb) CF GF (by omega) (fun b hb => ?_) u R'.nodup (R := fun r s' => match r with | .ok (.ret v) => ∃ own', Step x own s own' s' ∧ ∃ av, Rep x.bad s'.heap av v ∧ Q av own' | .ok _ => False | .error e => False) (fun s9 S9 => ⟨own', bad_step S9, _, rep_mk_val, q⟩) _ 0 _ own3 rfl (Nat.zero_le _) S8 (Upd.self mD) ?_ ⟨_, nC.keeps k7⟩ (fun b hb => ?_) G8 0 _) fun r s9 hr => hr
  · rcases List.mem_cons.mp hb with rfl | hb
    · exact ⟨sC.1, sC.2.1, sC.2.2.1⟩
    · have := none0 b (fresh b (wrN b hb)); exact ⟨this.1, this.2.1, this.2.2.1⟩
  · exact (LIV _ _ stC).keep fun b hb o e => k7 b o e
  · rcases List.mem_cons.mp hb with rfl | hb
    · exact sA.2.2.2
    · rcases List.mem_cons.mp hb with rfl | hb
      · exact sC.2.2.2
      · exact lN b (fpo b hb)
end
end
section
section
variable {prog : Program} {w : World} {A : Around} {E : Value → Shared → Prop} {hp : Heap} {g : Array GenState} {dr : Drawn} {tk : Nat} {os : OsState}
set_option maxHeartbeats 4000000 in
theorem itemsH_body {it d : Addr} {i ep : Nat} {od : Obj} {ds : Array DictEntry} {ok ov : Value} {Q : PySem.Fin → Shared → Prop} (hit : IsItemIter hp it d i ds.size ep ok ov) (hod : hp.get? d = some od) (hdd : od.data = .dict ds ep) (hlt : i < ds.size)
    (hQ : ∀ h', IsItemIterOut h' it d (i + 1) ds.size ep ds[i].key ds[i].val hp.objs.size → h'.get? hp.objs.size = some { cls := .type "tuple", data := .seq #[ds[i].key, ds[i].val] } → (∀ b o, b ≠ it → hp.get? b = some o → h'.get? b = some o) → Q (.done (.ret (.ref hp.objs.size))) ⟨h', g, dr, tk, os⟩) :
    wpAny (model prog w) A (Builtin.«dict_itemiterator.__next__» ⟨[.ref it], []⟩) Q E ⟨hp, g, dr, tk, os⟩ := by
  obtain ⟨c, dd, da, ss⟩ := od
  dsimp only at hdd
  subst hdd
  have hT : Shared.TypeIs ⟨hp, g, dr, tk, os⟩ (.ref it) "dict_itemiterator" := ⟨_, hit, rfl⟩
  have hown : Builtin.Dict_items.ownsTuple "dict_itemiterator" = true := by decide
  unfold Builtin.«dict_itemiterator.__next__»
  repeat (any_goals (first | wp_step | assumption))
  have e1 : (if (i : Int) < 0 then none else ds[(i : Int).toNat]?) = some ds[i] := by rw [if_neg (by omega)]; simp [hlt]
  rw [e1]
  dsimp only
  wp_step
  refine wpAny_mono (E := E) (Q := fun a s' => a = 2 ∧ s' = ⟨hp, g, dr, tk, os⟩) ?_ (fun a s' h => ?_) ?_
  · repeat (any_goals (first | wp_step | assumption))
    exact ⟨by decide +kernel, rfl⟩
  rotate_left
  · exact fun _ _ h => h
  obtain ⟨rfl, rfl⟩ := h
  wp_step
  refine wpAny_mono (E := E) (Q := fun a s' => a = false ∧ s' = ⟨hp, g, dr, tk, os⟩) ?_ (fun a s' h => ?_) ?_
  · repeat (any_goals (first | wp_step | assumption))
    exact ⟨by decide +kernel, rfl⟩
  rotate_left
  · exact fun _ _ h => h
  obtain ⟨rfl, rfl⟩ := h
  simp only [Bool.false_eq_true, if_false]
  refine wpAny_bind (wpAny_setField_rec hit (by simp) fun h₁ he₁ hs₁ => ?_)
  replace hs₁ : Heap.SameBut it hp h₁ := hs₁
  replace he₁ : IsItemIter h₁ it d (i + 1) ds.size ep ok ov := by
    unfold IsItemIter
    rw [show ((i + 1 : Nat) : Int) = (i : Int) + 1 by omega]
    simpa [rawInt] using he₁
  have hT₁ : Shared.TypeIs ⟨h₁, g, dr, tk, os⟩ (.ref it) "dict_itemiterator" := ⟨_, he₁, rfl⟩
  clear hT hit
  
  repeat (any_goals (first | wp_step | assumption))
  have z : h₁.objs.size = hp.objs.size := hs₁.1
  have il : it < h₁.objs.size := Heap.lt_size he₁
  rw [z] at il ⊢
  have a1 : (h₁.push { cls := .type "tuple", data := .seq #[ds[i].key, ds[i].val] }).get? it = some _ := Heap.get?_push_of_some _ he₁
  have a2 := Heap.get?_update_self (fun o => Obj.mapFields (fun x => x.setIfInBounds 6 ds[i].key) o) a1 rfl
  have a3 := Heap.get?_update_self (fun o => Obj.mapFields (fun x => x.setIfInBounds (6 + 1) ds[i].val) o) a2 rfl
  have a4 := Heap.get?_update_self (fun o => Obj.mapFields (fun x => x.setIfInBounds 0 (rawInt (hp.objs.size : Nat))) o) a3 rfl
  have a5 := Heap.get?_update_self (fun o => Obj.mapFields (fun x => x.setIfInBounds 1 (Value.bool false)) o) a4 rfl
  have k5 : ∀ b o, b ≠ it → (h₁.push { cls := .type "tuple", data := .seq #[ds[i].key, ds[i].val] }).get? b = some o → (((((h₁.push { cls := .type "tuple", data := .seq #[ds[i].key, ds[i].val] }).update it (fun o => Obj.mapFields (fun x => x.setIfInBounds 6 ds[i].key) o)).update it (fun o => Obj.mapFields (fun x => x.setIfInBounds (6 + 1) ds[i].val) o)).update it (fun o => Obj.mapFields (fun x => x.setIfInBounds 0 (rawInt (hp.objs.size : Nat))) o)).update it (fun o => Obj.mapFields (fun x => x.setIfInBounds 1 (Value.bool false)) o)).get? b = some o := fun b o hb e =>
    (Heap.SameBut.update ..).extBut b o hb ((Heap.SameBut.update ..).extBut b o hb ((Heap.SameBut.update ..).extBut b o hb ((Heap.SameBut.update ..).extBut b o hb e)))
  refine hQ _ a5 (k5 _ _ (Nat.ne_of_gt il) ?_) fun b o hb e => k5 b o hb (Heap.get?_push_of_some _ (hs₁.extBut b o hb e))
  rw [← z]; exact Heap.get?_push_size _ rfl
end
end
section
section
variable {prog : Program} {w : World} {A : Around} {E : Value → Shared → Prop}
theorem itemsH_item {s : Shared} {it d : Addr} {i ep : Nat} {od : Obj} {ds : Array DictEntry} {ok ov : Value} {Q : Option Value → Shared → Prop} (hit : IsItemIter s.heap it d i ds.size ep ok ov) (hod : s.heap.get? d = some od) (hdd : od.data = .dict ds ep) (hlt : i < ds.size)
    (hQ : ∀ h', IsItemIterOut h' it d (i + 1) ds.size ep ds[i].key ds[i].val s.heap.objs.size → h'.get? s.heap.objs.size = some { cls := .type "tuple", data := .seq #[ds[i].key, ds[i].val] } → (∀ b o, b ≠ it → s.heap.get? b = some o → h'.get? b = some o) → Q (some (.ref s.heap.objs.size)) { s with heap := h' }) :
    wpAny (model prog w) A (pyNext (.ref it)) Q E s := by
  have hT : s.TypeIs (.ref it) "dict_itemiterator" := ⟨_, hit, rfl⟩
  unfold pyNext
  refine wpAny_bind (wpAny_attempt (wpAny_callSpecial?_slot (name := Str.ofString "__next__") hT F.slot_dict_itemiterator_next
    (wpAny_call_entry F.slot_dict_itemiterator_next hT F.entry_dict_itemiterator_next (itemsH_body hit hod hdd hlt fun h' a b c => ⟨_, rfl, ?_⟩) (F.args_dict_itemiterator_next_1 _))))
  exact wpAny_pure (hQ h' a b c)
theorem itemsH_endbody {hp : Heap} {g : Array GenState} {dr : Drawn} {tk : Nat} {os : OsState} {it d : Addr} {i ep : Nat} {od : Obj} {ds : Array DictEntry} {ok ov : Value} {Q : PySem.Fin → Shared → Prop} (hh : A.handled = none) (hit : IsItemIter hp it d i ds.size ep ok ov) (hod : hp.get? d = some od) (hdd : od.data = .dict ds ep) (hlt : ds.size ≤ i)
    (hQ : ∀ h' tk e, (∀ b o, b ≠ it → hp.get? b = some o → h'.get? b = some o) → (∃ o, h'.get? e = some o ∧ o.cls = .type "StopIteration") → E (.ref e) ⟨h', g, dr, tk, os⟩) :
    wpAny (model prog w) A (Builtin.«dict_itemiterator.__next__» ⟨[.ref it], []⟩) Q E ⟨hp, g, dr, tk, os⟩ := by
  obtain ⟨c, dd, da, ss⟩ := od
  dsimp only at hdd
  subst hdd
  have hT : Shared.TypeIs ⟨hp, g, dr, tk, os⟩ (.ref it) "dict_itemiterator" := ⟨_, hit, rfl⟩
  have hown : Builtin.Dict_items.ownsTuple "dict_itemiterator" = true := by decide
  unfold Builtin.«dict_itemiterator.__next__»
  repeat (any_goals (first | wp_step | assumption))
  have e1 : (if (i : Int) < 0 then none else ds[(i : Int).toNat]?) = none := by rw [if_neg (by omega)]; simp [hlt]
  rw [e1]
  dsimp only
  wp_step
  refine wpAny_mono (E := E) (Q := fun a s' => a = 2 ∧ s' = ⟨hp, g, dr, tk, os⟩) ?_ (fun a s' h => ?_) ?_
  · repeat (any_goals (first | wp_step | assumption))
    exact ⟨by decide +kernel, rfl⟩
  rotate_left
  · exact fun _ _ h => h
  obtain ⟨rfl, rfl⟩ := h
  refine wpAny_bind (wpAny_setField hit rfl (by simp) ?_)
  refine wpAny_bind ?_
  simp only [newExc, newTuple]
  refine wpAny_bind (wpAny_newObj_type ?_ (by size_fits))
  refine wpAny_bind (m := firstArgMember _ _) (wpAny_of_eq (a := Value.none) (by first | rfl | (simp only [firstArgMember]; rfl)) ?_)
  refine wpAny_newObj_type ?_ (by size_fits)
  simp only [raiseNew]
  refine wpAny_bind (wpAny_handled ?_)
  rw [hh]
  refine wpAny_throw (hQ _ _ _ (((Heap.SameBut.update ..).extBut.push _).push _) ⟨_, Heap.get?_push_size _ rfl, rfl⟩)
theorem itemsH_end {s : Shared} {it d : Addr} {i ep : Nat} {od : Obj} {ds : Array DictEntry} {ok ov : Value} {Q : Option Value → Shared → Prop} (hh : A.handled = none) (hit : IsItemIter s.heap it d i ds.size ep ok ov) (hod : s.heap.get? d = some od) (hdd : od.data = .dict ds ep) (hlt : ds.size ≤ i)
    (hQ : ∀ h' tk, (∀ b o, b ≠ it → s.heap.get? b = some o → h'.get? b = some o) → Q none { s with heap := h', toks := tk }) :
    wpAny (model prog w) A (pyNext (.ref it)) Q E s := by
  have hT : s.TypeIs (.ref it) "dict_itemiterator" := ⟨_, hit, rfl⟩
  unfold pyNext
  refine wpAny_bind (wpAny_attempt (wpAny_callSpecial?_slot (name := Str.ofString "__next__") hT F.slot_dict_itemiterator_next
    (wpAny_call_entry F.slot_dict_itemiterator_next hT F.entry_dict_itemiterator_next (itemsH_endbody (A := A.in1) hh hit hod hdd hlt fun h' tk e k ⟨o, eo, ec⟩ => ?_) (F.args_dict_itemiterator_next_1 _))))
  refine wpAny_bind (wpAny_isInstance (T := "StopIteration") (b := true) ⟨o, eo, ec⟩ isSubtype_stop ?_)
  exact wpAny_pure (hQ h' tk k)
theorem itemsH_iter {s : Shared} {v d : Addr} {ep : Nat} {od : Obj} {ds : Array DictEntry} {Q : Value → Shared → Prop} (hv : s.heap.IsItemsView v d) (hod : s.heap.get? d = some od) (hdd : od.data = .dict ds ep)
    (hQ : Q (.ref s.heap.objs.size) { s with heap := s.heap.push { cls := .type "dict_itemiterator", data := .fields #[.none, .bool false, .ref d, .int 0 0, .int ds.size 0, .int ep 0, .none, .none] } }) :
    wpAny (model prog w) A (pyIter (.ref v)) Q E s := by
  obtain ⟨ov, hov, hcv, hdv⟩ := id hv
  refine wpAny_pyIter_slot hv.typeIs F.slot_dict_items_iter (wpAny_call_entry F.slot_dict_items_iter hv.typeIs F.entry_dict_items_iter ?_ (F.args_dict_items_iter_1 _))
  unfold Builtin.«dict_items.__iter__»
  refine wpAny_bind (wpAny_pure ?_)
  refine wpAny_bind ?_
  unfold Builtin.Dict_items.dictOf
  refine wpAny_bind (wpAny_field hov hdv (x := .ref d) rfl (wpAny_pure ?_))
  refine wpAny_bind ?_
  unfold Builtin.Dict_items.newIterator
  refine wpAny_bind (wpAny_dictEntries hod hdd ?_)
  refine wpAny_bind (wpAny_dictEpoch hod hdd ?_)
  have hown : Builtin.Dict_items.ownsTuple "dict_itemiterator" = true := by decide
  simp only [hown, if_true]
  refine wpAny_newObj_type (wpAny_pure ⟨_, rfl, "dict_itemiterator", _, ⟨_, Heap.get?_push_size _ rfl, rfl⟩, F.slot_dict_itemiterator_next.lookup, ?_⟩)
    (by simp only [sizeOk, Builtin.Dict_items.ownedTupleFields, List.size_toArray, List.length_append, List.length_cons, List.length_nil, sizeLine_eq]; omega)
  simpa [rawInt, Builtin.Dict_items.ownedTupleFields] using hQ
end
end
section
/-- an item that is a tuple of numbers -/
def FTup (bad : List Addr) (fp wr : List Addr) (f : Nat → List Int) (i : Nat) (y : Value) (h : Heap) : Prop := Lf bad fp wr h ∧ ∃ T vs n, y = .ref T ∧ T ∉ bad ∧ h.get? T = some { cls := .type "tuple", data := .seq vs n } ∧ Reps bad h ((f i).map .int) vs.toList
section
variable {x : Cx} {A : Around} {own₀ own : Own} {a C S : Addr} {g n₀ : Nat} {fp wr : List Addr} {pz : Nat → Bool} {f : Nat → List Int} {Y : Heap → Prop}
theorem ext_loop (hYo : ∀ h, (∀ p ∈ own, Has x.prog x.w x.bad h p.1 p.2) → Y h) (hh : A.handled = none) (hroom : A.depth < recursionLimit) (haC : a ≠ C) (haw : a ∉ wr) (hsub : ∀ b ∈ wr, b ∈ fp) (hCf : C ∉ fp) (haf : a ∉ fp) {s₀ : Shared} (hz : ((passing pz n₀ 0).length : Int) < 10000000)
    (hWR : ∀ b ∈ C :: wr, s₀.heap.get? b = none ∧ x.h₀.get? b = none ∧ (∀ p ∈ x.ro, p.1 ≠ b)) {res : Value} {R : Result → Shared → Prop}
    (hq : ∀ s', Step x own₀ s₀ ((S, .list ((passing pz n₀ 0).map fun i => .tup ((f i).map .int))) :: own) s' → R (.ok (.ret res)) s') :
    ∀ (k j : Nat) (s : Shared), (passing pz n₀ 0).length - j = k → j ≤ (passing pz n₀ 0).length → Step x own₀ s₀ ((S, .list (((passing pz n₀ 0).take j).map fun i => .tup ((f i).map .int))) :: own) s →
      Lf x.bad fp wr s.heap → (∃ m, s.heap.Ns C m) → (∀ b ∈ a :: C :: fp, b ∉ S :: addrs own) → GenAtH x.prog x.w A.in1 a g C Y fp wr x.bad pz n₀ (FTup x.bad fp wr f) j s →
      codeAny (model x.prog x.w) A (.builtin "list.extend.loop" ⟨[.ref S, .ref a, res], []⟩) R s := by
  intro k
  induction k with
  | zero =>
    intro j s hk hj St L hC hF G
    have ej : j = (passing pz n₀ 0).length := by omega
    subst ej
    refine codeAny_builtin F.entry_extend_loop ?_
    rw [Around.under_plainId F.plain_extend_loop _]
    show wpAny _ A.in1 (pyNext (.ref a) >>= _) _ _ s
    refine wpAny_bind (wpAny_mono (G.done hh St.rel.lim hC (hYo _ fun p hp => St.rel.has p (.tail _ hp)) hroom) (fun r s' ⟨er, h', tk, gn, es', hk', hex, hg'⟩ => ?_) fun _ _ f => f.elim)
    subst er es'
    rw [List.take_length] at St
    refine wpAny_pure (hq _ (St.sideG (WR := C :: wr) (fun b o hb e => hk' b o hb e) (fun b hb => ⟨hF b (by rcases List.mem_cons.mp hb with rfl | hb; simp; exact .tail _ (.tail _ (hsub b hb))), (hWR b hb).1, fun nb vs n e => ?_, (hWR b hb).2⟩) (fun b hb => ?_) (hg'.bare St.rel.gens)))
    · rcases List.mem_cons.mp hb with rfl | hb
      · obtain ⟨m, o, es, ep, e', d, _⟩ := hC
        rw [e] at e'; cases e'; cases d
      · obtain ⟨o, e', _, c⟩ := L b (hsub b hb)
        rw [e] at e'; cases e'; exact c hb nb rfl
    · by_cases hm : b ∈ C :: wr
      · exact hex b hm hb
      · obtain ⟨o, e⟩ := St.rel.bd b hb
        exact ⟨o, hk' b o hm e⟩
  | succ k ih =>
    intro j s hk hj St L hC hF G
    have hlt : j < (passing pz n₀ 0).length := by omega
    refine codeAny_builtin F.entry_extend_loop ?_
    rw [Around.under_plainId F.plain_extend_loop _]
    show wpAny _ A.in1 (pyNext (.ref a) >>= _) _ _ s
    refine wpAny_bind (wpAny_mono (G.item hh St.rel.lim hC (hYo _ fun p hp => St.rel.has p (.tail _ hp)) haC haw hroom hlt) (fun r s' ⟨v, ii, er, ei, ⟨L', T, vs, nT, ev, nb, eT, rT⟩, hC', _, G', h', tk, gn, es', hk', hg'⟩ => ?_) fun _ _ f => f.elim)
    subst er es' ev
    have S1 := St.sideG (tk := tk) (gn := gn) (WR := C :: wr) (fun b o hb e => hk' b o hb e) (fun b hb => ⟨hF b (by rcases List.mem_cons.mp hb with rfl | hb; simp; exact .tail _ (.tail _ (hsub b hb))), (hWR b hb).1, fun nb vs n e => by
        rcases List.mem_cons.mp hb with rfl | hb
        · obtain ⟨m, o, es, ep, e', d, _⟩ := hC
          rw [e] at e'; cases e'; cases d
        · obtain ⟨o, e', _, c⟩ := L b (hsub b hb)
          rw [e] at e'; cases e'; exact c hb nb rfl, (hWR b hb).2⟩) (fun b hb => by
        by_cases hm : b ∈ C :: wr
        · rcases List.mem_cons.mp hm with rfl | hm
          · obtain ⟨m, o, es, ep, e', _⟩ := hC'; exact ⟨o, e'⟩
          · obtain ⟨o, e', _⟩ := L' b (hsub b hm); exact ⟨o, e'⟩
        · obtain ⟨o, e⟩ := St.rel.bd b hb
          exact ⟨o, hk' b o hm e⟩) (hg'.bare St.rel.gens)
    have R1 := S1.rel
    obtain ⟨ws, ⟨cn, eS⟩, rs⟩ := R1.has _ (.head _)
    have hl := rs.length
    rw [List.length_map, List.length_take] at hl
    have hws : ws.size = j := by rw [← Array.length_toList]; omega
    have et : (passing pz n₀ 0).take (j + 1) = (passing pz n₀ 0).take j ++ [ii] := by
      rw [List.take_add_one, ei]; rfl
    show wpAny _ A.in1 (updateSeq S (·.push (.ref T)) >>= _) _ _ _
    refine wpAny_bind ?_
    refine wpAny_updateSeq eS rfl ?_ (by rw [hws, sizeLine_eq]; omega) (by show (ws.push _).size ≤ sizeLine + 1; rw [Array.size_push, hws, sizeLine_eq]; omega)
    have eS2 := Heap.get?_update_self (Obj.mapSeq (·.push (Value.ref T))) eS rfl
    have oth : ∀ b o, b ≠ S → h'.get? b = some o → (h'.update S (Obj.mapSeq (·.push (Value.ref T)))).get? b = some o := fun b o hb e => (Heap.get?_update_other _ _ (Ne.symm hb)).trans e
    have tkp : TupKeep x.bad h' (h'.update S (Obj.mapSeq (·.push (Value.ref T)))) := fun b us m _ e => oth b _ (fun eb => by subst eb; rw [e] at eS; simp at eS) e
    have S2 := S1.trans (Step.upd (tk := tk) (h' := h'.update S (Obj.mapSeq (·.push (Value.ref T)))) (o' := .list (((passing pz n₀ 0).take (j + 1)).map fun i => .tup ((f i).map .int))) R1 .z (fun b o hb e => oth b o hb e) (by
      refine ⟨ws.push (.ref T), ⟨_, eS2⟩, ?_⟩
      rw [et, List.map_append, Array.toList_push]
      exact (Reps.mono tkp _ _ rs).append (Reps.cons (by simp only [Rep]; exact ⟨T, vs, nT, rfl, nb, tkp _ _ _ nb eT, Reps.mono tkp _ _ rT⟩) .nil)))
    have kfp : ∀ b ∈ a :: fp, ∀ o, h'.get? b = some o → (h'.update S (Obj.mapSeq (·.push (Value.ref T)))).get? b = some o := fun b hb o e => oth b o (fun eb => by
      refine hF b ?_ (eb ▸ .head _)
      rcases List.mem_cons.mp hb with rfl | hb
      · simp
      · exact .tail _ (.tail _ hb)) e
    refine wpAny_pure ⟨plainId_quiet F.plain_extend_loop _, ih (j + 1) _ (by omega) hlt S2 (L'.keep fun b hb o e => kfp b (.tail _ hb) o e) ?_ hF (G'.frame (tk := tk) kfp)⟩
    obtain ⟨m, e⟩ := hC'
    exact ⟨m, e.at' fun o e => oth C o (fun eb => hF C (by simp) (eb ▸ .head _)) e⟩
end
end
section
section
variable {x : Cx} {A : Around} {own₀ own : Own} {a C : Addr} {g n₀ : Nat} {fp wr : List Addr} {pz : Nat → Bool} {f : Nat → List Int} {Y : Heap → Prop}
theorem collect_gen (hYo : ∀ h, (∀ p ∈ own, Has x.prog x.w x.bad h p.1 p.2) → Y h) (hh : A.handled = none) (hroom : A.depth < recursionLimit) (haC : a ≠ C) (haw : a ∉ wr) (hsub : ∀ b ∈ wr, b ∈ fp) (hCf : C ∉ fp) (haf : a ∉ fp) {s₀ : Shared} (hz : ((passing pz n₀ 0).length : Int) < 10000000)
    (hWR : ∀ b ∈ C :: wr, s₀.heap.get? b = none ∧ x.h₀.get? b = none ∧ (∀ p ∈ x.ro, p.1 ≠ b)) {s : Shared} {Q : List Value → Shared → Prop} (S0 : Step x own₀ s₀ own s) (L : Lf x.bad fp wr s.heap) (hC : ∃ m, s.heap.Ns C m) (hF : ∀ b ∈ a :: C :: fp, b ∉ addrs own)
    (G : GenAtH x.prog x.w A.in1 a g C Y fp wr x.bad pz n₀ (FTup x.bad fp wr f) 0 s)
    (hq : ∀ s' vs, Step x own₀ s₀ own s' → Reps x.bad s'.heap ((passing pz n₀ 0).map fun i => .tup ((f i).map .int)) vs → Q vs s') :
    wpAny (model x.prog x.w) A (collect (.ref a)) Q (fun _ _ => False) s := by
  have hlt : ∀ b o, s.heap.get? b = some o → b ≠ s.heap.objs.size := fun b o e h => by rw [h, fresh_none] at e; cases e
  have hT : s.TypeIs (.ref a) "generator" := G.1.typeIs
  have aS : s.heap.objs.size ≠ a := by obtain ⟨o, nm, qn, e, _⟩ := G.1; exact (hlt _ _ e).symm
  unfold collect
  refine wpAny_bind (wpAny_runValue (codeAny_builtin F.entry_proto_collect ?_))
  rw [Around.under_plainId F.plain_proto_collect _]
  show wpAny _ A.in1 (newList [] >>= fun l => again (.builtin "list.__iadd__" ⟨[l, .ref a], []⟩)) _ _ s
  refine wpAny_bind (wpAny_newObj_type ?_)
  refine wpAny_pure ⟨plainId_quiet F.plain_list_iadd _, codeAny_builtin F.entry_list_iadd ?_⟩
  rw [Around.under_plainId F.plain_list_iadd _]
  have g1 : ∀ b o, s.heap.get? b = some o → (s.heap.push { cls := .type "list", data := .seq ([] : List Value).toArray }).get? b = some o := fun b o e => Heap.get?_push_of_some _ e
  have G1 := G.frame (tk := s.toks) (h' := s.heap.push { cls := .type "list", data := .seq ([] : List Value).toArray }) fun b _ o e => g1 b o e
  have hT1 := G1.1.typeIs
  show wpAny _ A.in1 (Builtin.List.listExtendWith (.ref s.heap.objs.size) (.ref a) (.ref s.heap.objs.size)) _ _ _
  unfold Builtin.List.listExtendWith
  refine wpAny_bind (wpAny_typeOf hT1 ?_)
  have h1 : Builtin.List.listSameRef (.ref s.heap.objs.size) (.ref a) = false := by simp [Builtin.List.listSameRef, aS]
  have h2 : (Value.type "generator" == Value.type "list") = false := by decide
  have h3 : (Value.type "generator" == Value.type "tuple") = false := by decide
  simp only [h1, h2, h3, Bool.or_false, Bool.false_eq_true, if_false]
  refine wpAny_bind (wpAny_pyIter_gen G1.1 ?_)
  refine wpAny_bind (wpAny_holding ?_)
  unfold Builtin.List.listLengthHint
  refine wpAny_bind (wpAny_specialOf hT1 F.gen_no_len ?_)
  show wpAny _ A.in1 (specialOf (Value.ref a) (Str.ofString "__length_hint__") >>= _) _ _ _
  refine wpAny_bind (wpAny_specialOf hT1 F.gen_no_hint ?_)
  refine wpAny_pure ?_
  show wpAny _ A.in1 (rule "list.extend.makes-room" >>= fun _ => Builtin.List.listTouch (.ref s.heap.objs.size) >>= fun _ =>
    again (.builtin "list.extend.loop" ⟨[.ref s.heap.objs.size, .ref a, .ref s.heap.objs.size], []⟩)) _ _ _
  refine wpAny_bind (wpAny_rule ?_)
  have hS₁ : (s.heap.push { cls := .type "list", data := .seq ([] : List Value).toArray }).get? s.heap.objs.size = some { cls := .type "list", data := .seq ([] : List Value).toArray } := Heap.get?_push_size _ rfl
  refine wpAny_bind ?_
  show wpAny _ A.in1 (updateSeq s.heap.objs.size (·.push .none) >>= fun _ => updateSeq s.heap.objs.size (·.pop)) _ _ _
  refine wpAny_bind (wpAny_updateSeq hS₁ rfl ?_)
  have hS₂ := Heap.get?_update_self (Obj.mapSeq (·.push Value.none)) hS₁ rfl
  refine wpAny_updateSeq hS₂ rfl ?_
  have hS₃ := Heap.get?_update_self (Obj.mapSeq (·.pop)) hS₂ rfl
  have oth : ∀ b o, s.heap.get? b = some o → (((s.heap.push { cls := .type "list", data := .seq ([] : List Value).toArray }).update s.heap.objs.size (Obj.mapSeq (·.push Value.none))).update s.heap.objs.size (Obj.mapSeq (·.pop))).get? b = some o :=
    fun b o e => (Heap.get?_update_other _ _ (hlt b o e).symm).trans ((Heap.get?_update_other _ _ (hlt b o e).symm).trans (g1 b o e))
  have G3 := G.frame (tk := s.toks) fun b _ o e => oth b o e
  have S3 := S0.trans (Step.new (tk := s.toks) (o := .list []) S0.rel oth (fresh_none _) ⟨#[], ⟨_, hS₃⟩, by simp only [Array.toList_empty]; exact .nil⟩)
  have nS : ∀ b ∈ a :: C :: fp, b ≠ s.heap.objs.size := fun b hb => by
    rcases List.mem_cons.mp hb with rfl | hb
    · exact aS.symm
    · rcases List.mem_cons.mp hb with rfl | hb
      · obtain ⟨m, o, es, ep, e, _⟩ := hC; exact hlt _ _ e
      · obtain ⟨o, e, _⟩ := L b hb; exact hlt _ _ e
  refine wpAny_pure ⟨plainId_quiet F.plain_extend_loop _, ext_loop (own := own) hYo hh hroom haC haw hsub hCf haf hz hWR (fun s' S' => ?_) _ 0 _ rfl (Nat.zero_le _) S3 (L.keep fun b _ o e => oth b o e) (let ⟨m, e⟩ := hC; ⟨m, e.keeps oth⟩) (fun b hb hm => ?_) G3⟩
  · obtain ⟨ws, ⟨cn, eS⟩, rs⟩ := S'.rel.has _ (.head _)
    show wpAny _ A (load s.heap.objs.size >>= _) _ _ s'
    refine wpAny_bind (wpAny_load eS ?_)
    exact wpAny_pure (hq s' _ (S'.forget (List.sublist_cons_self ..)) rs)
  · rcases List.mem_cons.mp hm with h | h
    · exact nS b hb h
    · exact hF b hb h
end
end
section
/-- a sort's questions, answered by keys -/
def Tr {α : Type} (n : Nat) (ky : Nat → Int) : KasT α → (α → Prop) → Prop
  | .ret a, P => P a
  | .ask i j k, P => i < n ∧ j < n ∧ Tr n ky (k (decide (ky i < ky j))) P
theorem Tr.mono {α : Type} {n : Nat} {ky : Nat → Int} {P P' : α → Prop} (h : ∀ a, P a → P' a) : ∀ {t : KasT α}, Tr n ky t P → Tr n ky t P'
  | .ret a, t => h a t
  | .ask i j k, ⟨a, b, t⟩ => ⟨a, b, Tr.mono h t⟩
theorem Tr.bind {α β : Type} {n : Nat} {ky : Nat → Int} {f : α → KasT β} {P : β → Prop} : ∀ {t : KasT α}, Tr n ky t (fun a => Tr n ky (f a) P) → Tr n ky (t.bind f) P
  | .ret a, t => t
  | .ask i j k, ⟨a, b, t⟩ => ⟨a, b, Tr.bind t⟩
theorem Tr.run {α : Type} {n : Nat} {ky : Nat → Int} {cmp : Nat → Nat → (Bool → Shared → Prop) → Shared → Prop} {I : Shared → Prop} {P : α → Prop} {Q : α → Shared → Prop}
    (hc : ∀ i j C s, i < n → j < n → I s → (∀ s', I s' → C (decide (ky i < ky j)) s') → cmp i j C s) (hq : ∀ a s, P a → I s → Q a s) : ∀ {t : KasT α} {s : Shared}, Tr n ky t P → I s → t.kasWp cmp Q s
  | .ret a, s, t, i => hq a s t i
  | .ask i j k, s, ⟨a, b, t⟩, h => hc i j _ s a b h fun s' h' => Tr.run hc hq t h'

section
variable {n : Nat} {ky : Nat → Int} {p : Array Nat}
def kk (ky : Nat → Int) (p : Array Nat) (i : Nat) : Int := ky (p.getD i 0)
def Srt (ky : Nat → Int) (p : Array Nat) (m : Nat) : Prop := ∀ i j, i < j → j < m → kk ky p i < kk ky p j
def Ok (n : Nat) (p : Array Nat) : Prop := p.size = n ∧ (∀ i, i < n → p.getD i 0 < n) ∧ ∀ i j, i < n → j < n → p.getD i 0 = p.getD j 0 → i = j
theorem kk_congr {q : Array Nat} {i j : Nat} (h : p[i]? = q[j]?) : kk ky p i = kk ky q j := by
  unfold kk; rw [Array.getD_eq_getD_getElem?, Array.getD_eq_getD_getElem?, h]
theorem kk_bubble {s d : Nat} (hs : s < p.size) (hd : d ≤ s) (k : Nat) : kk ky (bubble p s d) k = if k = s - d then kk ky p s else if s - d < k ∧ k ≤ s then kk ky p (k - 1) else kk ky p k := by
  have e := getElem?_bubble hs d hd k
  by_cases h1 : k = s - d
  · rw [if_pos h1] at e ⊢; exact kk_congr e
  · rw [if_neg h1] at e ⊢
    by_cases h2 : s - d < k ∧ k ≤ s
    · rw [if_pos h2] at e ⊢; exact kk_congr e
    · rw [if_neg h2] at e ⊢; exact kk_congr e
theorem kk_mirror {j : Nat} (hj : j ≤ p.size) (k : Nat) : kk ky (kas_rev p 0 j) k = if k < j then kk ky p (j - 1 - k) else kk ky p k := by
  have e := getElem?_mirror_all (i := 0) hj k
  by_cases h1 : k < j
  · rw [if_pos ⟨Nat.zero_le _, h1⟩, Nat.zero_add] at e
    rw [if_pos h1]; exact kk_congr e
  · rw [if_neg (by omega)] at e
    rw [if_neg h1]; exact kk_congr e
theorem Ok.perm {q : Array Nat} (h : Ok n p) (hp : q.Perm p) : Ok n q := by
  have hl : p.toList.Nodup ∧ ∀ a ∈ p.toList, a < n := by
    constructor
    · show List.Pairwise (· ≠ ·) p.toList
      rw [List.pairwise_iff_getElem]
      intro i j hi hj hij e
      have h1 : i < n := by have := h.1; simp at hi; omega
      have h2 : j < n := by have := h.1; simp at hj; omega
      have := h.2.2 i j h1 h2 (by rw [Array.getD_eq_getD_getElem?, Array.getD_eq_getD_getElem?, ← Array.getElem?_toList, ← Array.getElem?_toList, List.getElem?_eq_getElem hi, List.getElem?_eq_getElem hj, e])
      omega
    · intro a ha
      obtain ⟨i, hi, e⟩ := List.getElem_of_mem ha
      have := h.2.1 i (by have := h.1; simp at hi; omega)
      rw [Array.getD_eq_getD_getElem?, ← Array.getElem?_toList, List.getElem?_eq_getElem hi, e] at this
      exact this
  have hpl : q.toList.Perm p.toList := Array.perm_iff_toList_perm.mp hp
  have hq : q.toList.Nodup ∧ ∀ a ∈ q.toList, a < n := ⟨hpl.nodup_iff.mpr hl.1, fun a ha => hl.2 a (hpl.mem_iff.mp ha)⟩
  have hz : q.size = n := by rw [hp.size_eq]; exact h.1
  refine ⟨hz, fun i hi => ?_, fun i j hi hj e => ?_⟩
  · have hi' : i < q.toList.length := by simp; omega
    rw [Array.getD_eq_getD_getElem?, ← Array.getElem?_toList, List.getElem?_eq_getElem hi']
    exact hq.2 _ (List.getElem_mem hi')
  · have hi' : i < q.toList.length := by simp; omega
    have hj' : j < q.toList.length := by simp; omega
    rw [Array.getD_eq_getD_getElem?, Array.getD_eq_getD_getElem?, ← Array.getElem?_toList, ← Array.getElem?_toList, List.getElem?_eq_getElem hi', List.getElem?_eq_getElem hj'] at e
    have pw : List.Pairwise (· ≠ ·) q.toList := hq.1
    rw [List.pairwise_iff_getElem] at pw
    rcases Nat.lt_trichotomy i j with hh | hh | hh
    · exact absurd e (pw i j hi' hj' hh)
    · exact hh
    · exact absurd e.symm (pw j i hj' hi' hh)
variable (hk : ∀ i j, i < n → j < n → i ≠ j → ky i ≠ ky j)
include hk
theorem kk_ne (h : Ok n p) {i j : Nat} (hi : i < n) (hj : j < n) (hij : i ≠ j) : kk ky p i ≠ kk ky p j := hk _ _ (h.2.1 i hi) (h.2.1 j hj) fun e => hij (h.2.2 i j hi hj e)
theorem tr_asc (h : Ok n p) : ∀ (f m : Nat), 1 ≤ m → m + f ≤ n → Srt ky p m → Tr n ky (kas_asc p f m) fun r => m ≤ r ∧ r ≤ m + f ∧ Srt ky p r ∧ (r < m + f → kk ky p r < kk ky p (r - 1)) := by
  intro f
  induction f with
  | zero => intro m h1 h2 hs; exact ⟨Nat.le_refl _, Nat.le_refl _, hs, fun h => absurd h (by omega)⟩
  | succ f ih =>
    intro m h1 h2 hs
    refine ⟨h.2.1 m (by omega), h.2.1 (m - 1) (by omega), ?_⟩
    show Tr n ky (if decide (kk ky p m < kk ky p (m - 1)) = true then .ret m else kas_asc p f (m + 1)) _
    by_cases hc : kk ky p m < kk ky p (m - 1)
    · rw [if_pos (by simpa using hc)]
      exact ⟨Nat.le_refl _, by omega, hs, fun _ => hc⟩
    · rw [if_neg (by simpa using hc)]
      have hne := kk_ne hk h (i := m) (j := m - 1) (by omega) (by omega) (by omega)
      refine (ih (m + 1) (by omega) (by omega) fun i j hij hj => ?_).mono fun r ⟨a, b, c, d⟩ => ⟨by omega, by omega, c, fun hr => d (by omega)⟩
      by_cases ej : j = m
      · subst ej
        by_cases ei : i = j - 1
        · subst ei; omega
        · have := hs i (j - 1) (by omega) (by omega); omega
      · exact hs i j hij (by omega)
theorem tr_desc (h : Ok n p) : ∀ (f m : Nat), 1 ≤ m → m + f ≤ n → (∀ i j, i < j → j < m → kk ky p j < kk ky p i) → Tr n ky (kas_desc f p m 0) fun r => r.1 = p ∧ r.2.2 = 0 ∧ m ≤ r.2.1 ∧ r.2.1 ≤ n ∧ ∀ i j, i < j → j < r.2.1 → kk ky p j < kk ky p i := by
  intro f
  induction f with
  | zero => intro m h1 h2 hs; exact ⟨rfl, rfl, Nat.le_refl _, by show m ≤ n; omega, hs⟩
  | succ f ih =>
    intro m h1 h2 hs
    refine ⟨h.2.1 m (by omega), h.2.1 (m - 1) (by omega), ?_⟩
    show Tr n ky (if decide (kk ky p m < kk ky p (m - 1)) = true then (if 0 > 0 then kas_desc f (kas_rev p (m - (0 + 1)) m) (m + 1) 0 else kas_desc f p (m + 1) 0) else .ask (p.getD (m - 1) 0) (p.getD m 0) fun d => if d = true then .ret (p, m, 0) else kas_desc f p (m + 1) (0 + 1)) _
    have hne := kk_ne hk h (i := m) (j := m - 1) (by omega) (by omega) (by omega)
    by_cases hc : kk ky p m < kk ky p (m - 1)
    · rw [if_pos (by simpa using hc), if_neg (by omega)]
      refine (ih (m + 1) (by omega) (by omega) fun i j hij hj => ?_).mono fun r ⟨a, b, c, d, e⟩ => ⟨a, b, by omega, d, e⟩
      by_cases ej : j = m
      · subst ej
        by_cases ei : i = j - 1
        · subst ei; omega
        · have := hs i (j - 1) (by omega) (by omega); omega
      · exact hs i j hij (by omega)
    · rw [if_neg (by simpa using hc)]
      refine ⟨h.2.1 (m - 1) (by omega), h.2.1 m (by omega), ?_⟩
      show Tr n ky (if decide (kk ky p (m - 1) < kk ky p m) = true then .ret (p, m, 0) else kas_desc f p (m + 1) (0 + 1)) _
      rw [if_pos (by simp; omega)]
      exact ⟨rfl, rfl, Nat.le_refl _, by show m ≤ n; omega, hs⟩
theorem tr_place (h : Ok n p) {k : Nat} (hkn : k < n) : ∀ (f l r : Nat), l ≤ r → r ≤ k → r ≤ l + f → (∀ i, i < l → kk ky p i < kk ky p k) → (∀ i, r ≤ i → i < k → kk ky p k < kk ky p i) → Srt ky p k →
    Tr n ky (kas_place p k f l r) fun m => m ≤ k ∧ (∀ i, i < m → kk ky p i < kk ky p k) ∧ ∀ i, m ≤ i → i < k → kk ky p k < kk ky p i := by
  intro f
  induction f with
  | zero => intro l r h1 h2 h3 a b _; exact ⟨by omega, a, fun i hi => b i (by omega)⟩
  | succ f ih =>
    intro l r h1 h2 h3 a b hs
    show Tr n ky (if l ≥ r then .ret l else .ask (p.getD k 0) (p.getD ((l + r) / 2) 0) fun c => if c = true then kas_place p k f l ((l + r) / 2) else kas_place p k f ((l + r) / 2 + 1) r) _
    by_cases hc : l ≥ r
    · rw [if_pos hc]; exact ⟨by omega, a, fun i hi => b i (by omega)⟩
    · rw [if_neg hc]
      refine ⟨h.2.1 k hkn, h.2.1 _ (by omega), ?_⟩
      show Tr n ky (if decide (kk ky p k < kk ky p ((l + r) / 2)) = true then kas_place p k f l ((l + r) / 2) else kas_place p k f ((l + r) / 2 + 1) r) _
      have hne := kk_ne hk h (i := k) (j := (l + r) / 2) hkn (by omega) (by omega)
      by_cases hd : kk ky p k < kk ky p ((l + r) / 2)
      · rw [if_pos (by simpa using hd)]
        refine ih l _ (by omega) (by omega) (by omega) a (fun i h4 h5 => ?_) hs
        by_cases ei : i = (l + r) / 2
        · subst ei; exact hd
        · have := hs ((l + r) / 2) i (by omega) h5; omega
      · rw [if_neg (by simpa using hd)]
        refine ih _ r (by omega) (by omega) (by omega) (fun i h4 => ?_) b hs
        by_cases ei : i = (l + r) / 2
        · subst ei; omega
        · have := hs i ((l + r) / 2) (by omega) (by omega); omega
theorem tr_bin : ∀ (f : Nat) (p : Array Nat) (k : Nat), Ok n p → k + f = n → Srt ky p k → Tr n ky (kas_bin f p k) fun q => Ok n q ∧ q.Perm p ∧ Srt ky q n := by
  intro f
  induction f with
  | zero => intro p k h e hs; exact ⟨h, Array.Perm.refl _, by rw [← e]; exact hs⟩
  | succ f ih =>
    intro p k h e hs
    refine Tr.bind ((tr_place hk h (k := k) (by omega) k 0 k (Nat.zero_le _) (Nat.le_refl _) (by omega) (fun i hi => absurd hi (by omega)) (fun i h1 h2 => absurd h1 (by omega)) hs).mono fun l ⟨l1, l2, l3⟩ => ?_)
    have hkp : k < p.size := by rw [h.1]; omega
    refine (ih _ (k + 1) (h.perm (bubble_perm _ _ _)) (by omega) fun i j hij hj => ?_).mono fun q ⟨q1, q2, q3⟩ => ⟨q1, q2.trans (bubble_perm _ _ _), q3⟩
    rw [kk_bubble hkp (by omega), kk_bubble hkp (by omega)]
    have ee : k - (k - l) = l := by omega
    rw [ee]
    by_cases i1 : i = l
    · rw [if_pos i1, if_neg (by omega)]
      rw [if_pos (by omega)]
      exact l3 _ (by omega) (by omega)
    · rw [if_neg i1]
      by_cases j1 : j = l
      · rw [if_pos j1, if_neg (by omega)]
        exact l2 i (by omega)
      · rw [if_neg j1]
        by_cases i2 : l < i ∧ i ≤ k
        · rw [if_pos i2, if_pos (by omega)]
          exact hs _ _ (by omega) (by omega)
        · rw [if_neg i2]
          by_cases j2 : l < j ∧ j ≤ k
          · rw [if_pos j2]
            exact hs _ _ (by omega) (by omega)
          · rw [if_neg j2]
            exact hs _ _ (by omega) (by omega)
theorem tr_sort (h2 : 2 ≤ n) : Tr n ky (kas_sort n) fun q => Ok n q ∧ q.Perm (List.toArray (List.range n)) ∧ Srt ky q n := by
  have h0 : Ok n (List.toArray (List.range n)) := by
    have g : ∀ i, i < n → (List.toArray (List.range n)).getD i 0 = i := fun i hi => by simp [Array.getD_eq_getD_getElem?, hi]
    refine ⟨by simp, fun i hi => by rw [g i hi]; exact hi, fun i j hi hj e => by rw [g i hi, g j hj] at e; exact e⟩
  unfold kas_sort
  generalize List.toArray (List.range n) = p at h0 ⊢
  have fin : ∀ (r : Nat × Array Nat), Ok n r.2 → r.2.Perm p → 1 ≤ r.1 → r.1 ≤ n → Srt ky r.2 r.1 → Tr n ky (if r.1 < n then kas_bin (n - max r.1 1) r.2 (max r.1 1) else .ret r.2) fun q => Ok n q ∧ q.Perm p ∧ Srt ky q n := fun r a pp b c d => by
    have : max r.1 1 = r.1 := by omega
    rw [this]
    by_cases hr : r.1 < n
    · rw [if_pos hr]; exact (tr_bin hk _ _ _ a (by omega) d).mono fun q ⟨q1, q2, q3⟩ => ⟨q1, q2.trans pp, q3⟩
    · rw [if_neg hr]
      have en : r.1 = n := by omega
      exact ⟨a, pp, en ▸ d⟩
  have tail : ∀ m, 1 ≤ m → m ≤ n → (∀ i j, i < j → j < m → kk ky p j < kk ky p i) → Tr n ky (kas_tail3 m n p) fun r => Tr n ky (if r.1 < n then kas_bin (n - max r.1 1) r.2 (max r.1 1) else .ret r.2) fun q => Ok n q ∧ q.Perm p ∧ Srt ky q n := fun m m1 m2 hd => by
    have hr := h0.perm (mirror_perm p 0 m ((m - 0) / 2))
    have hmp : m ≤ p.size := by rw [h0.1]; exact m2
    refine Tr.bind ((tr_asc hk hr (n - m) m m1 (by omega) fun i j hij hj => ?_).mono fun r ⟨a, b, c, _⟩ => fin (r, kas_rev p 0 m) hr (mirror_perm p 0 m ((m - 0) / 2)) (by show 1 ≤ r; omega) (by show r ≤ n; omega) c)
    show kk ky (kas_rev p 0 m) i < kk ky (kas_rev p 0 m) j
    rw [kk_mirror hmp, kk_mirror hmp, if_pos (by omega), if_pos hj]
    exact hd _ _ (by omega) (by omega)
  refine Tr.bind ?_
  unfold kas_count
  refine Tr.bind ((tr_asc hk h0 (n - 1) 1 (Nat.le_refl _) (by omega) fun i j hij hj => absurd hij (by omega)).mono fun r ⟨a, b, c, d⟩ => ?_)
  by_cases e1 : r = n
  · rw [if_pos (by simp [e1])]
    exact fin (r, p) h0 (Array.Perm.refl _) (by show 1 ≤ r; omega) (by show r ≤ n; omega) c
  · rw [if_neg (by simp [e1])]
    by_cases e2 : r > 1
    · rw [if_pos e2]
      refine ⟨h0.2.1 0 (by omega), h0.2.1 _ (by omega), ?_⟩
      have := c 0 (r - 1) (by omega) (by omega)
      show Tr n ky (if decide (kk ky p 0 < kk ky p (r - 1)) = true then .ret (r, p) else kas_descPart r n (kas_rev p 0 r)) _
      rw [if_pos (by simpa using this)]
      exact fin (r, p) h0 (Array.Perm.refl _) (by show 1 ≤ r; omega) (by show r ≤ n; omega) c
    · rw [if_neg e2]
      have e3 : r = 1 := by omega
      subst e3
      have hd := d (by omega)
      refine Tr.bind ((tr_desc hk h0 (n - (1 + 1)) (1 + 1) (by omega) (by omega) fun i j hij hj => ?_).mono fun r ⟨r1, r2, r3, r4, r5⟩ => ?_)
      · have : i = 0 := by omega
        have : j = 1 := by omega
        subst i j; exact hd
      · rw [r1, r2, if_neg (by omega)]
        exact tail _ (by omega) r4 r5
end
end
section
def T3 (h : Heap) (v : Value) (k : Int × Int × Int) : Prop := ∃ T t1 t2 t3 n, v = .ref T ∧ h.get? T = some { cls := .type "tuple", data := .seq #[.int k.1 t1, .int k.2.1 t2, .int k.2.2 t3] n }
def code3 (k : Int × Int × Int) : Int := (k.1 * 1000 + k.2.1) * 100000 + k.2.2
def In3 (k : Int × Int × Int) : Prop := 0 ≤ k.1 ∧ k.1 < 1000 ∧ 0 ≤ k.2.1 ∧ k.2.1 < 1000 ∧ -40000 ≤ k.2.2 ∧ k.2.2 ≤ 40000
theorem code3_inj {a b : Int × Int × Int} (ha : In3 a) (hb : In3 b) (e : code3 a = code3 b) : a = b := by
  obtain ⟨a1, a2, a3⟩ := a; obtain ⟨b1, b2, b3⟩ := b
  unfold code3 at e; unfold In3 at ha hb
  dsimp only at ha hb e
  have h1 : a1 = b1 := by omega
  have h2 : a2 = b2 := by omega
  have h3 : a3 = b3 := by omega
  rw [h1, h2, h3]
section
variable {prog : Program} {w : World} {A : Around} {s : Shared}
theorem lt3 {u v : Value} {a b : Int × Int × Int} {E : Value → Shared → Prop} {Q : Bool → Shared → Prop} (hu : T3 s.heap u a) (hv : T3 s.heap v b) (ha : In3 a) (hb : In3 b) (q : ∀ tk, s.toks ≤ tk → Q (decide (code3 a < code3 b)) { s with toks := tk }) :
    wpAny (model prog w) A (keyLt' (tuples' true) u v) Q E s := by
  obtain ⟨T, t1, t2, t3, n, rfl, e⟩ := hu
  obtain ⟨U, u1, u2, u3, m, rfl, e'⟩ := hv
  obtain ⟨a1, a2, a3⟩ := a; obtain ⟨b1, b2, b3⟩ := b
  unfold code3 at q; unfold In3 at ha hb
  dsimp only at ha hb q e e'
  have q0 := q s.toks (Nat.le_refl _)
  refine kat_lt e rfl e' rfl ?_
  show KatLex prog w A true (decide ((3 : Nat) < 3)) Q [(.int a1 t1, .int b1 u1), (.int a2 t2, .int b2 u2), (.int a3 t3, .int b3 u3)] 0 s
  refine kat_cons (wpAny_eqBool_int (kat_go (fun h1 => kat_yes (kat_cons (wpAny_eqBool_int (kat_go (fun h2 => kat_yes (kat_cons (wpAny_eqBool_int (kat_go (fun h3 => kat_yes (kat_nil ?_)) (fun h3 => kat_no ?_))))) (fun h2 => kat_no ?_))))) (fun h1 => kat_no ?_)))
  · simp at h1 h2 h3
    subst h1 h2 h3
    simpa using q0
  · simp at h1 h2 h3
    subst h1 h2
    refine kat_one _ _ (lt_int ?_)
    rw [show decide ((a1 * 1000 + a2) * 100000 + a3 < (a1 * 1000 + a2) * 100000 + b3) = decide (a3 < b3) by rw [decide_eq_decide]; omega] at q0
    exact q0
  · simp at h1 h2
    subst h1
    refine kat_one _ _ (lt_int ?_)
    rw [show decide ((a1 * 1000 + a2) * 100000 + a3 < (a1 * 1000 + b2) * 100000 + b3) = decide (a2 < b2) by rw [decide_eq_decide]; omega] at q0
    exact q0
  · simp at h1
    refine oneLt_int ?_
    rw [show decide ((a1 * 1000 + a2) * 100000 + a3 < (b1 * 1000 + b2) * 100000 + b3) = decide (a1 < b1) by rw [decide_eq_decide]; omega] at q0
    exact q0
end
end
section
theorem T3.keep {h h' : Heap} {v : Value} {k : Int × Int × Int} (t : T3 h v k) (hk : ∀ b o, o.cls = .type "tuple" → h.get? b = some o → h'.get? b = some o) : T3 h' v k := by
  obtain ⟨T, t1, t2, t3, n, e, g⟩ := t
  exact ⟨T, t1, t2, t3, n, e, hk _ _ rfl g⟩
inductive T3s (h : Heap) : List Value → List (Int × Int × Int) → Prop
  | nil : T3s h [] []
  | cons {v : Value} {k : Int × Int × Int} {vs : List Value} {ks : List (Int × Int × Int)} : T3 h v k → T3s h vs ks → T3s h (v :: vs) (k :: ks)
theorem T3s.len {h : Heap} {vs : List Value} {ks : List (Int × Int × Int)} (t : T3s h vs ks) : vs.length = ks.length := by
  induction t with
  | nil => rfl
  | cons _ _ ih => simp [ih]
theorem T3s.keep {h h' : Heap} {vs : List Value} {ks : List (Int × Int × Int)} (t : T3s h vs ks) (hk : ∀ b o, o.cls = .type "tuple" → h.get? b = some o → h'.get? b = some o) : T3s h' vs ks := by
  induction t with
  | nil => exact .nil
  | cons a _ ih => exact .cons (a.keep hk) ih
theorem T3s.get {h : Heap} {vs : List Value} {ks : List (Int × Int × Int)} (t : T3s h vs ks) : ∀ {i : Nat} (h1 : i < vs.length) (h2 : i < ks.length), T3 h vs[i] ks[i] := by
  induction t with
  | nil => intro i h1; simp at h1
  | cons a _ ih =>
    intro i h1 h2
    cases i with
    | zero => exact a
    | succ i => exact ih (by simpa using h1) (by simpa using h2)
theorem tups_of {h : Heap} {vs : List Value} {ks : List (Int × Int × Int)} (t : T3s h vs ks) : ∃ fs, KatTups h vs fs ∧ fs.length = vs.length ∧ ∀ f ∈ fs, ∃ i t, f = .int i t := by
  induction t with
  | nil => exact ⟨[], .nil, rfl, by simp⟩
  | @cons v k vs ks t r ih =>
    obtain ⟨fs, a, b, c⟩ := ih
    obtain ⟨T, t1, t2, t3, n, rfl, g⟩ := t
    exact ⟨.int k.1 t1 :: fs, .cons g rfl rfl rfl a, by simp [b], fun f hf => by
      rcases List.mem_cons.mp hf with rfl | hf
      · exact ⟨_, _, rfl⟩
      · exact c f hf⟩
section
variable {prog : Program} {w : World} {A : Around} {s : Shared} {E : Value → Shared → Prop}
theorem list_sort_t3 {a : Addr} {vs : List Value} {ks : List (Int × Int × Int)} {n : Nat} {P : PySem.Fin → Shared → Prop} (ho : s.heap.get? a = some (seqObj "list" vs.toArray n)) (ht : T3s s.heap vs ks) (hin : ∀ k ∈ ks, In3 k) (hnd : ks.Nodup)
    (h2 : 2 ≤ vs.length) (h64 : vs.length < 64)
    (h : ∀ p, Ok vs.length p → p.Perm (List.toArray (List.range vs.length)) → Srt (fun i => code3 (ks.getD i (0, 0, 0))) p vs.length → ∀ h' tk c2, (∀ b o, b ≠ a → s.heap.get? b = some o → h'.get? b = some o) → h'.get? a = some (seqObj "list" (p.toList.map fun i => vs.getD i Value.none).toArray c2) → P (.done (.ret .none)) { s with heap := h', toks := tk }) :
    wpAny (model prog w) A (Builtin.«list.sort» ⟨[.ref a], []⟩) P E s := by
  have hlen : vs.length = ks.length := ht.len
  have s1 := Heap.SameBut.update s.heap a (Obj.mapSeq fun _ => (#[] : Array Value))
  obtain ⟨e1, ho1⟩ : ∃ e1, (s.heap.update a (Obj.mapSeq fun _ => (#[] : Array Value))).get? a = some (seqObj "list" #[] e1) := ⟨_, get?_update_seq ho fun _ => #[]⟩
  rw [list_sort_plain]
  refine wpAny_bind (listItems_at ho rfl ?_)
  refine wpAny_bind (listUpdate_at ho rfl ?_ (by rw [List.size_toArray, sizeLine_eq]; omega) (Nat.zero_le _))
  refine wpAny_bind (seqEpoch_at ho1 rfl ?_)
  refine wpAny_bind (wpAny_newTuple ?_ (by show vs.length ≤ _; rw [sizeLine_eq]; omega))
  refine wpAny_bind (wpAny_newList ?_ (Nat.zero_le _))
  refine wpAny_holding ?_
  show wpAny (model prog w) A _ P E { s with heap := ((s.heap.update a (Obj.mapSeq fun _ => (#[] : Array Value))).push (seqObj "tuple" vs.toArray 0)).push (seqObj "list" #[] 0) }
  have k3 : ∀ b o, b ≠ a → s.heap.get? b = some o → (((s.heap.update a (Obj.mapSeq fun _ => (#[] : Array Value))).push (seqObj "tuple" vs.toArray 0)).push (seqObj "list" #[] 0)).get? b = some o := fun b o hb e => Heap.get?_push_of_some _ (Heap.get?_push_of_some _ (s1.extBut b o hb e))
  have ho3 : (((s.heap.update a (Obj.mapSeq fun _ => (#[] : Array Value))).push (seqObj "tuple" vs.toArray 0)).push (seqObj "list" #[] 0)).get? a = some (seqObj "list" #[] e1) := Heap.get?_push_of_some _ (Heap.get?_push_of_some _ ho1)
  generalize ((s.heap.update a (Obj.mapSeq fun _ => (#[] : Array Value))).push (seqObj "tuple" vs.toArray 0)).push (seqObj "list" #[] 0) = h3 at k3 ho3
  have nt : ∀ b o, o.cls = .type "tuple" → s.heap.get? b = some o → b ≠ a := fun b o c e h => by subst h; rw [e] at ho; cases ho; simp [seqObj] at c
  have ht3 : T3s h3 vs ks := ht.keep fun b o c e => k3 b o (nt b o c e) e
  dsimp only
  have hn2 : ¬ vs.toArray.size < 2 := by rw [List.size_toArray]; omega
  rw [if_neg hn2, if_neg hn2]
  obtain ⟨fs, ft, fl, fi⟩ := tups_of ht3
  refine wpAny_bind (kat_kind (T := .type "int") (s := { s with heap := h3 }) ft (by omega) (fun v hv => ?_) (by decide) ?_)
  · obtain ⟨i, t, rfl⟩ := fi v hv
    exact Looks.of_pure rfl
  have geti : ∀ i, i < vs.length → T3 h3 (vs.getD i Value.none) (ks.getD i (0, 0, 0)) ∧ In3 (ks.getD i (0, 0, 0)) := fun i hi => by
    have hi' : i < ks.length := by omega
    have e1 : vs.getD i Value.none = vs[i] := by simp [hi]
    have e2 : ks.getD i (0, 0, 0) = ks[i] := by simp [hi']
    rw [e1, e2]
    exact ⟨ht3.get hi hi', hin _ (List.getElem_mem hi')⟩
  have hky : ∀ i j, i < vs.length → j < vs.length → i ≠ j → code3 (ks.getD i (0, 0, 0)) ≠ code3 (ks.getD j (0, 0, 0)) := fun i j hi hj hij e => by
    have := code3_inj (geti i hi).2 (geti j hj).2 e
    have e1 : ks.getD i (0, 0, 0) = ks[i]'(by omega) := by simp [show i < ks.length by omega]
    have e2 : ks.getD j (0, 0, 0) = ks[j]'(by omega) := by simp [show j < ks.length by omega]
    rw [e1, e2] at this
    have pw : List.Pairwise (· ≠ ·) ks := hnd
    rw [List.pairwise_iff_getElem] at pw
    rcases Nat.lt_or_gt_of_ne hij with hh | hh
    · exact pw i j (by omega) (by omega) hh this
    · exact pw j i (by omega) (by omega) hh this.symm
  refine wpAny_bind (wpAny_mono (kat_run (κ := tuples' true) (ks := vs) (Q := fun st' s' => ∃ p : Array Nat, Ok vs.length p ∧ p.Perm (List.toArray (List.range vs.length)) ∧ Srt (fun i => code3 (ks.getD i (0, 0, 0))) p vs.length ∧ arrOf st' = p.map (kas_item (vs.toArray.zip vs.toArray)) ∧ failedOf st' = none ∧ ∃ tk, s' = { s with heap := h3, toks := tk })
    (G := fun p s' => Ok vs.length p ∧ p.Perm (List.toArray (List.range vs.length)) ∧ Srt (fun i => code3 (ks.getD i (0, 0, 0))) p vs.length ∧ ∃ tk, s' = { s with heap := h3, toks := tk }) rfl h2 h64 (fun p' st' s' a1 a2 a3 a4 => ⟨p', a4.1, a4.2.1, a4.2.2.1, a2, a3, a4.2.2.2⟩)
    (Tr.run (I := fun s' => ∃ tk, s' = { s with heap := h3, toks := tk }) (fun i j C s' hi hj ⟨tk, es⟩ hC => ?_) (fun q s' a b => ⟨a.1, a.2.1, a.2.2, b⟩) (tr_sort hky h2) ⟨_, rfl⟩)) ?_ fun _ _ e => e)
  rotate_left
  · subst es
    show wpAny (model prog w) A (keyLt' (tuples' true) (vs.getD i Value.none) (vs.getD j Value.none)) C (fun _ _ => False) _
    exact lt3 (geti i hi).1 (geti j hj).1 (geti i hi).2 (geti j hj).2 fun tk' _ => hC _ ⟨_, rfl⟩
  rintro ⟨⟨⟩, st'⟩ s' ⟨p, hp, hpm, hs, har, hf, tk, rfl⟩
  dsimp only
  have hout := kat_snds rfl har
  have hsz : (List.toArray (p.toList.map fun i => vs.getD i Value.none)).size = vs.length := by rw [List.size_toArray, List.length_map, Array.length_toList, hp.1]
  rw [hout]
  have s2 := Heap.SameBut.update h3 a (Obj.mapSeq fun _ => List.toArray (p.toList.map fun i => vs.getD i Value.none))
  obtain ⟨c2, hc2⟩ : ∃ c2, (h3.update a (Obj.mapSeq fun _ => List.toArray (p.toList.map fun i => vs.getD i Value.none))).get? a = some (seqObj "list" (List.toArray (p.toList.map fun i => vs.getD i Value.none)) c2) := ⟨_, get?_update_seq ho3 fun _ => List.toArray (p.toList.map fun i => vs.getD i Value.none)⟩
  refine wpAny_bind (seqEpoch_at ho3 rfl ?_)
  refine wpAny_bind (listUpdate_at ho3 rfl ?_ (Nat.zero_le _) (Nat.le_trans (Nat.le_of_eq hsz) (by rw [sizeLine_eq]; omega)))
  rw [hf]
  simp only [bne_self_eq_false, Bool.false_eq_true, if_false]
  exact wpAny_pure (h p hp hpm hs _ tk c2 (fun b o hb e => s2.extBut b o hb (k3 b o hb e)) hc2)
end
end
section
def sort3 (l : List (Int × Int × Int)) : List (Int × Int × Int) := l.mergeSort fun a b => decide (code3 a ≤ code3 b)
theorem sort3_perm (l : List (Int × Int × Int)) : (sort3 l).Perm l := List.mergeSort_perm ..
theorem sort3_pair (l : List (Int × Int × Int)) : (sort3 l).Pairwise fun a b => code3 a ≤ code3 b := by
  have := List.pairwise_mergeSort (le := fun a b : Int × Int × Int => decide (code3 a ≤ code3 b)) (by intro a b c; simp; omega) (by intro a b; simp; omega) l
  exact this.imp fun h => by simpa using h
theorem map_code_inj : ∀ {a b : List (Int × Int × Int)}, (∀ k ∈ a, In3 k) → (∀ k ∈ b, In3 k) → a.map code3 = b.map code3 → a = b
  | [], b, _, _, e => by cases b with | nil => rfl | cons _ _ => simp at e
  | x :: a, b, ha, hb, e => by
    cases b with
    | nil => simp at e
    | cons y b =>
      simp only [List.map_cons, List.cons.injEq] at e
      rw [code3_inj (ha x (.head _)) (hb y (.head _)) e.1, map_code_inj (fun k hk => ha k (.tail _ hk)) (fun k hk => hb k (.tail _ hk)) e.2]
theorem sort3_uniq {a l : List (Int × Int × Int)} (hp : a.Perm l) (hs : a.Pairwise fun a b => code3 a ≤ code3 b) (hl : ∀ k ∈ l, In3 k) : a = sort3 l := by
  refine map_code_inj (fun k hk => hl k (hp.mem_iff.mp hk)) (fun k hk => hl k ((sort3_perm l).mem_iff.mp hk)) (lks_uniq ((hp.trans (sort3_perm l).symm).map _) ?_ ?_)
  · rw [List.pairwise_map]; exact hs
  · rw [List.pairwise_map]; exact sort3_pair l
theorem range_map {α : Type} (l : List α) (d : α) : (List.range l.length).map (fun i => l.getD i d) = l := by
  apply List.ext_getElem
  · simp
  · intro i h1 h2
    simp [h2]
theorem out_perm {p : Array Nat} {ks : List (Int × Int × Int)} {n : Nat} (hn : ks.length = n) (hp : p.Perm (List.toArray (List.range n))) : (p.toList.map fun i => ks.getD i (0, 0, 0)).Perm ks := by
  have h1 : p.toList.Perm (List.range n) := by simpa using Array.perm_iff_toList_perm.mp hp
  have h2 := h1.map fun i => ks.getD i (0, 0, 0)
  rw [← hn, range_map] at h2
  exact h2
theorem out_sorted {p : Array Nat} {ks : List (Int × Int × Int)} {n : Nat} (ho : Ok n p) (hs : Srt (fun i => code3 (ks.getD i (0, 0, 0))) p n) : (p.toList.map fun i => ks.getD i (0, 0, 0)).Pairwise fun a b => code3 a ≤ code3 b := by
  rw [List.pairwise_map, List.pairwise_iff_getElem]
  intro i j hi hj hij
  have := hs i j hij (by have := ho.1; simp at hj; omega)
  unfold kk at this
  have g : ∀ i (h : i < p.toList.length), p.getD i 0 = p.toList[i] := fun i h => by
    have : i < p.size := by simpa using h
    simp [Array.getD_eq_getD_getElem?, this]
  rw [g i hi, g j hj] at this
  dsimp only at this
  omega
theorem out_t3 {h : Heap} {vs : List Value} {ks : List (Int × Int × Int)} (t : T3s h vs ks) : ∀ {l : List Nat}, (∀ i ∈ l, i < vs.length) → T3s h (l.map fun i => vs.getD i Value.none) (l.map fun i => ks.getD i (0, 0, 0))
  | [], _ => .nil
  | i :: l, hl => by
    have hi := hl i (.head _)
    have hi' : i < ks.length := t.len ▸ hi
    refine .cons ?_ (out_t3 t fun i h => hl i (.tail _ h))
    have e1 : vs.getD i Value.none = vs[i] := by simp [hi]
    have e2 : ks.getD i (0, 0, 0) = ks[i] := by simp [hi']
    dsimp only
    rw [e1, e2]
    exact t.get hi hi'
def tup3 (k : Int × Int × Int) : AV := .tup [.int k.1, .int k.2.1, .int k.2.2]
theorem reps_t3 {B : List Addr} {h : Heap} : ∀ {ks : List (Int × Int × Int)} {vs : List Value}, Reps B h (ks.map tup3) vs → T3s h vs ks
  | [], vs, r => by simp only [List.map, Reps] at r; subst r; exact .nil
  | k :: ks, vs, r => by
    simp only [List.map, Reps] at r
    obtain ⟨v, vs, rfl, r1, r2⟩ := r
    refine .cons ?_ (reps_t3 r2)
    obtain ⟨a, us, n, rfl, _, e, ru⟩ := rep_tup r1
    obtain ⟨u, v, w, eu, q1, q2, q3⟩ := reps3 ru
    obtain ⟨t1, rfl⟩ := rep_int q1; obtain ⟨t2, rfl⟩ := rep_int q2; obtain ⟨t3, rfl⟩ := rep_int q3
    refine ⟨a, t1, t2, t3, n, rfl, ?_⟩
    have : us = #[.int k.1 t1, .int k.2.1 t2, .int k.2.2 t3] := Array.toList_inj.mp eu
    rw [this] at e; exact e
/-- numbers and objects back -/
theorem t3_reps {B : List Addr} {h : Heap} (nb : ∀ T vs n, h.get? T = some { cls := .type "tuple", data := .seq vs n } → T ∉ B) {ks : List (Int × Int × Int)} {vs : List Value} (t : T3s h vs ks) : Reps B h (ks.map tup3) vs := by
  induction t with
  | nil => exact .nil
  | cons a _ ih =>
    obtain ⟨T, t1, t2, t3, n, rfl, e⟩ := a
    refine Reps.cons ?_ ih
    simp only [tup3, Rep]
    exact ⟨T, _, n, rfl, nb _ _ _ e, e, Reps.cons rep_mk_int (Reps.cons rep_mk_int (Reps.cons rep_mk_int .nil))⟩
end
section
section
variable {prog : Program} {w : World} {A : Around} {s : Shared} {E : Value → Shared → Prop}
theorem list_sort_short {a : Addr} {vs : List Value} {n : Nat} {P : PySem.Fin → Shared → Prop} (ho : s.heap.get? a = some (seqObj "list" vs.toArray n)) (h2 : vs.length < 2)
    (h : ∀ h' tk c2, (∀ b o, b ≠ a → s.heap.get? b = some o → h'.get? b = some o) → h'.get? a = some (seqObj "list" vs.toArray c2) → P (.done (.ret .none)) { s with heap := h', toks := tk }) :
    wpAny (model prog w) A (Builtin.«list.sort» ⟨[.ref a], []⟩) P E s := by
  have s1 := Heap.SameBut.update s.heap a (Obj.mapSeq fun _ => (#[] : Array Value))
  obtain ⟨e1, ho1⟩ : ∃ e1, (s.heap.update a (Obj.mapSeq fun _ => (#[] : Array Value))).get? a = some (seqObj "list" #[] e1) := ⟨_, get?_update_seq ho fun _ => #[]⟩
  rw [list_sort_plain]
  refine wpAny_bind (listItems_at ho rfl ?_)
  refine wpAny_bind (listUpdate_at ho rfl ?_ (by rw [List.size_toArray, sizeLine_eq]; omega) (Nat.zero_le _))
  refine wpAny_bind (seqEpoch_at ho1 rfl ?_)
  refine wpAny_bind (wpAny_newTuple ?_ (by show vs.length ≤ _; rw [sizeLine_eq]; omega))
  refine wpAny_bind (wpAny_newList ?_ (Nat.zero_le _))
  refine wpAny_holding ?_
  show wpAny (model prog w) A _ P E { s with heap := ((s.heap.update a (Obj.mapSeq fun _ => (#[] : Array Value))).push (seqObj "tuple" vs.toArray 0)).push (seqObj "list" #[] 0) }
  have k3 : ∀ b o, b ≠ a → s.heap.get? b = some o → (((s.heap.update a (Obj.mapSeq fun _ => (#[] : Array Value))).push (seqObj "tuple" vs.toArray 0)).push (seqObj "list" #[] 0)).get? b = some o := fun b o hb e => Heap.get?_push_of_some _ (Heap.get?_push_of_some _ (s1.extBut b o hb e))
  have ho3 : (((s.heap.update a (Obj.mapSeq fun _ => (#[] : Array Value))).push (seqObj "tuple" vs.toArray 0)).push (seqObj "list" #[] 0)).get? a = some (seqObj "list" #[] e1) := Heap.get?_push_of_some _ (Heap.get?_push_of_some _ ho1)
  generalize ((s.heap.update a (Obj.mapSeq fun _ => (#[] : Array Value))).push (seqObj "tuple" vs.toArray 0)).push (seqObj "list" #[] 0) = h3 at k3 ho3
  dsimp only
  have hn2 : vs.toArray.size < 2 := by rw [List.size_toArray]; omega
  rw [if_pos hn2, if_pos hn2]
  refine wpAny_bind (wpAny_pure ?_)
  rw [StateT.run_pure]
  refine wpAny_bind (wpAny_pure ?_)
  dsimp only
  have hz : (vs.toArray.zip vs.toArray).map (·.2) = vs.toArray := by
    apply Array.toList_inj.mp
    simp
    rw [List.map_snd_zip]; exact Nat.le_refl _
  have hz2 : (arrOf (SortSt.mk' general' (vs.toArray.zip vs.toArray) #[] 7 none)).map (·.2) = vs.toArray := hz
  rw [hz2]
  have s2 := Heap.SameBut.update h3 a (Obj.mapSeq fun _ => vs.toArray)
  obtain ⟨c2, hc2⟩ : ∃ c2, (h3.update a (Obj.mapSeq fun _ => vs.toArray)).get? a = some (seqObj "list" vs.toArray c2) := ⟨_, get?_update_seq ho3 fun _ => vs.toArray⟩
  refine wpAny_bind (seqEpoch_at ho3 rfl ?_)
  refine wpAny_bind (listUpdate_at ho3 rfl ?_ (Nat.zero_le _) (by rw [List.size_toArray, sizeLine_eq]; omega))
  simp only [bne_self_eq_false, Bool.false_eq_true, if_false]
  exact wpAny_pure (h _ s.toks c2 (fun b o hb e => s2.extBut b o hb (k3 b o hb e)) hc2)
end
end
section
section
variable {x : Cx} {A : Around} {own : Own}
theorem sort3_short {ks : List (Int × Int × Int)} (h : ks.length < 2) : sort3 ks = ks := by
  match ks, h with
  | [], _ => simp [sort3]
  | [k], _ => simp [sort3]
/-- list.sort on tuples of three numbers -/
theorem sort_tree3 {l : Addr} {ks : List (Int × Int × Int)} {s : Shared} {A' : Around} (hb : x.bad = []) (R : Rel x own s) {own' : Own} (u : Upd l (.list (ks.map tup3)) (.list ((sort3 ks).map tup3)) own own') (hin : ∀ k ∈ ks, In3 k) (hnd : ks.Nodup) (h64 : ks.length < 64) {Q : Value → Shared → Prop} {E : Value → Shared → Prop}
    (q : ∀ h' tk, Step x own s own' { s with heap := h', toks := tk } → Q .none { s with heap := h', toks := tk }) : wpAny (model x.prog x.w) A' (call (.builtin "list.sort") [.ref l]) Q E s := by
  obtain ⟨ws, pl, rs⟩ := R.has _ u.mem
  have pl : s.heap.PlainList l ws := pl
  obtain ⟨k, e⟩ := id pl
  have e0 : s.heap.get? l = some (seqObj "list" ws.toList.toArray k) := by rw [Array.toArray_toList]; exact e
  have t3 := reps_t3 rs
  have hl := t3.len
  have notT : ∀ b vs n, s.heap.get? b = some { cls := .type "tuple", data := .seq vs n } → b ≠ l := fun b vs n eb h => by subst h; rw [eb] at e; simp at e
  have fin : ∀ (out : List Value) h' tk c2, (∀ b o, b ≠ l → s.heap.get? b = some o → h'.get? b = some o) → h'.get? l = some (seqObj "list" out.toArray c2) → T3s s.heap out (sort3 ks) → Step x own s own' { s with heap := h', toks := tk } := fun out h' tk c2 hk hc ht => by
    refine Step.upd R u hk ⟨out.toArray, ⟨c2, hc⟩, ?_⟩
    have ht' : T3s h' out (sort3 ks) := ht.keep fun b o c eb => hk b o (fun h => by subst h; rw [eb] at e; cases e; simp at c) eb
    rw [List.toList_toArray]
    exact t3_reps (fun T vs n _ => by rw [hb]; simp) ht'
  refine wpAny_call_entry PyProof.Rows.slot_list_sort ⟨_, e, rfl⟩ PyProof.Rows.entry_list_sort ?_ (PyProof.Rows.args_list_sort _)
  by_cases h2 : ws.toList.length < 2
  · refine list_sort_short e0 h2 fun h' tk c2 hk hc => ⟨.none, rfl, q _ _ (fin ws.toList h' tk c2 hk hc ?_)⟩
    rw [sort3_short (by omega)]; exact t3
  · refine list_sort_t3 e0 t3 hin hnd (by omega) (by omega) fun p hp hpm hs h' tk c2 hk hc => ⟨.none, rfl, q _ _ (fin _ h' tk c2 hk hc ?_)⟩
    have := out_t3 t3 (l := p.toList) fun i hi => by
      obtain ⟨j, hj, ej⟩ := List.getElem_of_mem hi
      have h1 := hp.2.1 j (by have := hp.1; simp at hj; omega)
      have hjs : j < p.size := by simpa using hj
      rw [Array.getD_eq_getD_getElem?, Array.getElem?_eq_getElem hjs] at h1
      simp at ej
      rw [← ej]; exact h1
    rw [← sort3_uniq (out_perm hl.symm hpm) (out_sorted hp hs) hin]
    exact this
end
end
section
section
variable {prog : Program} {w : World}
/-- what the walk over the items leans on -/
structure ItOk (prog : Program) (w : World) (h : Heap) (rv : Addr) (ds : Array DictEntry) (l r : Nat → Str) (f : Nat → List Int) (ka : Nat → Addr) : Prop where
  names : ∃ kvs, h.DictOf (PySem.strKind prog w) rv kvs ∧ ∀ j, j < ds.size → ∃ a b v, f j = [a, b, v] ∧ (∃ t, valueAt kvs (l j) = some (.int a t)) ∧ (∃ t, valueAt kvs (r j) = some (.int b t)) ∧ ∃ t, (ds.getD j default).val = .int v t
  keys : ∀ j, j < ds.size → (ds.getD j default).key = .ref (ka j) ∧ ∃ tl tr n, h.get? (ka j) = some { cls := .type "tuple", data := .seq #[.str (l j) tl, .str (r j) tr] n }
theorem ItOk.keep {h h' : Heap} {rv : Addr} {ds : Array DictEntry} {l r : Nat → Str} {f : Nat → List Int} {ka : Nat → Addr} (K : ItOk prog w h rv ds l r f ka)
    (hk : ∀ b o, (b = rv ∨ ∃ j, j < ds.size ∧ b = ka j) → h.get? b = some o → h'.get? b = some o) : ItOk prog w h' rv ds l r f ka where
  names := by
    obtain ⟨kvs, ⟨o, es, ep, e, q⟩, g⟩ := K.names
    exact ⟨kvs, ⟨o, es, ep, hk _ _ (.inl rfl) e, q⟩, g⟩
  keys := fun j hj => let ⟨a, tl, tr, n, e⟩ := K.keys j hj; ⟨a, tl, tr, n, hk _ _ (.inr ⟨j, hj, rfl⟩) e⟩
theorem sub_names {A : Around} {s : Shared} {cenv : Env} {rn xl : Str} {a1 a2 a3 : Pos} {cR rv : Addr} {kvs : List (Str × Value)} {m} {k : Str} {t : Tok} {v : Value} {Q : Value → Shared → Prop}
    (hk : cenv.scope.kind = .function) (hrn : cenv.kindOf rn = some .free) (hrc : cenv.cells.lookup rn = some cR) (hdr : (rn == ("__debug__" : Str)) = false) (hcr : (rn == ("__classdict__" : Str)) = false) (hxl : cenv.kindOf xl = some .local) (hdl : (xl == ("__debug__" : Str)) = false)
    (hc : s.heap.IsCell cR (some (.ref rv))) (hd : s.heap.DictOf (PySem.strKind prog w) rv kvs) (hn : s.heap.Ns cenv.locals m) (hm : m xl = some (.str k t)) (hv : valueAt kvs k = some v) (q : Q v { s with toks := s.toks + 1 })
    (hs : ∀ o k, subscripted (.Name xl a2) false o k = operate [o, k] (getItem o k) := by intro _ _; with_unfolding_all rfl) :
    wpAny (model prog w) A (eval (.Subscript (.Name rn a1) (.Name xl a2) a3) cenv) Q (fun _ _ => False) s :=
  Subscript_ (wpAny_Name (wpAny_loadName_free hk hrn hrc hc (name_local hk hxl hdl hn hm (tail_any hd.typeIs look_dict (wpAny_getItem_of (strKind_is _ _ _ _) hd.mapOf hv q) (hs _ _))) hcr) hdr)
theorem turn_items {cenv : Env} {xl xr xv rn : Str} {pl pr pv q1 q2 a1 a2 a3 b1 b2 b3 c1 q3 : Pos} {k1 k2 k3 : Nat} {it d cR rv : Addr} {ep : Nat} {ds : Array DictEntry} {l r : Nat → Str} {f : Nat → List Int} {ka : Nat → Addr}
    (hlr : xl ≠ xr) (hlv : xl ≠ xv) (hrv : xr ≠ xv) (hl : cenv.kindOf xl = some .local) (hr : cenv.kindOf xr = some .local) (hv : cenv.kindOf xv = some .local) (hrn : cenv.kindOf rn = some .free) (hrc : cenv.cells.lookup rn = some cR)
    (hdl : (xl == ("__debug__" : Str)) = false) (hdr : (xr == ("__debug__" : Str)) = false) (hdv : (xv == ("__debug__" : Str)) = false) (hdn : (rn == ("__debug__" : Str)) = false) (hcn : (rn == ("__classdict__" : Str)) = false) (hk : cenv.scope.kind = .function)
    (hCf : cenv.locals ∉ it :: d :: rv :: (List.range ds.size).map ka) (hif : it ∉ d :: rv :: (List.range ds.size).map ka) (hCR : cenv.locals ≠ cR) (hiR : it ≠ cR)
    (hs1 : ∀ o k, subscripted (.Name xl a2) false o k = operate [o, k] (getItem o k) := by intro _ _; with_unfolding_all rfl) (hs2 : ∀ o k, subscripted (.Name xr b2) false o k = operate [o, k] (getItem o k) := by intro _ _; with_unfolding_all rfl) :
    TurnH prog w cenv (fun h => h.IsCell cR (some (.ref rv))) (.Tuple [.Tuple [.Name xl pl, .Name xr pr] k1 q1, .Name xv pv] k2 q2) [] (.Tuple [.Subscript (.Name rn a1) (.Name xl a2) a3, .Subscript (.Name rn b1) (.Name xr b2) b3, .Name xv c1] k3 q3)
      it (it :: d :: rv :: (List.range ds.size).map ka) [it] [] ds.size (fun _ => true) (FTup [] (it :: d :: rv :: (List.range ds.size).map ka) [it] f)
      (fun i h => (∃ m, h.Ns cenv.locals m) ∧ (∃ ok ov, IsItemIter h it d i ds.size ep ok ov) ∧ (∃ od, h.get? d = some od ∧ od.data = .dict ds ep ∧ od.cls ≠ .none) ∧ ItOk prog w h rv ds l r f ka ∧ h.IsCell cR (some (.ref rv))) where
  frame := fun i h h' ⟨_, ⟨ok, ov, e1⟩, ⟨od, e2, e3, e4⟩, K, _⟩ hkp hC hY => ⟨hC, ⟨ok, ov, hkp it (by simp) _ e1⟩, ⟨od, hkp d (by simp) _ e2, e3, e4⟩, K.keep fun b o hb e => hkp b (by
    rcases hb with rfl | ⟨j, hj, rfl⟩
    · simp
    · simp only [List.mem_cons, List.mem_map, List.mem_range]
      exact .inr (.inr (.inr ⟨j, hj, rfl⟩))) o e, hY⟩
  yy := fun _ _ st => st.2.2.2.2
  ns := fun _ _ st => st.1
  self := fun A' i s Q E hA ⟨_, ⟨ok, ov, e1⟩, _⟩ q => by
    have hT : s.TypeIs (.ref it) "dict_itemiterator" := ⟨_, e1, rfl⟩
    refine wpAny_pyIter_slot hT F.slot_dict_itemiterator_iter (wpAny_call_entry F.slot_dict_itemiterator_iter hT (entryFor_alias (id' := "dict_keyiterator.__iter__") (by kernel_rfl) rfl (by decide +kernel) (by kernel_rfl) : entryFor table "dict_itemiterator.__iter__" = some Builtin.«dict_keyiterator.__iter__») ?_ (F.args_dict_itemiterator_iter_1 _))
    show wpAny _ _ (ret (.ref it)) _ _ s
    exact wpAny_pure ⟨_, rfl, "dict_itemiterator", _, hT, F.slot_dict_itemiterator_next.lookup, q⟩
  done := fun A' s hA ⟨⟨m, hn⟩, ⟨ok, ov, e1⟩, ⟨od, e2, e3, e4⟩, K, KC⟩ => by
    refine itemsH_end hA e1 e2 e3 (Nat.le_refl _) fun h' tk hk' => ⟨rfl, ⟨h', tk, rfl, fun b o _ hb e => hk' b o (by simpa using hb) e⟩, fun b hb hb2 => by simp at hb2⟩
  go := fun A' i s hA hi ⟨⟨m, hn⟩, ⟨ok, ov, e1⟩, ⟨od, e2, e3, e4⟩, K, KC⟩ => by
    have hp : (cenv.scope.kind == .class || (cenv.scope.kind == .module && cenv.locals != cenv.globals)) = false := by rw [hk]; rfl
    have hCi : cenv.locals ≠ it := fun h => hCf (h ▸ .head _)
    refine itemsH_item e1 e2 e3 hi fun h1 o1 o2 o3 => ⟨_, rfl, ?_⟩
    refine wpAny_letOwnedTupleGo_items (s := { s with heap := h1 }) o1 fun h2 g1 g2 => ?_
    have lt : ∀ b o, s.heap.get? b = some o → b ≠ s.heap.objs.size := fun b o e h => by rw [h, fresh_none] at e; cases e
    have nT : s.heap.objs.size ≠ it := (lt _ _ e1).symm
    have k2 : ∀ b o, b ≠ it → s.heap.get? b = some o → h2.get? b = some o := fun b o hb e => g2.extBut b o hb (o3 b o hb e)
    have T2 := g2.extBut _ _ nT o2
    have K2 := K.keep (h' := h2) fun b o hb e => k2 b o (fun h => hif (by
      subst h
      rcases hb with hb | ⟨j, hj, hb⟩
      · rw [← hb]; simp
      · rw [hb]; simp only [List.mem_cons, List.mem_map, List.mem_range]; exact .inr (.inr ⟨j, hj, rfl⟩))) e
    have KC2 : h2.IsCell cR (some (.ref rv)) := let ⟨o, e, dd⟩ := KC; ⟨o, k2 _ _ hiR.symm e, dd⟩
    obtain ⟨ek, tl, tr, kn, eK⟩ := K2.keys i hi
    obtain ⟨kvs, hD, hN⟩ := K2.names
    obtain ⟨fa, fb, fv, ef, ⟨ta, va⟩, ⟨tb, vb⟩, tv, ev⟩ := hN i hi
    have eg : ds.getD i default = ds[i] := by simp [Array.getD, hi]
    rw [eg] at ek ev
    rw [ek, ev] at T2
    refine wpAny_assign_Tuple (s := { s with heap := h2 }) hA ⟨_, T2, rfl, _, rfl⟩ rfl rfl fun h3 x3 => ?_
    replace x3 : Heap.ExtBut h2.objs.size h2 h3 := x3
    have k3 : ∀ b o, h2.get? b = some o → h3.get? b = some o := fun b o e => x3 b o (Nat.ne_of_lt (Heap.lt_size e)) e
    show wpAny _ _ (do holding [.int fv tv] (assign (.Tuple [.Name xl pl, .Name xr pr] k1 q1) cenv (.ref (ka i))); do holding [] (assign (.Name xv pv) cenv (.int fv tv)); pure ()) _ _ _
    refine wpAny_bind (wpAny_holding ?_)
    refine wpAny_assign_Tuple (s := { s with heap := h3 }) hA ⟨_, k3 _ _ eK, rfl, _, rfl⟩ rfl rfl fun h4 x4 => ?_
    replace x4 : Heap.ExtBut h3.objs.size h3 h4 := x4
    have k4 : ∀ b o, h3.get? b = some o → h4.get? b = some o := fun b o e => x4 b o (Nat.ne_of_lt (Heap.lt_size e)) e
    show wpAny _ _ (do holding [.str (r i) tr] (assign (.Name xl pl) cenv (.str (l i) tl)); do holding [] (assign (.Name xr pr) cenv (.str (r i) tr)); pure ()) _ _ _
    refine wpAny_bind (wpAny_holding (wpAny_assign_Name (wpAny_storeName_local hl (hn.at' fun o e => k4 _ o (k3 _ o (k2 _ o hCi e))) (fun h5 n5 s5 => ?_) hp)))
    replace s5 : Heap.SameBut cenv.locals h4 h5 := s5
    refine wpAny_bind (wpAny_holding (wpAny_assign_Name (wpAny_storeName_local hr n5 (fun h6 n6 s6 => wpAny_pure ?_) hp)))
    replace s6 : Heap.SameBut cenv.locals h5 h6 := s6
    refine wpAny_bind (wpAny_holding (wpAny_assign_Name (wpAny_storeName_local hv n6 (fun h7 n7 s7 => wpAny_pure ?_) hp)))
    replace s7 : Heap.SameBut cenv.locals h6 h7 := s7
    have k7 : ∀ b o, b ≠ cenv.locals → h2.get? b = some o → h7.get? b = some o := fun b o hb e => s7.extBut b o hb (s6.extBut b o hb (s5.extBut b o hb (k4 _ _ (k3 _ _ e))))
    have up : ∀ b o, b ≠ cenv.locals → b ∉ [it] → s.heap.get? b = some o → h7.get? b = some o := fun b o h1 h2 e => k7 b o h1 (k2 b o (by simpa using h2) e)
    simp only [List.forIn_nil]
    refine wpAny_pure ⟨rfl, fun h => by simp at h, fun _ => ?_⟩
    have K7 := K2.keep (h' := h7) fun b o hb e => k7 b o (fun h => hCf (by
      subst h
      rcases hb with hb | ⟨j, hj, hb⟩
      · rw [← hb]; simp
      · rw [hb]; simp only [List.mem_cons, List.mem_map, List.mem_range]; exact .inr (.inr (.inr ⟨j, hj, rfl⟩)))) e
    have KC7 : h7.IsCell cR (some (.ref rv)) := let ⟨o, e, dd⟩ := KC2; ⟨o, k7 _ _ hCR.symm e, dd⟩
    have D7 : h7.DictOf (PySem.strKind prog w) rv kvs := by
      obtain ⟨o, es, ep', e, q⟩ := hD
      exact ⟨o, es, ep', k7 _ _ (fun h => hCf (h ▸ .tail _ (.tail _ (.head _)))) e, q⟩
    refine wpAny_Tuple ?_
    show wpAny _ _ (spliced [(false, eval (.Subscript (.Name rn a1) (.Name xl a2) a3) cenv), (false, eval (.Subscript (.Name rn b1) (.Name xr b2) b3) cenv), (false, eval (.Name xv c1) cenv)]) _ _ _
    refine Calls.spliced_cons (sub_names (k := l i) (t := tl) hk hrn hrc hdn hcn hl hdl KC7 D7 n7 (by simp [hlr, hlv]) va ?_ hs1)
    refine Calls.spliced_cons (sub_names (k := r i) (t := tr) hk hrn hrc hdn hcn hr hdr KC7 D7 n7 (by simp [hrv]) vb ?_ hs2)
    refine Calls.spliced_cons (name_local (v := .int fv tv) hk hv hdv n7 (by simp) ?_)
    refine Calls.spliced_nil ⟨by rw [sizeLine_eq]; show (3 : Nat) ≤ 16777216; decide, ?_⟩
    have kp : ∀ b o, h7.get? b = some o → (h7.push { cls := .type "tuple", data := .seq [Value.int fa ta, Value.int fb tb, Value.int fv tv].toArray }).get? b = some o := fun b o e => Heap.get?_push_of_some _ e
    have I7 : IsItemIter h7 it d (i + 1) ds.size ep (ds[i].key) (ds[i].val) := k7 _ _ hCi.symm g1
    have d7 : h7.get? d = some od := up _ _ (fun h => hCf (h ▸ .tail _ (.head _))) (by simp only [List.mem_singleton]; exact fun h => hif (h ▸ .head _)) e2
    refine ⟨⟨fun b hb => ?_, _, _, _, rfl, by simp, Heap.get?_push_size _ rfl, ?_⟩, ⟨⟨_, n7.push _⟩, ⟨_, _, kp _ _ I7⟩, ⟨od, kp _ _ d7, e3, e4⟩, K7.keep fun b o _ e => kp b o e, KC7.keeps kp⟩, ⟨_, _, rfl, fun b o h1 h2 e => kp b o (up b o h1 h2 e)⟩⟩
    · rcases List.mem_cons.mp hb with rfl | hb
      · exact ⟨_, kp _ _ I7, by simp, fun _ _ => by simp⟩
      · have nb : b ∉ [it] := by simp only [List.mem_singleton]; exact fun h => hif (h ▸ hb)
        rcases List.mem_cons.mp hb with rfl | hb
        · exact ⟨od, kp _ _ d7, e4, fun h => absurd h nb⟩
        · rcases List.mem_cons.mp hb with rfl | hb
          · obtain ⟨o, es, ep', e, c, _⟩ := D7
            exact ⟨o, kp _ _ e, by rw [c.1]; simp, fun h => absurd h nb⟩
          · obtain ⟨j, hj, rfl⟩ := List.mem_map.mp hb
            obtain ⟨_, tl', tr', n', e⟩ := K7.keys j (List.mem_range.mp hj)
            exact ⟨_, kp _ _ e, by simp, fun h => absurd h nb⟩
    · rw [ef]
      exact Reps.cons rep_mk_int (Reps.cons rep_mk_int (Reps.cons rep_mk_int .nil))
end
end
section
section
variable {x : Cx} {A : Around} {own : Own} {env : Env} {n : Nat} {nm gn : List Str}
theorem TKs.at {K : Type} {mk : K → AV} {B : List Addr} {h : Heap} {es : List (K × AV)} {xs : List (K × Addr × Value)} (r : TKs mk B h es xs) : ∀ {i : Nat} {k : K} {a : AV}, es[i]? = some (k, a) → ∃ b v, xs[i]? = some (k, b, v) ∧ Rep B h (mk k) (.ref b) ∧ Rep B h a v := by
  induction r with
  | nil => intro i k a e; simp at e
  | cons e1 e2 _ ih =>
    intro i k a e
    cases i with
    | zero => simp at e; obtain ⟨rfl, rfl⟩ := e; exact ⟨_, _, rfl, e1, e2⟩
    | succ i => simp at e; obtain ⟨b, v, h1, h2⟩ := ih e; exact ⟨b, v, by simpa using h1, h2⟩
theorem passing_true (m : Nat) : passing (fun _ => true) m 0 = List.range m := by
  unfold passing
  simp
/-- sorted((names[l], names[r], v) for (l, r), v in d.items()) -/
theorem E_sortgen (H : Fm n A env nm gn) (B : BiOk x) (hbad : x.bad = []) {c P : Addr} (T : TabOk x c P) (hc : env.code = .ref c) {sn xl xr xv rn : Str} {np pl pr pv q1 q2 a1 a2 a3 b1 b2 b3 c1 q3 gp p : Pos} {k1 k2 k3 : Nat} {iter : Expr} {scope : Scope} {cR : Addr} {Q : AV → Own → Prop}
    (hy : sn ∈ gn) (g : Glob x.h₀ sn (.builtin "sorted"))
    (hco : scope.isCoroutine = false) (hclos : closureFor scope env = pure [(rn, cR)]) (hcell : ∀ y ∈ scope.names, y.2 ≠ .cell) (h0 : scope.names.lookup (".0" : Str) = some NameKind.local) (hkind : scope.kind = .function)
    (hlr : xl ≠ xr) (hlv : xl ≠ xv) (hrv : xr ≠ xv) (hl : scope.names.lookup xl = some .local) (hr : scope.names.lookup xr = some .local) (hv : scope.names.lookup xv = some .local) (hrn : scope.names.lookup rn = some .free)
    (hdl : (xl == ("__debug__" : Str)) = false) (hdr : (xr == ("__debug__" : Str)) = false) (hdv : (xv == ("__debug__" : Str)) = false) (hdn : (rn == ("__debug__" : Str)) = false) (hcn : (rn == ("__classdict__" : Str)) = false)
    (h : WV x A (eval iter env) own fun va own2 => ∃ (v d rv : Addr) (prs : List (Str × Str × Int)) (names : List (Str × AV)) (num : Str → Int), va = .val (.ref v) ∧ (v, AObj.view "dict_items" d) ∈ own2 ∧ (d, AObj.dictTS (prs.map fun p => ([p.1, p.2.1], AV.int p.2.2))) ∈ x.ro ∧
      (rv, AObj.dictS names) ∈ x.ro ∧ (cR, AObj.cell (.val (.ref rv))) ∈ own2 ∧ prs.length < 64 ∧ (∀ p ∈ prs, lookK names p.1 = some (.int (num p.1)) ∧ lookK names p.2.1 = some (.int (num p.2.1))) ∧
      (∀ k ∈ prs.map (fun p => (num p.1, num p.2.1, p.2.2)), In3 k) ∧ (prs.map fun p => (num p.1, num p.2.1, p.2.2)).Nodup ∧
      ∀ L, Q (.val (.ref L)) ((L, .list ((sort3 (prs.map fun p => (num p.1, num p.2.1, p.2.2))).map tup3)) :: own2))
    (hs : backTo p (starEach [.GeneratorExp (.Tuple [.Subscript (.Name rn a1) (.Name xl a2) a3, .Subscript (.Name rn b1) (.Name xr b2) b3, .Name xv c1] k3 q3) [⟨.Tuple [.Tuple [.Name xl pl, .Name xr pr] k1 q1, .Name xv pv] k2 q2, iter, [], 0⟩] scope gp] env) = [.GeneratorExp (.Tuple [.Subscript (.Name rn a1) (.Name xl a2) a3, .Subscript (.Name rn b1) (.Name xr b2) b3, .Name xv c1] k3 q3) [⟨.Tuple [.Tuple [.Name xl pl, .Name xr pr] k1 q1, .Name xv pv] k2 q2, iter, [], 0⟩] scope gp].map fun e => (false, eval e env) := by with_unfolding_all rfl)
    (hgf : ∀ x, genFold iter env x = pure x := by intro _; with_unfolding_all rfl) 
    (hs1 : ∀ o k, subscripted (.Name xl a2) false o k = operate [o, k] (getItem o k) := by intro _ _; with_unfolding_all rfl) (hs2 : ∀ o k, subscripted (.Name xr b2) false o k = operate [o, k] (getItem o k) := by intro _ _; with_unfolding_all rfl) :
    WV x A (eval (.Call (.Name sn np) [.GeneratorExp (.Tuple [.Subscript (.Name rn a1) (.Name xl a2) a3, .Subscript (.Name rn b1) (.Name xr b2) b3, .Name xv c1] k3 q3) [⟨.Tuple [.Tuple [.Name xl pl, .Name xr pr] k1 q1, .Name xv pv] k2 q2, iter, [], 0⟩] scope gp] [] p) env) own Q := by
  intro s R
  have hh := H.hnd
  refine wpAny_Call_ofName (WP.run (N_glo H hy g (Q := fun a o => a = .val (.builtin "sorted") ∧ o = own) ⟨rfl, rfl⟩) (Step.refl R) fun u s1 own1 S1 _ ⟨a, r1, e, eo⟩ => ?_)
  subst e eo
  rw [hs, rep_val r1]
  refine callWith_of (P := x.K.In) rfl Cle.builtin (evalArgs_of (Calls.spliced_cons ?_))
  refine gen_make H B T hc hco hclos hcell h0 hkind (WP.run h S1 fun vv s2 own2 S2 _ ⟨a2, r2, v, d, rv, prs, names, num, e2, mv, kd, kn, mc, hlen, hnum, hin, hnd, q⟩ => ?_) hgf
  subst e2
  rw [rep_val r2]
  have R2 := S2.rel
  obtain ⟨⟨hsy, od, ds, ep, xs, hod, hex, hdd, hxs, hxn, tk⟩, nd, _⟩ := R2.ro _ kd
  have hod : s2.heap.get? d = some od := hod
  obtain ⟨⟨hsy2, kvs, ep2, hkv, rkv⟩, nrv, orv, erv, crv⟩ := R2.ro _ kn
  have hkv : s2.heap.DictAt (PySem.strKind x.prog x.w) rv kvs ep2 := hkv
  have erv : s2.heap.get? rv = some orv := erv
  obtain ⟨vc, hvc, rvc⟩ := R2.has _ mc
  have hvc : s2.heap.IsCell cR vc := hvc
  have hvc2 : vc = some (.ref rv) := by
    obtain ⟨u, e1, e2⟩ := rvc; rw [e1, rep_val e2]
  subst hvc2
  have hcd : od.cls ≠ .none := by rw [hex.1]; simp
  refine itemsH_iter (R2.has _ mv |> fun ⟨o, e1, e2, _, e3⟩ => ⟨o, e1, e2, e3⟩) hod hdd ?_
  have gr : ∀ b o, s2.heap.get? b = some o → (s2.heap.push { cls := .type "dict_itemiterator", data := .fields #[.none, .bool false, .ref d, .int 0 0, .int ds.size 0, .int ep 0, .none, .none] }).get? b = some o := fun b o e => Heap.get?_push_of_some _ e
  have git := Heap.get?_push_size s2.heap (o := { cls := .type "dict_itemiterator", data := .fields #[.none, .bool false, .ref d, .int 0 0, .int ds.size 0, .int ep 0, .none, .none] }) rfl
  have hit0 := fresh_none s2.heap
  have hszlt : ∀ b o, s2.heap.get? b = some o → b ≠ s2.heap.objs.size := fun b o e h => by rw [h, hit0] at e; cases e
  generalize s2.heap.objs.size = it at git hit0 hszlt
  generalize s2.heap.push _ = h3 at gr git
  have S3 := S2.trans (Step.grow (h' := h3) (tk := s2.toks) R2 gr)
  refine ⟨x, rfl, rfl, rfl, rfl, rfl, own2, S3.rel, ?_⟩
  intro code h5 tk5 C ga eC ea hCa k5 nC gG S5
  have S6 := S3.trans S5
  refine Calls.spliced_nil ⟨S6.rel.kin, ?_⟩
  have hxl := size_of_entries hxs
  have hpl := tk.length
  rw [List.length_map] at hpl
  have hds : ds.size = prs.length := by omega
  let pd : Str × Str × Int := (⟨#[]⟩, ⟨#[]⟩, 0)
  let ka : Nat → Addr := fun j => (xs.getD j (([] : List Str), (0 : Addr), Value.none)).2.1
  let l : Nat → Str := fun j => (prs.getD j pd).1
  let r : Nat → Str := fun j => (prs.getD j pd).2.1
  let f : Nat → List Int := fun j => [num (prs.getD j pd).1, num (prs.getD j pd).2.1, (prs.getD j pd).2.2]
  have each : ∀ j, j < ds.size → ∃ p b w, prs[j]? = some p ∧ prs.getD j pd = p ∧ ka j = b ∧ ds.getD j default = entryOfKey (tupleKind (PySem.strKind x.prog x.w)) ([p.1, p.2.1], b, w) ∧ Rep x.bad s2.heap (.tup [.str p.1, .str p.2.1]) (.ref b) ∧ Rep x.bad s2.heap (.int p.2.2) w := by
    intro j hj
    have hj2 : j < prs.length := by omega
    obtain ⟨b, w, e1, e2, e3⟩ := tk.at (i := j) (k := [prs[j].1, prs[j].2.1]) (a := .int prs[j].2.2) (by rw [List.getElem?_map, List.getElem?_eq_getElem hj2]; rfl)
    refine ⟨prs[j], b, w, List.getElem?_eq_getElem hj2, by rw [List.getD_eq_getElem?_getD, List.getElem?_eq_getElem hj2]; rfl, ?_, ?_, e2, e3⟩
    · show (xs.getD j _).2.1 = b
      rw [List.getD_eq_getElem?_getD, e1]; rfl
    · rw [Array.getD_eq_getD_getElem?, entry_at hxs, e1]; rfl
  have K0 : ItOk x.prog x.w s2.heap rv ds l r f ka := by
    refine ⟨⟨kvs, hkv.dictOf, fun j hj => ?_⟩, fun j hj => ?_⟩
    · obtain ⟨p, b, w, e1, e2, e3, e4, e5, e6⟩ := each j hj
      have hp : p ∈ prs := List.mem_of_getElem? e1
      obtain ⟨n1, n2⟩ := hnum p hp
      have w1 := rkv.look p.1
      have w2 := rkv.look p.2.1
      rw [n1] at w1
      rw [n2] at w2
      obtain ⟨v1, w1, w3⟩ := w1
      obtain ⟨v2, w2, w4⟩ := w2
      obtain ⟨t1, rfl⟩ := rep_int w3
      obtain ⟨t2, rfl⟩ := rep_int w4
      obtain ⟨t3, rfl⟩ := rep_int e6
      refine ⟨num p.1, num p.2.1, p.2.2, ?_, ?_, ?_, ?_⟩
      · show [num (prs.getD j pd).1, num (prs.getD j pd).2.1, (prs.getD j pd).2.2] = _
        rw [e2]
      · show ∃ t, valueAt kvs (prs.getD j pd).1 = _
        rw [e2]; exact ⟨t1, w1⟩
      · show ∃ t, valueAt kvs (prs.getD j pd).2.1 = _
        rw [e2]; exact ⟨t2, w2⟩
      · rw [e4]; exact ⟨t3, rfl⟩
    · obtain ⟨p, b, w, e1, e2, e3, e4, e5, e6⟩ := each j hj
      obtain ⟨a, vs, nn, e7, _, e8, e9⟩ := rep_tup e5
      cases e7
      obtain ⟨u1, u2, e10, r1, r2⟩ := reps2 e9
      obtain ⟨t1, rfl⟩ := rep_str r1
      obtain ⟨t2, rfl⟩ := rep_str r2
      have e11 : vs = #[.str p.1 t1, .str p.2.1 t2] := by
        apply Array.ext'; rw [e10]
      refine ⟨?_, t1, t2, nn, ?_⟩
      · rw [e3, e4]; rfl
      · show s2.heap.get? (ka j) = some { cls := .type "tuple", data := .seq #[.str (prs.getD j pd).1 t1, .str (prs.getD j pd).2.1 t2] nn }
        rw [e3, e2, e8, e11]
  have live : ∀ b ∈ (d :: rv :: (List.range ds.size).map ka : List Addr), ∃ o, s2.heap.get? b = some o ∧ o.cls ≠ .none ∧ b ∉ addrs own2 := fun b hb => by
    rcases List.mem_cons.mp hb with rfl | hb
    · exact ⟨_, hod, hcd, nd⟩
    rcases List.mem_cons.mp hb with rfl | hb
    · exact ⟨_, erv, crv, nrv⟩
    obtain ⟨j, hj, rfl⟩ := List.mem_map.mp hb
    obtain ⟨_, tl, tr, nn, e⟩ := K0.keys j (List.mem_range.mp hj)
    refine ⟨_, e, by simp, fun hm => ?_⟩
    obtain ⟨p, hp, ep⟩ := List.mem_map.mp hm
    exact (R2.has p hp).notTup (ep ▸ e)
  have noIt : it ∉ addrs own2 := fun hm => by
    obtain ⟨p, hp, ep⟩ := List.mem_map.mp hm
    obtain ⟨o, e⟩ := (R2.has p hp).there
    have ep : p.1 = it := ep
    rw [ep, hit0] at e; cases e
  have keep5 : ∀ b o, h3.get? b = some o → o.cls ≠ .none → b ∉ addrs own2 → h5.get? b = some o := fun b o e c hn => S5.ext b o e c hn
  have git5 := keep5 it _ git (by simp) noIt
  have hod5 := keep5 d _ (gr _ _ hod) hcd nd
  have K5 : ItOk x.prog x.w h5 rv ds l r f ka := by
    refine K0.keep fun b o hb e => ?_
    obtain ⟨o', e', c, hn⟩ := live b (by
      rcases hb with rfl | ⟨j, hj, rfl⟩
      · simp
      · simp only [List.mem_cons, List.mem_map, List.mem_range]
        exact .inr (.inr ⟨j, hj, rfl⟩))
    rw [e] at e'; cases e'
    exact keep5 b o (gr _ _ e) c hn
  obtain ⟨vc5, hvc5, rvc5⟩ := S6.rel.has _ mc
  have hvc5 : h5.IsCell cR vc5 := hvc5
  have hvc6 : vc5 = some (.ref rv) := by
    obtain ⟨u, e1, e2⟩ := rvc5; rw [e1, rep_val e2]
  subst hvc6
  have hC0 : ∀ b ∈ (it :: d :: rv :: (List.range ds.size).map ka : List Addr), ∃ o, h3.get? b = some o := fun b hb => by
    rcases List.mem_cons.mp hb with rfl | hb
    · exact ⟨_, git⟩
    · obtain ⟨o, e, _⟩ := live b hb; exact ⟨o, gr _ _ e⟩
  have CF : C ∉ (it :: d :: rv :: (List.range ds.size).map ka : List Addr) := fun hm => by
    obtain ⟨o, e⟩ := hC0 C hm
    have eC : h3.get? C = none := eC
    rw [e] at eC; cases eC
  have GF : ga ∉ (it :: d :: rv :: (List.range ds.size).map ka : List Addr) := fun hm => by
    obtain ⟨o, e⟩ := hC0 ga hm
    have ea : h3.get? ga = none := ea
    rw [e] at ea; cases ea
  have IF : it ∉ (d :: rv :: (List.range ds.size).map ka : List Addr) := fun hm => by
    obtain ⟨o, e, _⟩ := live it hm
    rw [hit0] at e; cases e
  have cell2 : ∃ o, s2.heap.get? cR = some o := let ⟨o, e, _⟩ := hvc; ⟨o, e⟩
  have CR : C ≠ cR := fun h => by
    obtain ⟨o, e⟩ := cell2
    have eC : h3.get? C = none := eC
    rw [h, gr _ _ e] at eC; cases eC
  have IR : it ≠ cR := fun h => by
    obtain ⟨o, e⟩ := cell2
    exact hszlt _ _ e h.symm
  have TT := turn_items (prog := x.prog) (w := x.w) (cenv := genEnv scope [(rn, cR)] C code builtinsNs env) (xl := xl) (xr := xr) (xv := xv) (rn := rn) (pl := pl) (pr := pr) (pv := pv) (q1 := q1) (q2 := q2) (a1 := a1) (a2 := a2) (a3 := a3) (b1 := b1) (b2 := b2) (b3 := b3) (c1 := c1) (q3 := q3) (k1 := k1) (k2 := k2) (k3 := k3) (it := it) (d := d) (cR := cR) (rv := rv) (ep := ep) (ds := ds) (l := l) (r := r) (f := f) (ka := ka)
    hlr hlv hrv hl hr hv hrn (by simp [genEnv]) hdl hdr hdv hdn hcn hkind CF IF CR IR hs1 hs2
  have hbd : ∀ b : Addr, b ∉ x.bad := fun b => by rw [hbad]; simp
  have stC : (fun i h => (∃ m, h.Ns C m) ∧ (∃ ok ov, IsItemIter h it d i ds.size ep ok ov) ∧ (∃ od, h.get? d = some od ∧ od.data = .dict ds ep ∧ od.cls ≠ .none) ∧ ItOk x.prog x.w h rv ds l r f ka ∧ h.IsCell cR (some (.ref rv))) 0 h5 :=
    ⟨⟨_, nC⟩, ⟨_, _, git5⟩, ⟨od, hod5, hdd, hcd⟩, K5, hvc5⟩
  have GG := GenAtH.fresh (A := A.in1.in1) hh TT hco (s := { s2 with heap := h5, gens := s2.gens.push (.fresh (.compStart (.GeneratorExp (.Tuple [.Subscript (.Name rn a1) (.Name xl a2) a3, .Subscript (.Name rn b1) (.Name xr b2) b3, .Name xv c1] k3 q3) [⟨.Tuple [.Tuple [.Name xl pl, .Name xr pr] k1 q1, .Name xv pv] k2 q2, iter, [], 0⟩] scope gp) 0 (.ref it) .none (genEnv scope [(rn, cR)] C code builtinsNs env))), toks := tk5 }) (a := ga) (g := s2.gens.size)
    (let ⟨nm, qn, e⟩ := gG; ⟨_, nm, qn, e, rfl, rfl, rfl⟩) (Array.getElem?_push_size ..) stC
  have sN : ∀ b, h3.get? b = none → s2.heap.get? b = none ∧ s.heap.get? b = none ∧ x.h₀.get? b = none ∧ (∀ p ∈ x.ro, p.1 ≠ b) ∧ b ∉ addrs own2 := fun b hb => by
    have h2 : s2.heap.get? b = none := by
      cases e : s2.heap.get? b with
      | none => rfl
      | some o => rw [gr _ _ e] at hb; cases hb
    refine ⟨h2, ?_, ?_, fun q hq e => ?_, fun hm => ?_⟩
    · cases e : s.heap.get? b with
      | none => rfl
      | some o => obtain ⟨o', e'⟩ := S2.there _ _ e; rw [h2] at e'; cases e'
    · cases e : x.h₀.get? b with
      | none => rfl
      | some o => obtain ⟨o', e'⟩ := R2.old.there _ _ e; rw [h2] at e'; cases e'
    · obtain ⟨_, _, o, eo, _⟩ := R2.ro q hq
      rw [e, h2] at eo; cases eo
    · obtain ⟨q, hq, e⟩ := List.mem_map.mp hm
      obtain ⟨o, eo⟩ := (R2.has q hq).there
      have e : q.1 = b := e
      rw [e, h2] at eo; cases eo
  have it0 : s.heap.get? it = none ∧ x.h₀.get? it = none ∧ (∀ p ∈ x.ro, p.1 ≠ it) := by
    refine ⟨?_, ?_, fun q hq e => ?_⟩
    · cases e : s.heap.get? it with
      | none => rfl
      | some o => obtain ⟨o', e'⟩ := S2.there _ _ e; rw [hit0] at e'; cases e'
    · cases e : x.h₀.get? it with
      | none => rfl
      | some o => obtain ⟨o', e'⟩ := R2.old.there _ _ e; rw [hit0] at e'; cases e'
    · obtain ⟨_, _, o, eo, _⟩ := R2.ro q hq
      rw [e, hit0] at eo; cases eo
  have sC := sN C eC
  have sA := sN ga ea
  refine PySem.Calls.call_function_entry PyProof.Rows.kind_sorted PyProof.Rows.plain_sorted PyProof.Rows.entry_sorted (PyProof.Rows.args_sorted1 _) ?_
  unfold Builtin.«sorted»
  refine wpAny_bind (m := checkCount "sorted" 1 1 _) (wpAny_pure ?_)
  have hCY : ∀ h : Heap, (∀ p ∈ own2, Has x.prog x.w x.bad h p.1 p.2) → h.IsCell cR (some (.ref rv)) := fun h hp => by
    obtain ⟨v, e, u, e1, e2⟩ := hp _ mc
    rw [e1, rep_val e2] at e
    exact e
  refine wpAny_bind (collect_gen (A := A.in1) (x := x) (own := own2) (own₀ := own1) (s₀ := s) (pz := fun _ => true) (n₀ := ds.size) (C := C) (fp := it :: d :: rv :: (List.range ds.size).map ka) (wr := [it]) (f := f) (Y := fun h => h.IsCell cR (some (.ref rv))) (g := s2.gens.size) hCY hh (by have := H.dep; exact Nat.lt_of_le_of_lt (Nat.le_add_right _ _) this) hCa.symm (fun hm => GF (by simp only [List.mem_singleton] at hm; exact hm ▸ .head _)) (fun b hb => by simp only [List.mem_singleton] at hb; exact hb ▸ .head _) CF GF ?_ (fun b hb => ?_) S6 ?_ ⟨_, nC⟩ (fun b hb => ?_) ?_ fun s7 vs7 S7 r7 => ?_)
  · rw [passing_true, List.length_range]; omega
  · rcases List.mem_cons.mp hb with rfl | hb
    · exact ⟨sC.2.1, sC.2.2.1, sC.2.2.2.1⟩
    · simp only [List.mem_singleton] at hb; subst hb
      exact it0
  · rw [hbad]
    intro b hb
    rcases List.mem_cons.mp hb with rfl | hb
    · exact ⟨_, git5, by simp, fun _ _ => by simp⟩
    · obtain ⟨o, e, c, hn⟩ := live b hb
      refine ⟨o, keep5 b o (gr _ _ e) c hn, c, fun hm => ?_⟩
      simp only [List.mem_singleton] at hm
      exact absurd (hm ▸ hb) IF
  · rcases List.mem_cons.mp hb with rfl | hb
    · exact sA.2.2.2.2
    rcases List.mem_cons.mp hb with rfl | hb
    · exact sC.2.2.2.2
    rcases List.mem_cons.mp hb with rfl | hb
    · exact noIt
    obtain ⟨o, e, c, hn⟩ := live b hb
    exact hn
  · rw [hbad]; exact GG
  · have eks : ((passing (fun _ => true) ds.size 0).map fun i => AV.tup ((f i).map .int)) = (prs.map fun p => (num p.1, num p.2.1, p.2.2)).map tup3 := by
      rw [passing_true, hds]
      conv => rhs; rw [← range_map prs pd]
      rw [List.map_map, List.map_map]
      rfl
    rw [eks] at r7
    have hl7 := r7.length
    rw [List.length_map, List.length_map] at hl7
    refine wpAny_bind (wpAny_newList ?_ (by rw [← hl7, sizeLine_eq]; omega))
    have S8 := S7.trans (Step.new (tk := s7.toks) (o := .list ((prs.map fun p => (num p.1, num p.2.1, p.2.2)).map tup3)) S7.rel (fun b o e => Heap.get?_push_of_some { cls := .type "list", data := .seq vs7.toArray } e) (fresh_none _) ⟨vs7.toArray, ⟨_, Heap.get?_push_size _ rfl⟩, by
      rw [List.toList_toArray]
      exact Reps.mono (fun b us m _ e => Heap.get?_push_of_some _ e) _ _ r7⟩)
    refine wpAny_bind (wpAny_holding (sort_tree3 (own := _ :: own2) (own' := _ :: own2) hbad S8.rel .z hin hnd (by rw [List.length_map]; exact hlen) fun h9 tk9 S9 => ?_))
    exact wpAny_pure ⟨_, rfl, _, S8.trans S9, _, rep_mk_val, q _⟩
end
end
section
section
variable {prog : Program} {w : World} {A : Around} {E : Value → Shared → Prop} {s : Shared}
theorem draw_list {it t : Addr} {items : Array Value} (hne : t ≠ it) : ∀ (n i : Nat) (s : Shared) (Q : List Value → Shared → Prop), s.heap.IsListIter it t i → s.heap.IsList t items → i + n ≤ items.size →
    (∀ h', h'.IsListIter it t (i + n) → Heap.SameBut it s.heap h' → Q ((items.toList.drop i).take n) { s with heap := h' }) → wpAny (model prog w) A (draw (.ref it) n) Q E s
  | 0, i, s, Q, hit, _, _, hQ => by
    show wpAny _ _ (pure []) Q E s
    exact wpAny_pure (by simpa using hQ s.heap hit (Heap.SameBut.refl ..))
  | n + 1, i, s, Q, hit, ht, hle, hQ => by
    have hlt : i < items.size := by omega
    show wpAny _ _ (pyNext (.ref it) >>= _) Q E s
    refine wpAny_bind (wpAny_pyNext_list_item hit ht (x := items[i]) (by simp [hlt]) fun h₁ hit₁ hs₁ => ?_)
    refine wpAny_bind (wpAny_holding (draw_list hne n (i + 1) _ _ hit₁ (ht.extBut hs₁.extBut hne) (by omega) fun h₂ hit₂ hs₂ => wpAny_pure ?_))
    have hd : items.toList.drop i = items[i] :: items.toList.drop (i + 1) := by simp [List.drop_eq_getElem_cons, hlt]
    have := hQ h₂ (by rw [show i + (n + 1) = i + 1 + n by omega]; exact hit₂) (hs₁.trans hs₂)
    rw [hd, List.take_succ_cons] at this
    exact this
theorem unpackItems_list {t : Addr} {items : Array Value} {Q : List Value → Shared → Prop} (hh : A.handled = none) (ht : s.heap.IsList t items)
    (hQ : ∀ h', Heap.ExtBut s.heap.objs.size s.heap h' → Q items.toList { s with heap := h' }) : wpAny (model prog w) A (unpackItems (.ref t) items.size none) Q E s := by
  have hlt : t ≠ s.heap.objs.size := by obtain ⟨o, ho, _⟩ := ht; exact Nat.ne_of_lt (Heap.lt_size ho)
  have pushL : ∀ o, (s.heap.push o).IsList t items := fun o => ht.at fun ob e => Heap.get?_push_of_some o e
  unfold unpackItems
  refine wpAny_bind ?_
  · unfold notIterableAtAll
    refine wpAny_bind (wpAny_specialOf ht.typeIs slot_list_iter.lookup ?_)
    refine wpAny_pure ?_
    simp only [Bool.false_eq_true, if_false]
    refine wpAny_bind (wpAny_holding (wpAny_pyIter_list ht ?_))
    refine wpAny_bind (wpAny_holding (draw_list hlt items.size 0 _ _ ⟨_, Heap.get?_push_size _ rfl, rfl, rfl⟩ (pushL _) (by omega) fun h₁ hit₁ hs₁ => ?_))
    have hall : List.take items.size (List.drop 0 items.toList) = items.toList := by
      rw [List.drop_zero]; exact List.take_of_length_le (by simp)
    rw [hall]
    rw [if_neg (by simp)]
    have ht₁ : h₁.IsList t items := (pushL _).extBut hs₁.extBut hlt
    refine wpAny_bind (wpAny_holding (wpAny_pyNext_list_end hh hit₁ ht₁ (by simp) fun h₂ he₂ => ?_))
    simp only [Option.isSome_none, Bool.false_eq_true, if_false]
    refine wpAny_pure (hQ h₂ fun b o hb e => he₂ b o hb (hs₁.extBut b o hb (Heap.get?_push_of_some _ e)))
end
section
variable {x : Cx} {A : Around} {own : Own} {env : Env} {n : Nat} {nm gn : List Str} {Q : AV → Own → Prop}
/-- a list, taken apart -/
theorem A_lst (H : Fm n A env nm gn) {ts : List Expr} {k : Nat} {p : Pos} {l : Addr} {as : List AV} {K : Own → Prop} (kn : Kn x own (l, .list as)) (h : WAs x A env ts as own K)
    (he : assignEach ts env = ts.map fun t => (false, assign t env)) (hl : ts.length = as.length) : WA x A env (.Tuple ts k p) (.val (.ref l)) own K := fun v s R r => by
  rw [rep_val r]
  obtain ⟨vs, pl, rs⟩ := R.kn kn
  have pl : s.heap.PlainList l vs := pl
  rw [arm_assign_Tuple]
  refine wpAny_bind (wpAny_standAt ?_)
  have hn : (assignEach ts env).length = vs.size := by rw [he, List.length_map, hl, rs.length, Array.length_toList]
  have hst : (assignEach ts env).findIdx? (·.1) = none := by rw [he]; clear h he hl hn; induction ts <;> simp_all
  unfold unpack
  rw [hn, hst]
  refine wpAny_bind (wpAny_holding (unpackItems_list H.hnd pl.isList fun h' hx => ?_))
  have S : Step x own s own { s with heap := h', toks := s.toks } := Step.grow R fun b o eb => hx b o (fun q => by subst q; rw [fresh_none] at eb; cases eb) eb
  have e2 : (assignEach ts env).map (·.2) = ts.map fun t => assign t env := by rw [he, List.map_map]; rfl
  show wpAny _ _ (assignInOrder (List.map (fun y => y.2) (assignEach ts env)) vs.toList) _ _ { s with heap := h', toks := s.toks }
  rw [e2]
  exact wpAny_mono (h.run S.rel (Reps.mono (S.tup R) _ _ rs)) (fun _ s2 ⟨own2, S2, k⟩ => ⟨own2, S.trans S2, k⟩) fun _ _ f => f
/-- more on ints -/
theorem O_isub {a b : Int} (q : Q (.int (a - b)) own) : WO x A (iop .Sub) [.int a, .int b] own Q := fun vs s R r => by
  obtain ⟨u, v, rfl, r1, r2⟩ := reps2 r; obtain ⟨t, rfl⟩ := rep_int r1; obtain ⟨t', rfl⟩ := rep_int r2
  exact PyProof.Rows.isub_int ⟨own, Step.toks R, _, rep_mk_int, q⟩
theorem O_iand {a b : Int} (q : Q (.int (PySem.Builtin.bitAnd a b)) own) : WO x A (iop .BitAnd) [.int a, .int b] own Q := fun vs s R r => by
  obtain ⟨u, v, rfl, r1, r2⟩ := reps2 r; obtain ⟨t, rfl⟩ := rep_int r1; obtain ⟨t', rfl⟩ := rep_int r2
  exact iand_int ⟨own, Step.toks R, _, rep_mk_int, q⟩
theorem U_neg {a : Int} (q : Q (.int (-a)) own) : WO x A (uop .USub) [.int a] own Q := fun vs s R r => by
  obtain ⟨u, rfl, r1⟩ := reps1 r; obtain ⟨t, rfl⟩ := rep_int r1
  exact PyProof.Rows.neg_int ⟨own, Step.toks R, _, rep_mk_int, q⟩
/-- a chain of two tests -/
theorem T_cmp2 {l r1 r2 : Expr} {op op' : CmpOp} {p : Pos} {w : Sem Value} {Q : Bool → Own → Prop}
    (h : WV x A (eval l env) own fun a own1 => WV x A (eval r1 env) own1 fun b own2 => WC x A op a b own2 fun c own3 => IfB c (WV x A (eval r2 env) own3 fun d own4 => WC x A op' b d own4 Q) (Q false own3))
    (hm : lastMarks [op, op'] [r1, r2] = false := by with_unfolding_all rfl) : WB x A (isTrue (.Compare l [op, op'] [r1, r2] p) env w) own Q := fun s R => by
  refine isTrue_chain (h.run (Step.refl R) fun v1 s1 own1 S1 k1 ⟨a, ra, h1⟩ => test_link (h1.run S1 fun v2 s2 own2 S2 k2 ⟨b, rb, h2⟩ =>
    wpAny_mono (h2 [v1, v2] s2 S2.rel (Reps.cons (Rep.mono k2 _ _ ra) (Reps.cons rb .nil))) (fun v s3 ⟨own3, S3, c, rc, t, e, q⟩ => ?_) fun _ _ f => f)) hm
  subst e
  rw [rep_val rc]
  refine wpAny_truthy_bool ?_
  cases t with
  | false => exact ⟨own3, S2.trans S3, q⟩
  | true =>
    have k3 := S3.tup S2.rel
    refine PyProof.Rows.test_last (WP.run q (S2.trans S3) fun v4 s4 own4 S4 k4 ⟨d, rd, h4⟩ => ?_)
    refine wpAny_mono (h4 [v2, v4] s4 S4.rel (Reps.cons (Rep.mono k4 _ _ (Rep.mono k3 _ _ rb)) (Reps.cons rd .nil))) (fun v s5 ⟨own5, S5, c, rc, t, e, q5⟩ => ?_) fun _ _ f => f
    subst e
    rw [rep_val rc]
    exact wpAny_truthy_bool ⟨own5, S4.trans S5, q5⟩
/-- a comparison's value -/
theorem V_cmp {l r : Expr} {op : CmpOp} {p : Pos} (h : WV x A (eval l env) own fun a own1 => WV x A (eval r env) own1 fun b own2 => WC x A op a b own2 fun c own3 => Q (.val (.bool c)) own3)
    (hm : behindInMarks op r = false := by with_unfolding_all rfl) : WV x A (eval (.Compare l [op] [r] p) env) own Q :=
  E_cmp (WV.mono h fun a own1 h1 => WV.mono h1 fun b own2 h2 vs s R r => wpAny_mono (h2 vs s R r) (fun v s' ⟨own', S, av, ra, t, e, q⟩ => ⟨own', S, av, ra, e ▸ q⟩) fun _ _ f => f) hm
theorem V_and {e1 e2 : Expr} {p : Pos} (h : WV x A (eval e1 env) own fun a own1 => ∃ b, a = .val (.bool b) ∧ IfB b (WV x A (eval e2 env) own1 Q) (Q a own1)) : WV x A (eval (.BoolOp .And [e1, e2] p) env) own Q := fun s R => by
  refine BoolOp_and (WP.run h (Step.refl R) fun v s1 own1 S1 k1 ⟨a, ra, b, e, hb⟩ => ?_)
  subst e
  rw [rep_val ra]
  refine wpAny_truthy_bool ?_
  cases b with
  | false => exact ⟨own1, S1, _, rep_mk_val, hb⟩
  | true => exact BoolOp_one (WP.run hb S1 fun v2 s2 own2 S2 k2 ⟨a2, r2, q⟩ => ⟨own2, S2, a2, r2, q⟩)
theorem V_or {e1 e2 : Expr} {p : Pos} (h : WV x A (eval e1 env) own fun a own1 => ∃ b, a = .val (.bool b) ∧ IfB b (Q a own1) (WV x A (eval e2 env) own1 Q)) : WV x A (eval (.BoolOp .Or [e1, e2] p) env) own Q := fun s R => by
  refine BoolOp_or (WP.run h (Step.refl R) fun v s1 own1 S1 k1 ⟨a, ra, b, e, hb⟩ => ?_)
  subst e
  rw [rep_val ra]
  refine wpAny_truthy_bool ?_
  cases b with
  | true => exact ⟨own1, S1, _, rep_mk_val, hb⟩
  | false => exact BoolOp_one (WP.run hb S1 fun v2 s2 own2 S2 k2 ⟨a2, r2, q⟩ => ⟨own2, S2, a2, r2, q⟩)
/-- try, nothing raised -/
theorem S_try {body orelse : List Stmt} {h₀ : ExceptHandler} {hs : List ExceptHandler} {p : Pos} {Q : AFlow → Own → Prop} (h : WS x A (execs body env) own fun f own1 => match f with
    | .next => WS x A (execs orelse env) own1 Q
    | f => Q f own1) : WS x A (exec (.Try body (h₀ :: hs) orelse [] p) env) own Q := fun s R => by
  refine wpAny_Try_except (WP.run h (Step.refl R) fun f s1 own1 S1 k1 ⟨af, rf, q⟩ => ?_)
  cases af with
  | next =>
    obtain rfl := rf
    exact WP.run q S1 fun f s2 own2 S2 k2 ⟨af, rf, q⟩ => ⟨own2, S2, af, rf, q⟩
  | brk => obtain rfl := rf; exact ⟨own1, S1, .brk, rfl, q⟩
  | cont => obtain rfl := rf; exact ⟨own1, S1, .cont, rfl, q⟩
  | ret v => obtain ⟨u, rfl, ru⟩ := rf; exact ⟨own1, S1, .ret v, ⟨u, rfl, ru⟩, q⟩
/-- iter, next -/
theorem C_iter {l : Addr} {xs : List AV} (kn : Kn x own (l, .list xs)) (q : ∀ I, Q (.val (.ref I)) ((I, .iter l 0) :: own)) : WO x A (callv (.builtin "iter")) [.val (.ref l)] own Q := fun vs s R r => by
  obtain ⟨u, rfl, r1⟩ := reps1 r
  rw [rep_val r1]
  obtain ⟨ws, pl, rs⟩ := R.kn kn
  have pl : s.heap.PlainList l ws := pl
  refine PySem.Calls.call_function_entry (by decide +kernel) (by decide +kernel) PySem.W.kdk_entry_iter (PySem.W.kdk_args_iter _) ?_
  unfold Builtin.«iter»
  refine wpAny_bind (m := someArgs "iter" 1 2 _) (wpAny_of_eq (a := [Value.ref l]) (by first | rfl | kernel_rfl!) ?_)
  show wpAny _ _ (pyIter (.ref l) >>= _) _ _ _
  refine wpAny_bind (wpAny_pyIter_list pl.isList ?_)
  exact wpAny_pure ⟨_, rfl, _, Step.new (tk := s.toks) R (fun b o e => Heap.get?_push_of_some _ e) (fresh_none _) (o := .iter l 0) ⟨_, Heap.get?_push_size _ rfl, rfl, rfl⟩, _, rep_mk_val, q _⟩
theorem special_next {s : Shared} {it l : Addr} {i : Nat} {items : Array Value} {v : Value} {Q : Option Value → Shared → Prop} {E : Value → Shared → Prop} (hit : s.heap.IsListIter it l i) (hl : s.heap.IsList l items) (hx : items[i]? = some v)
    (hQ : ∀ h', h'.IsListIter it l (i + 1) → Heap.SameBut it s.heap h' → Q (some v) { s with heap := h' }) : wpAny (model x.prog x.w) A (callSpecial? (.ref it) (Str.ofString "__next__")) Q E s := by
  obtain ⟨o, ho, hc, hd⟩ := id hit
  obtain ⟨ol, hol, _, nl, hdl⟩ := hl
  refine wpAny_callSpecial?_slot (name := Str.ofString "__next__") hit.typeIs slot_listiter_next (wpAny_call_entry slot_listiter_next hit.typeIs entry_listiter_next ?_ (args_listiter_next _))
  show wpAny _ _ (field (.ref it) 0 >>= _) _ _ s
  refine wpAny_bind (wpAny_field ho hd (x := .ref l) rfl ?_)
  show wpAny _ _ (if (Value.ref l == Value.none) = true then _ else _) _ _ s
  rw [if_neg (show ¬ ((Value.ref l == Value.none) = true) from Bool.false_ne_true)]
  show wpAny _ _ (field (.ref it) 1 >>= _) _ _ s
  refine wpAny_bind (wpAny_field ho hd (x := .int i 0) rfl ?_)
  show wpAny _ _ (seqItems? (.ref l) >>= _) _ _ s
  refine wpAny_bind (wpAny_seqItems hol hdl ?_)
  simp only [Int.toNat_natCast, hx]
  refine wpAny_bind (wpAny_setField ho hd (by simp) (wpAny_pure ⟨v, rfl, hQ _ ?_ (Heap.SameBut.update ..)⟩))
  exact ⟨_, Heap.get?_update_self _ ho (Obj.isFreed_of_fields (Obj.data_mapFields hd _)), (Obj.cls_mapFields ..).trans hc, by
    rw [Obj.data_mapFields hd]; simp [rawInt]⟩
theorem C_next {I l : Addr} {i : Nat} {xs : List AV} {a : AV} {own' : Own} (kn : Kn x own (l, .list xs)) (e : xs[i]? = some a) (u : Upd I (.iter l i) (.iter l (i + 1)) own own') (q : Q a own') : WO x A (callv (.builtin "next")) [.val (.ref I)] own Q := fun vs s R r => by
  obtain ⟨u1, rfl, r1⟩ := reps1 r
  rw [rep_val r1]
  obtain ⟨ws, pl, rs⟩ := R.kn kn
  have pl : s.heap.PlainList l ws := pl
  have hit : s.heap.IsListIter I l i := R.has _ u.mem
  obtain ⟨v, ev, rv⟩ := rs.get e
  have ev : ws[i]? = some v := by rw [← Array.getElem?_toList]; exact ev
  refine PySem.Calls.call_function_entry (by decide +kernel) (by decide +kernel) PySem.W.kdk_entry_next (PySem.W.kdk_args_next _) ?_
  unfold Builtin.«next»
  refine wpAny_bind (m := someArgs "next" 1 2 _) (wpAny_of_eq (a := [Value.ref I]) (by first | rfl | kernel_rfl!) ?_)
  dsimp only
  refine wpAny_bind (wpAny_specialOf (name := Str.ofString "__next__") hit.typeIs slot_listiter_next.lookup ?_)
  refine wpAny_ite_split (fun hab => absurd hab (by decide)) (fun _ => ?_)
  refine wpAny_bind (special_next hit pl.isList ev fun h' hit' hs' => ?_)
  have S := Step.upd (tk := s.toks) R u (fun b o hb eb => hs'.extBut b o hb eb) hit'
  exact wpAny_pure ⟨_, rfl, own', S, a, Rep.mono (S.tup R) _ _ rv, q⟩
/-- all(list of bools) -/
theorem C_all {l : Addr} {bs : List Bool} (hh : A.handled = none) (kn : Kn x own (l, .list (bs.map fun b => .val (.bool b)))) (q : Q (.val (.bool (bs.all id))) own) : WO x A (callv (.builtin "all")) [.val (.ref l)] own Q := fun vs s R r => by
  obtain ⟨u1, rfl, r1⟩ := reps1 r
  rw [rep_val r1]
  obtain ⟨ws, pl, rs⟩ := R.kn kn
  have pl : s.heap.PlainList l ws := pl
  have hl := rs.length
  rw [List.length_map] at hl
  have hit0 := fresh_none s.heap
  have ne : l ≠ s.heap.objs.size := by obtain ⟨k, e⟩ := pl; exact Nat.ne_of_lt (Heap.lt_size e)
  refine call_all_walk (wpAny_pyIter_list pl.isList ?_)
  refine ⟨_, _, _, _, _, _, fun i => bs.getD i true, rfl, Walks.list (A := A.in1) hh s.heap.objs.size l ne ws, ⟨⟨_, Heap.get?_push_size _ rfl, rfl, rfl⟩, pl.isList.at fun o e => Heap.get?_push_of_some _ e⟩, ?_, fun h' tk hk => ?_⟩
  · intro i v s Q E hP hq
    have hP : ws[i]? = some v := hP
    obtain ⟨a, ea, ra⟩ := rs.at (i := i) (v := v) (by rw [Array.getElem?_toList]; exact hP)
    rw [List.getElem?_map] at ea
    cases eb : bs[i]? with
    | none => rw [eb] at ea; simp at ea
    | some b =>
      rw [eb] at ea
      simp at ea
      subst ea
      rw [rep_val ra]
      refine wpAny_truthy_bool ?_
      have hq : Q (bs.getD i true) s := hq
      rw [List.getD_eq_getElem?_getD, eb] at hq
      exact hq
  · have e : (List.range ws.size).all (fun i => bs.getD i true) = bs.all id := by
      rw [← Array.length_toList, ← hl, Bool.eq_iff_iff, List.all_eq_true, List.all_eq_true]
      constructor
      · intro h b hb
        obtain ⟨i, hi, e⟩ := List.getElem_of_mem hb
        have := h i (List.mem_range.mpr hi)
        rw [List.getD_eq_getElem?_getD, List.getElem?_eq_getElem hi] at this
        rw [← e]; exact this
      · intro h i hi
        have hi := List.mem_range.mp hi
        rw [List.getD_eq_getElem?_getD, List.getElem?_eq_getElem hi]
        exact h _ (List.getElem_mem hi)
    rw [e]
    refine ⟨own, Step.grow (tk := tk) (h' := h') R (fun b o eb => hk b o (fun hm => ?_) (Heap.get?_push_of_some _ eb)), _, rep_mk_val, q⟩
    rw [List.mem_singleton.mp hm, hit0] at eb; cases eb
end
end
section
theorem NsRep.anys {B : List Addr} {h : Heap} {f : Str → Option Value} : ∀ (ts : List Str), NsRep B h f ts (ts.map fun _ => .any)
  | [] => .nil
  | _ :: ts => .any (NsRep.anys ts)
theorem setAt_ex (v : AV) : ∀ {m : List AV} {k : Nat}, k < m.length → SetAt v k m (m.set k v)
  | [], _, h => by simp at h
  | a :: m, 0, _ => .z
  | a :: m, k + 1, h => .s (setAt_ex v (by simpa using h))
/-- a start of a comprehension's code -/
def Starts (x : Cx) (A : Around) (e : Expr) (d : Nat) : Prop := ∀ (it acc : Value) (env : Env) (R : Result → Shared → Prop) (s : Shared), codeAny (model x.prog x.w) A (.compLoop e d it acc env) R s →
  wpAny (model x.prog x.w) A (pyIter it) (fun it' s' => codeAny (model x.prog x.w) A (.compLoop e d it' acc env) R s') (notedBy (model x.prog x.w) A env fun x s' => R (.error x) s') s → codeAny (model x.prog x.w) A (.compStart e d it acc env) R s
section
variable {x : Cx} {A : Around} {own : Own} {env : Env} {n : Nat} {nm gn : List Str}
def NewAcc (x : Cx) (A : Around) (newAcc : Sem Value) (o : AObj) : Prop := ∀ (own : Own) (s : Shared) (K : Value → Shared → Prop) (E : Value → Shared → Prop), Rel x own s →
  (∀ D h' tk, Step x own s ((D, o) :: own) { s with heap := h', toks := tk } → (∀ b o, s.heap.get? b = some o → h'.get? b = some o) → s.heap.get? D = none → K (.ref D) { s with heap := h', toks := tk }) → wpAny (model x.prog x.w) A newAcc K E s
theorem comp_block (H : Fm n A env nm gn) {e : Expr} {t : Str} {px : Pos} {scope : Scope} {cl : List (Str × Addr)} {cgn ts : List Str} {k : Nat} {xs : List AV} {own2 : Own} {s1 s2 : Shared} {it : Value} {FP WR : List Addr} {St : Nat → Heap → Prop} {newAcc : Sem Value} {inner : Addr → Env → Sem Unit} {acc : Nat → AObj}
    (hturn : ∀ it D cenv, IsTurn e 0 it (.ref D) cenv (.Name t px) (inner D cenv)) (hfr : ∀ it D cenv, (Code.compLoop e 0 it (.ref D) cenv).isFrame = false) (hq : ∀ it D cenv, (Code.compLoop e 0 it (.ref D) cenv).quiet = true) (hst : Starts x A e 0)
    (hnew : NewAcc x A newAcc (acc 0))
    (hkind : scope.kind = .function) (hcell : ∀ y ∈ scope.names, y.2 ≠ .cell) (hk : ts[k]? = some t) (hnd : ts.Nodup) (hts : ∀ y ∈ ts, scope.names.lookup y = some .local ∧ (y == ("__debug__" : Str)) = false) (hgl : env.globals = mainGlobals) (hbi : env.builtins = builtinsNs)
    (hcg : ∀ y ∈ cgn, (relabel scope env).names.lookup y = some .globalImplicit ∧ (y == ("__debug__" : Str)) = false)
    (src : Src x A (.Name t px) it xs FP WR St) (st : St 0 s2.heap) (S2 : Step x own2 s1 own2 s2) (hF : ∀ b ∈ FP, b ∉ addrs own2) (hW : ∀ b ∈ WR, s1.heap.get? b = none ∧ x.h₀.get? b = none ∧ ∀ p ∈ x.ro, p.1 ≠ b) (hb : ∀ a ∈ x.bad, a ∉ WR)
    (turn : ∀ i b, xs[i]? = some b → b.known ∧ ∀ cenv D m, Ce env scope cl cenv → Fm n A cenv ts cgn → m.length = ts.length → m[k]? = some b →
      WU x A (inner D cenv) ((cenv.locals, .ns ts m) :: (D, acc i) :: own2) fun own' => ∃ m', m'.length = ts.length ∧ List.Sublist ((cenv.locals, .ns ts m') :: (D, acc (i + 1)) :: own2) own')
    {E : Value → Shared → Prop} {R : Value → Env → Result → Shared → Prop}
    (kk : ∀ D C s' m, Step x own2 s1 ((C, .ns ts m) :: (D, acc xs.length) :: own2) s' → s1.heap.get? C = none → C ∉ x.bad → R (.ref D) (compEnvC scope cl C env) (.ok .next) s') :
    wpAny (model x.prog x.w) A newAcc (fun acc s₃ => wpAny (model x.prog x.w) A (newFunctionEnv scope env.globals cl [] env.qual none .none (some env)) (fun cenv s₄ =>
      codeAny (model x.prog x.w) A (.compStart e 0 it acc { cenv with scope := relabel scope env }) (R acc { cenv with scope := relabel scope env }) s₄) E s₃) E s2 := by
  refine hnew own2 s2 _ _ S2.rel fun D H2 tk2 S3 g1 nD => ?_
  refine wpAny_newFunctionEnv hcell (by intro y hy; simp at hy) (fun h1 hns hsb => ?_) hkind
  dsimp only at hns hsb ⊢
  have R2 := S2.rel
  have g2 : ∀ b o, H2.get? b = some o → h1.get? b = some o := fun b o e => hsb.extBut b o (fun q => by rw [q, fresh_none] at e; cases e) (Heap.get?_push_of_some _ e)
  have S4 : Step x ((D, acc 0) :: own2) { s2 with heap := H2, toks := tk2 } ((H2.objs.size, .ns ts (ts.map fun _ => .any)) :: (D, acc 0) :: own2) { s2 with heap := h1, toks := tk2 + ([] : List (Str × Value)).length } :=
    Step.new (s := { s2 with heap := H2, toks := tk2 }) S3.rel g2 (fresh_none _) ⟨_, hns, NsRep.anys ts, hnd⟩
  have S24 := (S2.trans S3).trans S4
  have st4 : St 0 h1 := src.frame _ _ _ st fun b _ o e => g2 _ _ (g1 _ _ e)
  have up : ∀ b, H2.get? b = none → s2.heap.get? b = none := fun b hb => by
    cases e : s2.heap.get? b with
    | none => rfl
    | some o => rw [g1 _ _ e] at hb; cases hb
  have n2 := up _ (fresh_none H2)
  have n1 : s1.heap.get? H2.objs.size = none := by
    cases e : s1.heap.get? H2.objs.size with
    | none => rfl
    | some o => obtain ⟨o', e'⟩ := S2.there _ _ e; rw [n2] at e'; cases e'
  have nb : H2.objs.size ∉ x.bad := fun hm => by
    obtain ⟨o, e⟩ := R2.bd _ hm
    rw [n2] at e; cases e
  have hce : Ce env scope cl (compEnvC scope cl H2.objs.size env) := ⟨rfl, rfl, rfl, rfl, rfl⟩
  have hfm : Fm n A (compEnvC scope cl H2.objs.size env) ts cgn := ⟨H.hnd, H.dep, H.uni, hkind, fun y hy => ⟨lookup_relabel_local (hts y hy).1, (hts y hy).2⟩, hcg, hgl, hbi⟩
  have hkl : k < ts.length := by
    rcases Nat.lt_or_ge k ts.length with h | h
    · exact h
    · rw [List.getElem?_eq_none h] at hk; cases hk
  have loop : ∀ s₃ : Shared, s₃ = { s2 with heap := h1, toks := tk2 + ([] : List (Str × Value)).length } →
      codeAny (model x.prog x.w) A (.compLoop e 0 it (.ref D) (compEnvC scope cl H2.objs.size env)) (R (.ref D) (compEnvC scope cl H2.objs.size env)) s₃ := by
    rintro s₃ rfl
    refine codeAny_mono (comp_src (hturn it D _) (hfr ..) (hq ..) S24 src st4 ?_ hW
      (fun i own => ∃ m, m.length = ts.length ∧ own = (H2.objs.size, AObj.ns ts m) :: (D, acc i) :: own2) ⟨_, by simp, rfl⟩ ?_) fun r s' hr => ?_
    · intro b hb hm
      obtain ⟨o, e, _⟩ := src.live _ _ st b hb
      rcases List.mem_cons.mp hm with h | hm
      · have h : b = H2.objs.size := h
        subst h; rw [n2] at e; cases e
      · rcases List.mem_cons.mp hm with h | hm
        · have h : b = D := h
          subst h; rw [nD] at e; cases e
        · exact hF b hb hm
    · rintro i a own1 hia ⟨m, hm, rfl⟩
      obtain ⟨kn, hel⟩ := turn i a hia
      refine A_loc hfm k hk .z (setAt_ex a (by omega)) kn ?_
      refine WP.drop (hel _ D _ hce hfm (by rw [List.length_set]; exact hm) (by rw [List.getElem?_set_self (by omega)])) fun _ s own' ⟨m', hm', sub⟩ => ⟨_, sub, m', hm', rfl⟩
    · cases r with
      | error e => exact hr.elim
      | ok fl =>
        obtain ⟨rfl, own', S', m, _, rfl⟩ := hr
        exact kk _ _ _ _ S' n1 nb
  exact hst _ _ _ _ _ (loop _ rfl) (src.self 0 _ _ _ st4 (loop _ rfl))

/-- {k: v for t in iter} -/
def putF {K : Type} [DecidableEq K] (fk : AV → K) (fv : AV → AV) (es : List (K × AV)) (xs : List AV) : List (K × AV) := xs.foldl (fun es b => putK es (fk b) (fv b)) es
theorem putK_length {K : Type} [DecidableEq K] (es : List (K × AV)) (k : K) (v : AV) : (putK es k v).length ≤ es.length + 1 := by
  unfold putK
  split
  · rw [List.length_map]; omega
  · simp
theorem putF_length {K : Type} [DecidableEq K] (fk : AV → K) (fv : AV → AV) : ∀ (xs : List AV) (es : List (K × AV)), (putF fk fv es xs).length ≤ es.length + xs.length
  | [], es => by simp [putF]
  | b :: xs, es => by
    have h1 := putF_length fk fv xs (putK es (fk b) (fv b))
    have h2 := putK_length es (fk b) (fv b)
    show (putF fk fv (putK es (fk b) (fv b)) xs).length ≤ _
    simp only [List.length_cons]
    omega
theorem putF_take {K : Type} [DecidableEq K] (fk : AV → K) (fv : AV → AV) (es : List (K × AV)) (xs : List AV) {i : Nat} {b : AV} (h : xs[i]? = some b) : putF fk fv es (xs.take (i + 1)) = putK (putF fk fv es (xs.take i)) (fk b) (fv b) := by
  rw [List.take_add_one, h]
  simp [putF, List.foldl_append]
def DcSrc (x : Cx) (A : Around) (env : Env) (n : Nat) {K : Type} [DecidableEq K] (D : DK x K) (kx vx : Expr) (t : Str) (px : Pos) (scope : Scope) (cl : List (Str × Addr)) (cgn : List Str) (fin : Addr → List (K × AV) → Own → (Own → Own) → Prop) (a : AV) (own1 : Own) : Prop :=
  ∃ xs r own2 bk, ∃ (fk : AV → K) (fv : AV → AV), Itb x A own1 a (.Name t px) xs r own2 bk ∧ xs.length ≤ 1000000 ∧
    (∀ b, b ∈ xs → b.known ∧ ∀ cenv, Ce env scope cl cenv → Fm n A cenv [t] cgn → WV (wr x r) A (eval kx cenv) ((cenv.locals, .ns [t] [b]) :: own2) fun c own3 => c = D.key (fk b) ∧ own3 = (cenv.locals, .ns [t] [b]) :: own2 ∧
      WV (wr x r) A (eval vx cenv) ((cenv.locals, .ns [t] [b]) :: own2) (mapQ cenv.locals [t] own2 (fv b))) ∧
    ∀ d, fin d (putF fk fv [] xs) own2 bk
theorem E_dmap (H : Fm n A env nm gn) {K : Type} [DecidableEq K] (DD : ∀ x : Cx, DK x K) (hDD : ∀ (x : Cx) r, (DD (wr x r)).mkO = (DD x).mkO) (hDk : ∀ (x : Cx) r, (DD (wr x r)).key = (DD x).key) {kx vx iter : Expr} {t : Str} {px : Pos} {scope : Scope} {pos : Pos} {Q : AV → Own → Prop} (cl : List (Str × Addr)) (cgn : List Str)
    (hclos : closureFor scope env = pure cl) (hkind : scope.kind = .function) (hcell : ∀ y ∈ scope.names, y.2 ≠ .cell) (hnames : ∀ x ∈ scope.names, x.2 = .local → scope.names.lookup x.1 = some .local)
    (ht : scope.names.lookup t = some .local) (htd : (t == ("__debug__" : Str)) = false)
    (hcg : ∀ y ∈ cgn, (relabel scope env).names.lookup y = some .globalImplicit ∧ (y == ("__debug__" : Str)) = false)
    (h : WV x A (eval iter env) own (DcSrc x A env n (DD x) kx vx t px scope cl cgn fun d es own2 bk => Q (.val (.ref d)) (bk ((d, (DD x).mkO es) :: own2))))
    (hs : ∀ v, foldedSetIterable iter env v = pure v := by intro _; with_unfolding_all rfl) :
    WV x A (eval (.DictComp kx vx [⟨.Name t px, iter, [], 0⟩] scope pos) env) own Q := fun s R => by
  rw [arm_eval_DictComp]
  refine wpAny_comprehension_free (use := none) rfl hs hclos hkind hnames (h.run (Step.refl R) fun v s1 own1 S1 k1 ⟨a, r1, xs, r, own2, bk, fk, fv, I, hz, turn, fin⟩ => ?_)
  refine wpAny_mono (I.go v s1 S1.rel r1) (fun it s2 => ?_) fun _ _ f => f.elim
  rintro ⟨FP, WR, St, src, st, S2, hF, hW, hb⟩
  refine comp_block (x := wr x r) (ts := [t]) (k := 0) (inner := fun D cenv => eval kx cenv >>= fun kv => holding [kv] (eval vx cenv) >>= fun vv => standAt { kx.pos with endLine := vx.pos.endLine, endCol := vx.pos.endCol } >>= fun _ => holding [kv, vv] (dictSet D kv vv))
    (acc := fun i => (DD x).mkO (putF fk fv [] (xs.take i))) H (R := fun v cenv r s' => compPost _ _ _ _ _ v cenv.locals r s') (fun it D cenv => ⟨iter.pos, by
      rw [compTurn_dict]
      simp only [bind_assoc]
      rfl⟩) (fun _ _ _ => rfl) (fun _ _ _ => rfl) (fun _ _ _ _ _ h0 h1 => codeAny_compStart_dict h0 h1) ?_ hkind hcell rfl (by simp) (fun y hy => by rw [List.mem_singleton.mp hy]; exact ⟨ht, htd⟩) H.gl H.bi hcg src st S2 hF hW hb ?_ ?_
  · intro own s K E R hk
    refine wpAny_newObj_type ?_
    obtain ⟨ep, hd⟩ := (Heap.DictOf.new (knd := (DD (wr x r)).knd) s.heap).dictAt
    refine hk s.heap.objs.size _ s.toks (Step.new (tk := s.toks) R (fun b o e => Heap.get?_push_of_some _ e) (fresh_none _) ?_) (fun b o e => Heap.get?_push_of_some _ e) (fresh_none _)
    show Has _ _ (wr x r).bad _ _ ((DD x).mkO [])
    rw [← hDD x r]
    exact (DD (wr x r)).has.mpr ⟨fresh_sys R, [], ep, hd, .nil⟩
  · intro i b hib
    obtain ⟨kn, hel⟩ := turn b (List.mem_of_getElem? hib)
    refine ⟨kn, fun cenv D m hce hfm hm hmk => ?_⟩
    obtain ⟨m0, rfl⟩ : ∃ m0, m = [m0] := by cases m with
      | nil => simp at hm
      | cons a m => cases m with
        | nil => exact ⟨a, rfl⟩
        | cons _ _ => simp at hm
    simp at hmk
    subst hmk
    intro s R
    have W := (WP.frame (p := (D, (DD x).mkO (putF fk fv [] (xs.take i)))) ((DD x).fz _) (hel cenv hce hfm)).perm (List.Perm.swap ..)
    refine wpAny_bind (WP.run W (Step.refl R) fun kv s3 own3 S3 k3 ⟨o, eo, b1, rb, eb, eo2, W2⟩ => ?_)
    subst eo eb eo2
    have W2' := (WP.frame (p := (D, (DD x).mkO (putF fk fv [] (xs.take i)))) ((DD x).fz _) W2)
    refine wpAny_bind (wpAny_holding (WP.run W2' S3 fun vv s4 own4 S4 k4 ⟨o, eo, b2, rb2, eb2, m', sub⟩ => ?_))
    subst eo eb2
    refine wpAny_bind (wpAny_standAt (wpAny_holding ?_))
    have HD : Has x.prog x.w x.bad s4.heap D ((DD x).mkO (putF fk fv [] (xs.take i))) := S4.rel.has _ (.head _)
    obtain ⟨ns, kvs, ep, hd, rs⟩ := (DD x).has.mp HD
    have rk : Rep x.bad s4.heap ((DD x).key (fk m0)) kv := Rep.mono k4 _ _ rb
    refine wpAny_dictSet_pairs ((DD x).is.mp rk) hd.dictOf (fun h' hd' hs' => ?_) (by
      have h1 := rs.length
      have h2 := putF_length fk fv (xs.take i) []
      rw [List.length_take] at h2
      simp only [List.length_nil] at h2
      rw [← h1, sizeLine_eq]; omega)
    have tk : TupKeep x.bad s4.heap h' := fun d us k _ e => hs'.extBut d _ (fun q => by subst q; exact HD.notTup e) e
    obtain ⟨ep', hd'⟩ := hd'.dictAt
    have S5 := S4.trans (Step.upd (tk := s4.toks + 1) (o' := (DD x).mkO (putF fk fv [] (xs.take (i + 1)))) S4.rel (.z (a := D) (o := (DD x).mkO (putF fk fv [] (xs.take i)))) (fun b o hb e => hs'.extBut b o hb e) (by
      rw [putF_take fk fv [] xs hib]
      exact (DD x).has.mpr ⟨ns, _, ep', hd', (rs.mono tk).put (fk m0) (Rep.mono tk _ _ rb2)⟩))
    exact ⟨_, (S5.forget (List.Sublist.cons_cons _ sub)).perm' (List.Perm.swap ..), [m'], rfl, List.Sublist.refl _⟩
  · intro D C s' m S' hC hbC
    have S' : Step (wr x r) own2 s1 ((C, .ns [t] m) :: (D, (DD x).mkO (putF fk fv [] (xs.take xs.length))) :: own2) s' := S'
    rw [List.take_length] at S'
    obtain ⟨mm, hns, _⟩ := S'.rel.has _ (.head _)
    exact ⟨mm, hns, fun h' hs' => ⟨_, S1.trans (I.back _ _ _ S1.rel (S'.lose .z hC hbC fun b o hne e => hs'.extBut b o hne e)), _, rep_mk_val, fin D⟩⟩

theorem Itb.range1 {r : Addr} {a b : Int} {tgt : Expr} (hh : A.handled = none) (kn : Kn x own (r, .rng a b 1)) (ha : -1000000000 ≤ a ∧ a ≤ 1000000000) (hb : -1000000000 ≤ b ∧ b ≤ 1000000000) :
    Itb x A own (.val (.ref r)) tgt ((List.range (b - a).toNat).map fun i => .int (a + (i : Nat))) x.ro own id := by
  have := Itb.range (tgt := tgt) (k := (b - a).toNat) hh kn (small_one (by omega) (by omega) (by omega) (by omega)) (by rw [rangeSize_nat])
  simpa only [Int.one_mul] using this
/-- the second clause of a comprehension -/
theorem start_list1 {elt iter0 target iter : Expr} {ifs0 ifs : List Expr} {t0 : Expr} {scope pos it acc} {cenv : Env} {R : Result → Shared → Prop} {s : Shared}
    (h0 : codeAny (model x.prog x.w) A (.compLoop (.ListComp elt [⟨t0, iter0, ifs0, 0⟩, ⟨target, iter, ifs, 0⟩] scope pos) 1 it acc cenv) R s)
    (h : wpAny (model x.prog x.w) A (pyIter it) (fun it' s' => codeAny (model x.prog x.w) A (.compLoop (.ListComp elt [⟨t0, iter0, ifs0, 0⟩, ⟨target, iter, ifs, 0⟩] scope pos) 1 it' acc cenv) R s')
      (notedBy (model x.prog x.w) A cenv fun x s' => R (.error x) s') s) :
    codeAny (model x.prog x.w) A (.compStart (.ListComp elt [⟨t0, iter0, ifs0, 0⟩, ⟨target, iter, ifs, 0⟩] scope pos) 1 it acc cenv) R s := by
  refine codeAny_of_tree ?_
  show wpAny _ _ ((compStart (.ListComp elt [⟨t0, iter0, ifs0, 0⟩, ⟨target, iter, ifs, 0⟩] scope pos) 1 it acc cenv).onRaise (fun x => do noteFrame x cenv; standAt theWindowsPlace)) _ _ s
  refine wpAny_notedAt ?_
  unfold compStart
  show wpAny _ _ (ask >>= _) _ _ s
  refine wpAny_bind (wpAny_askSetting (wpAny_ite ?_))
  split
  · first
      | exact wpAny_bind (wpAny_pure (wpAny_pure (And.intro rfl h0)))
      | exact wpAny_pure (And.intro rfl h0)
  · refine wpAny_bind (wpAny_rule ?_); show wpAny _ _ (standAt iter.pos >>= _) _ _ s; exact wpAny_bind (wpAny_standAt (wpAny_bind (wpAny_mono h (fun it' s' h' => wpAny_pure (And.intro rfl h')) fun _ _ x => x)))
theorem E_lmap2 (H : Fm n A env nm gn) {elt iter iter2 : Expr} {t1 t2 : Str} {p1 p2 : Pos} {scope : Scope} {pos : Pos} {Q : AV → Own → Prop} (cl : List (Str × Addr)) (cgn : List Str)
    (hclos : closureFor scope env = pure cl) (hkind : scope.kind = .function) (hcell : ∀ y ∈ scope.names, y.2 ≠ .cell) (hnames : ∀ x ∈ scope.names, x.2 = .local → scope.names.lookup x.1 = some .local)
    (h12 : t1 ≠ t2) (ht1 : scope.names.lookup t1 = some .local) (ht2 : scope.names.lookup t2 = some .local) (hd1 : (t1 == ("__debug__" : Str)) = false) (hd2 : (t2 == ("__debug__" : Str)) = false)
    (hcg : ∀ y ∈ cgn, (relabel scope env).names.lookup y = some .globalImplicit ∧ (y == ("__debug__" : Str)) = false)
    (h : WV x A (eval iter env) own fun a own1 => ∃ xs r own2 bk, ∃ (k2 : Nat) (f : AV → AV → AV), Itb x A own1 a (.Name t1 p1) xs r own2 bk ∧ xs.length ≤ 1000 ∧ k2 ≤ 1000 ∧ (∀ b ∈ xs, b.known) ∧
      (∀ cenv own', Ce env scope cl cenv → Fm n A cenv [t1, t2] cgn → WV (wr x r) A (eval iter2 cenv) own' fun a own4 => ∃ r', a = .val (.ref r') ∧ own4 = (r', AObj.rng 0 (k2 : Int) 1) :: own') ∧
      (∀ b ∈ xs, ∀ j, j < k2 → ∀ cenv, Ce env scope cl cenv → Fm n A cenv [t1, t2] cgn → WV (wr x r) A (eval elt cenv) ((cenv.locals, .ns [t1, t2] [b, .int (j : Nat)]) :: own2) fun v own' => v = f b (.int (j : Nat)) ∧ ∃ m', List.Sublist ((cenv.locals, .ns [t1, t2] [b, m']) :: own2) own') ∧
      ∀ D, Q (.val (.ref D)) (bk ((D, .list (xs.flatMap fun b => (List.range k2).map fun j => f b (.int (j : Nat)))) :: own2)))
    (hs : ∀ v, foldedSetIterable iter env v = pure v := by intro _; with_unfolding_all rfl) (hs2 : ∀ v cenv, foldedSetIterable iter2 cenv v = pure v := by intro _ _; with_unfolding_all rfl) :
    WV x A (eval (.ListComp elt [⟨.Name t1 p1, iter, [], 0⟩, ⟨.Name t2 p2, iter2, [], 0⟩] scope pos) env) own Q := fun s R => by
  rw [eval_ListComp]
  refine wpAny_comprehension_free (use := none) rfl hs hclos hkind hnames (h.run (Step.refl R) fun v s1 own1 S1 k1 ⟨a, r1, xs, r, own2, bk, k2, f, I, hz, hz2, kn, hi2, turn, fin⟩ => ?_)
  refine wpAny_mono (I.go v s1 S1.rel r1) (fun it s2 => ?_) fun _ _ f => f.elim
  rintro ⟨FP, WR, St, src, st, S2, hF, hW, hb⟩
  have hlen : ∀ i, ((xs.take i).flatMap fun b => (List.range k2).map fun j => f b (.int (j : Nat))).length ≤ 1000 * 1000 := fun i => by
    have : ∀ l : List AV, (l.flatMap fun b => (List.range k2).map fun j => f b (.int (j : Nat))).length = l.length * k2 := by
      intro l; induction l with
      | nil => simp
      | cons b l ih => rw [List.flatMap_cons, List.length_append, ih, List.length_map, List.length_range, List.length_cons, Nat.succ_mul]; omega
    rw [this, List.length_take]
    exact Nat.mul_le_mul (by omega) hz2
  refine comp_block (x := wr x r) (ts := [t1, t2]) (k := 0) (inner := fun D cenv => eval iter2 cenv >>= fun x => standAt iter2.pos >>= fun _ => foldedSetIterable iter2 cenv x >>= fun x => holding [x] (pyIter x) >>= fun it =>
      runOwn (.compStart (.ListComp elt [⟨.Name t1 p1, iter, [], 0⟩, ⟨.Name t2 p2, iter2, [], 0⟩] scope pos) 1 it (.ref D) cenv) cenv >>= fun _ => pure ())
    (acc := fun i => .list ((xs.take i).flatMap fun b => (List.range k2).map fun j => f b (.int (j : Nat)))) H (R := fun v cenv r s' => compPost _ _ _ _ _ v cenv.locals r s') (fun it D cenv => ⟨iter.pos, by
      first | rfl | (simp only [bind_assoc]; rfl)⟩) (fun _ _ _ => rfl) (fun _ _ _ => rfl) (fun _ _ _ _ _ h0 h1 => codeAny_compStart_list h0 h1) ?_ hkind hcell rfl (by simpa using h12) (fun y hy => by
        simp only [List.mem_cons, List.not_mem_nil, or_false] at hy
        rcases hy with rfl | rfl
        · exact ⟨ht1, hd1⟩
        · exact ⟨ht2, hd2⟩) H.gl H.bi hcg src st S2 hF hW hb ?_ ?_
  · intro own s K E R hk
    refine wpAny_newList ?_ (by show 0 ≤ sizeLine; exact Nat.zero_le _)
    exact hk s.heap.objs.size _ s.toks (Step.new (tk := s.toks) R (fun b o e => Heap.get?_push_of_some _ e) (fresh_none _) ⟨#[], ⟨0, Heap.get?_push_size _ rfl⟩, by simp [Reps]⟩) (fun b o e => Heap.get?_push_of_some _ e) (fresh_none _)
  · intro i b hib
    refine ⟨kn b (List.mem_of_getElem? hib), fun cenv D m hce hfm hm hmk => ?_⟩
    obtain ⟨c0, rfl⟩ : ∃ c0, m = [b, c0] := by cases m with
      | nil => simp at hm
      | cons a m => cases m with
        | nil => simp at hm
        | cons c m => cases m with
          | nil => simp at hmk; exact ⟨c, by rw [hmk]⟩
          | cons _ _ => simp at hm
    intro s R
    refine wpAny_bind (WP.run (hi2 cenv _ hce hfm) (Step.refl R) fun v3 s3 own3 S3 k3 ⟨a3, ra3, r', ea, eo⟩ => ?_)
    subst ea eo
    refine wpAny_bind (wpAny_standAt (wpAny_bind ?_))
    rw [hs2]
    refine wpAny_pure (wpAny_bind (wpAny_holding ?_))
    have IB := Itb.range1 (x := wr x r) (A := A) (own := (r', AObj.rng 0 (k2 : Int) 1) :: (cenv.locals, AObj.ns [t1, t2] [b, c0]) :: (D, AObj.list ((xs.take i).flatMap fun b => (List.range k2).map fun j => f b (.int (j : Nat)))) :: own2) (r := r') (a := 0) (b := (k2 : Int)) (tgt := .Name t2 p2) H.hnd (.inl (.head _)) (by omega) (by omega)
    refine wpAny_mono (IB.go v3 s3 S3.rel ra3) (fun it2 s4 => ?_) fun _ _ f => f.elim
    rintro ⟨FP2, WR2, St2, src2, st2, S4, hF2, hW2, hb2⟩
    refine wpAny_bind (wpAny_runOwn (h := none) ?_)
    have loop : codeAny (model x.prog x.w) A (.compLoop (.ListComp elt [⟨.Name t1 p1, iter, [], 0⟩, ⟨.Name t2 p2, iter2, [], 0⟩] scope pos) 1 it2 (.ref D) cenv) (fun r_1 s' => match r_1 with
        | .ok f_1 => wpAny (model x.prog x.w) A (pure ()) (fun a s' => ∃ own', Step (wr x r) ((cenv.locals, AObj.ns [t1, t2] [b, c0]) :: (D, AObj.list ((xs.take i).flatMap fun b => (List.range k2).map fun j => f b (.int (j : Nat)))) :: own2) s own' s' ∧ ∃ m', m'.length = [t1, t2].length ∧ List.Sublist ((cenv.locals, .ns [t1, t2] m') :: (D, AObj.list ((xs.take (i + 1)).flatMap fun b => (List.range k2).map fun j => f b (.int (j : Nat)))) :: own2) own') (fun _ _ => False) s'
        | .error e => cameBackBy (model x.prog x.w) A cenv (fun _ _ => False) e s') s4 := by
      refine codeAny_mono (comp_src (own := (r', AObj.rng 0 (k2 : Int) 1) :: (cenv.locals, AObj.ns [t1, t2] [b, c0]) :: (D, AObj.list ((xs.take i).flatMap fun b => (List.range k2).map fun j => f b (.int (j : Nat)))) :: own2)
        (inner := eval elt cenv >>= fun x => call (.builtin "list.append") [.ref D, x] >>= fun _ => pure ())
        (⟨iter2.pos, by first | rfl | (simp only [bind_assoc]; rfl)⟩ : IsTurn _ 1 it2 (.ref D) cenv (.Name t2 p2) _) rfl rfl (S3.trans S4) src2 st2 hF2 (fun b hb => ?_)
        (fun j own => ∃ c, own = (r', AObj.rng 0 (k2 : Int) 1) :: (cenv.locals, AObj.ns [t1, t2] [b, c]) :: (D, AObj.list (((xs.take i).flatMap fun b => (List.range k2).map fun j => f b (.int (j : Nat))) ++ (List.range j).map fun j => f b (.int (j : Nat)))) :: own2) ⟨c0, by simp⟩ ?_) fun r1 s' hr => ?_
      · obtain ⟨w1, w2, w3⟩ := hW2 b hb
        refine ⟨?_, w2, w3⟩
        cases e : s.heap.get? b with
        | none => rfl
        | some o => obtain ⟨o', e'⟩ := S3.there _ _ e; rw [w1] at e'; cases e'
      · rintro j a own1 hja ⟨c, rfl⟩
        have hjk : j < k2 := by
          rcases Nat.lt_or_ge j k2 with h | h
          · exact h
          · rw [List.getElem?_map, List.getElem?_eq_none (by simpa using h)] at hja; cases hja
        have ea : a = .int (j : Nat) := by
          rw [List.getElem?_map, List.getElem?_range (by simpa using hjk)] at hja
          simp at hja; exact hja.symm
        subst ea
        refine A_loc hfm 1 rfl (.s .z) (.s .z) trivial ?_
        intro s R
        have W := ((WP.frame (p := (r', AObj.rng 0 (k2 : Int) 1)) trivial (WP.frame (p := (D, AObj.list (((xs.take i).flatMap fun b => (List.range k2).map fun j => f b (.int (j : Nat))) ++ (List.range j).map fun j => f b (.int (j : Nat))))) trivial (turn b (List.mem_of_getElem? hib) j hjk cenv hce hfm))).perm (own := (r', AObj.rng 0 (k2 : Int) 1) :: (cenv.locals, AObj.ns [t1, t2] [b, .int (j : Nat)]) :: (D, AObj.list (((xs.take i).flatMap fun b => (List.range k2).map fun j => f b (.int (j : Nat))) ++ (List.range j).map fun j => f b (.int (j : Nat)))) :: own2) (List.Perm.cons _ (List.Perm.swap ..)))
        refine wpAny_bind (WP.run W (Step.refl R) fun v s5 own5 S5 k5 ⟨o1, eo1, o2, eo2, av, rav, eav, m', sub⟩ => ?_)
        subst eo1 eo2 eav
        have HL : Has (wr x r).prog (wr x r).w (wr x r).bad s5.heap D (AObj.list (((xs.take i).flatMap fun b => (List.range k2).map fun j => f b (.int (j : Nat))) ++ (List.range j).map fun j => f b (.int (j : Nat)))) := S5.rel.has _ (.tail _ (.head _))
        obtain ⟨vs, pl, rs⟩ := id HL
        have pl : s5.heap.PlainList D vs := pl
        have hsz : vs.size ≤ sizeLine := by
          have h1 := rs.length
          have h2 := hlen i
          rw [List.length_append, List.length_map, List.length_range] at h1
          rw [← Array.length_toList, ← h1, sizeLine_eq]; omega
        refine wpAny_bind (wpAny_list_append_plain (hsz := hsz) pl fun h' pl' hs' => wpAny_pure ?_)
        have tk : TupKeep (wr x r).bad s5.heap h' := fun d us k _ e => hs'.extBut d _ (fun q => by subst q; exact HL.notTup e) e
        have S6 := S5.trans (Step.upd (tk := s5.toks) (o' := .list (((xs.take i).flatMap fun b => (List.range k2).map fun j => f b (.int (j : Nat))) ++ (List.range (j + 1)).map fun j => f b (.int (j : Nat)))) S5.rel (.s .z) (fun b o hb e => hs'.extBut b o hb e) ⟨_, pl', by
          rw [List.range_succ, List.map_append, ← List.append_assoc, Array.toList_push]
          exact Reps.append (Reps.mono tk _ _ rs) (Reps.cons (Rep.mono tk _ _ rav) .nil)⟩)
        exact ⟨_, (S6.forget (List.Sublist.cons_cons _ (List.Sublist.cons_cons _ sub))).perm' (List.Perm.cons _ (List.Perm.swap ..)), m', rfl⟩
      · cases r1 with
        | error e => exact hr.elim
        | ok fl =>
          obtain ⟨rfl, own', S', c, rfl⟩ := hr
          refine wpAny_pure ⟨_, S', [b, c], rfl, ?_⟩
          have e1 : (xs.take (i + 1)).flatMap (fun b => (List.range k2).map fun j => f b (.int (j : Nat))) = (xs.take i).flatMap (fun b => (List.range k2).map fun j => f b (.int (j : Nat))) ++ (List.range k2).map fun j => f b (.int (j : Nat)) := by
            rw [List.take_add_one, hib, List.flatMap_append]; simp
          rw [e1]
          simp only [List.length_map, List.length_range, Int.sub_zero, Int.toNat_natCast]
          exact List.Sublist.cons _ (List.Sublist.refl _)
    exact start_list1 loop (src2.self 0 _ _ _ st2 loop)
  · intro D C s' m S' hC hbC
    have S' : Step (wr x r) own2 s1 ((C, .ns [t1, t2] m) :: (D, .list ((xs.take xs.length).flatMap fun b => (List.range k2).map fun j => f b (.int (j : Nat)))) :: own2) s' := S'
    rw [List.take_length] at S'
    obtain ⟨mm, hns, _⟩ := S'.rel.has _ (.head _)
    exact ⟨mm, hns, fun h' hs' => ⟨_, S1.trans (I.back _ _ _ S1.rel (S'.lose .z hC hbC fun b o hne e => hs'.extBut b o hne e)), _, rep_mk_val, fin D⟩⟩
end
end
section
def stm (i : Nat) : Stmt := (PySem.Challenge.pw_er0016_01.main.body)[i]?.getD (.Pass default)
def bodyOf : Stmt → List Stmt
  | .FunctionDef _ _ b _ _ _ _ _ _ _ => b
  | _ => []
def scopeOf : Stmt → Scope
  | .FunctionDef _ _ _ _ _ _ s _ _ _ => s
  | _ => default
def methOf (c : Stmt) (i : Nat) : Stmt := match c with
  | .ClassDef _ _ _ b _ _ _ _ _ _ _ => b[i]?.getD (.Pass default)
  | _ => .Pass default
def FnT (K : Frag) (a : Addr) (st : Stmt) (ps : List Str) (dv : List Value := []) : Prop := ∃ fd, FnAt K a fd (bodyOf st) ps dv ∧ fd.scope = scopeOf st ∧ fd.code = .ref (a - 1)
/-- what the walks lean on -/
structure Top (K : Frag) (h₀ : Heap) : Prop where
  f_init : FnT K 76 (methOf (stm 5) 0) ["self", "glyphOrder"]
  f_order : FnT K 83 (methOf (stm 5) 1) ["self"]
  f_many : FnT K 95 (methOf (stm 5) 3) ["self", "lst"]
  f_rev : FnT K 117 (methOf (stm 5) 6) ["self", "rebuild"] [.bool false]
  f_build : FnT K 124 (methOf (stm 5) 7) ["self"]
  f_mp2 : FnT K 138 (stm 6) ["x"]
  f_gsr : FnT K 146 (stm 7) ["n", "itemSize"]
  f_mkmap : FnT K 153 (stm 9) ["font", "chars", "gids"]
  f_cinit : FnT K 167 (methOf (stm 10) 1) ["self", "format"]
  f_header : FnT K 174 (methOf (stm 10) 2) ["self", "data", "ttFont"]
  f_split : FnT K 202 (stm 11) ["startCode", "endCode", "cmap"]
  f_cdec : FnT K 214 (methOf (stm 12) 0) ["self", "data", "ttFont"]
  f_ccom : FnT K 219 (methOf (stm 12) 1) ["self", "ttFont"]
  f_filled : FnT K 231 (stm 13) ["subtable", "language", "cmap", "uvsDict"]
  f_kinit : FnT K 246 (methOf (stm 15) 1) ["self", "apple"]
  f_kdec : FnT K 251 (methOf (stm 15) 2) ["self", "data", "ttFont"]
  f_kcom : FnT K 258 (methOf (stm 15) 3) ["self", "ttFont"]
  f_next : FnT K 272 (stm 17) ["state", "limit"]
  f_names : FnT K 277 (stm 18) []
  f_words : FnT K 282 (stm 19) ["data"]
  f_signed : FnT K 289 (stm 20) ["word"]
  f_halved : FnT K 296 (stm 21) ["rows", "step", "halvings", "shift", "wanted"]
  f_glyph : FnT K 303 (stm 22) ["words", "code"]
  f_pair : FnT K 308 (stm 23) ["words", "left", "right"]
  f_sound : FnT K 315 (stm 24) ["numbers", "many", "size"]
  f_law : FnT K 320 (stm 25) ["script"]
  b_len : Glob h₀ "len" (.builtin "len")
  b_range : Glob h₀ "range" (.type "range")
  b_zip : Glob h₀ "zip" (.type "zip")
  b_enum : Glob h₀ "enumerate" (.type "enumerate")
  b_min : Glob h₀ "min" (.builtin "min")
  b_max : Glob h₀ "max" (.builtin "max")
  b_sorted : Glob h₀ "sorted" (.builtin "sorted")
  b_iter : Glob h₀ "iter" (.builtin "iter")
  b_next : Glob h₀ "next" (.builtin "next")
  b_all : Glob h₀ "all" (.builtin "all")
  b_list : Glob h₀ "list" (.type "list")
  b_int : Glob h₀ "int" (.type "int")
  b_bytes : Glob h₀ "bytes" (.type "bytes")
  g_pack : Glob h₀ "pack" (.builtin "_struct.pack")
  g_unpack : Glob h₀ "unpack" (.builtin "_struct.unpack")
  g_font : Glob h₀ "TTFont" (.ref 127)
  g_mp2 : Glob h₀ "maxPowerOfTwo" (.ref 138)
  g_gsr : Glob h₀ "getSearchRange" (.ref 146)
  g_mkmap : Glob h₀ "_make_map" (.ref 153)
  g_split : Glob h₀ "splitRange" (.ref 202)
  g_cmap4 : Glob h₀ "cmap_format_4" (.ref 222)
  g_filled : Glob h₀ "filled" (.ref 231)
  g_kern : Glob h₀ "KernTable_format_0" (.ref 261)
  g_next : Glob h₀ "_law_next" (.ref 272)
  g_names : Glob h₀ "_law_names" (.ref 277)
  g_words : Glob h₀ "_law_words" (.ref 282)
  g_signed : Glob h₀ "_law_signed" (.ref 289)
  g_halved : Glob h₀ "_law_halved" (.ref 296)
  g_glyph : Glob h₀ "_law_glyph" (.ref 303)
  g_pair : Glob h₀ "_law_pair" (.ref 308)
  g_sound : Glob h₀ "_law_sound" (.ref 315)
  k_calls : ∀ a ∈ ([127, 138, 146, 153, 202, 222, 231, 261, 272, 277, 282, 289, 296, 303, 308, 315, 76, 83, 95, 117, 124, 167, 174, 214, 219, 246, 251, 258] : List Addr), keepIn K (.ref a) = true
  c_font : ClsOk K 127
  c_cmap : ClsOk K 222
  c_kern : ClsOk K 261
  o_font : ∀ y ∈ (["glyphOrder", "_reverseGlyphOrderDict"] : List Str), OwnA K 127 y ∧ TakeA K 127 y
  o_cmap : ∀ y ∈ (["formatID", "data", "ttFont", "platformID", "platEncID", "language", "cmap", "uvsDict", "length"] : List Str), OwnA K 222 y ∧ TakeA K 222 y
  o_kern : ∀ y ∈ (["apple", "coverage", "tupleIndex", "kernTable"] : List Str), OwnA K 261 y ∧ TakeA K 261 y
  o_kfmt : ∃ t, ClsA K 261 "formatID" (.int 0 t)
  m_init : MethA K 127 "__init__" 76
  m_order : MethA K 127 "getGlyphOrder" 83
  m_many : MethA K 127 "getGlyphNameMany" 95
  m_rev : MethA K 127 "getReverseGlyphMap" 117
  m_build : MethA K 127 "_buildReverseGlyphOrderDict" 124
  m_cinit : MethA K 222 "__init__" 167
  m_header : MethA K 222 "decompileHeader" 174
  m_cdec : MethA K 222 "decompile" 214
  m_ccom : MethA K 222 "compile" 219
  m_kinit : MethA K 261 "__init__" 246
  m_kdec : MethA K 261 "decompile" 251
  m_kcom : MethA K 261 "compile" 258
theorem Top.cle {x : Cx} (T : Top x.K x.h₀) {a : Addr} (h : a ∈ ([127, 138, 146, 153, 202, 222, 231, 261, 272, 277, 282, 289, 296, 303, 308, 315, 76, 83, 95, 117, 124, 167, 174, 214, 219, 246, 251, 258] : List Addr)) : Cle x (.ref a) := Cle.top (T.k_calls a h)
/-- entering a function -/
theorem enter {x : Cx} {A : Around} {own : Own} {n : Nat} (nm gn : List Str) (m0 : List AV) {Q : AV → Own → Prop} {a : Addr} {st : Stmt} {ps : List Str} {as : List AV} {dv : List Value}
    (F : FnT x.K a st ps dv) (hl : Lv (n + 1) A) (hlen : as.length + dv.length = ps.length) (hm : nm.map (initAV ps (as ++ dv.map .val)) = m0)
    (h1 : ∀ y ∈ nm, (scopeOf st).names.lookup y = some .local ∧ (y == ("__debug__" : Str)) = false) (h2 : nm.Nodup)
    (h3 : ∀ y ∈ gn, (scopeOf st).names.lookup y = some .globalImplicit ∧ (y == ("__debug__" : Str)) = false)
    (h4 : ∀ y ∈ ps, (scopeOf st).names.lookup y = some .local) (h5 : cellNames (scopeOf st) = [])
    (h : ∀ env A', Fm n A' env nm gn → WS x A' (execs (bodyOf st) env) ((env.locals, .ns nm m0) :: own) (RetQ Q)) : WO x A (callv (.ref a)) as own Q := by
  obtain ⟨fd, F, hs, hcode⟩ := F
  refine WCd.wo (C_fn (nm := nm) (gn := gn) F hl hlen (hs ▸ h1) h2 (hs ▸ h3) (fun y hy => .inl (hs ▸ h4 y hy)) (by rw [hs, h5]; simp) (by rw [hs, h5]; simp) fun env es ec H cs hcl hce => ?_)
  rw [hs, h5] at hcl ⊢
  obtain rfl : cs = [] := by simpa using hcl
  rw [hm]
  exact h env _ H
theorem LpPost.n {J : Own → Prop} {Q : AFlow → Own → Prop} {own : Own} (h : J own) : LpPost J Q .next own := h
theorem LpPost.c {J : Own → Prop} {Q : AFlow → Own → Prop} {own : Own} (h : J own) : LpPost J Q .cont own := h
theorem LpPost.b {J : Own → Prop} {Q : AFlow → Own → Prop} {own : Own} (h : Q .next own) : LpPost J Q .brk own := h
theorem LpPost.r {J : Own → Prop} {Q : AFlow → Own → Prop} {own : Own} {v : AV} (h : Q (.ret v) own) : LpPost J Q (.ret v) own := h
theorem N_while {x : Cx} {A : Around} {own : Own} {env : Env} {Q : AFlow → Own → Prop} {test : Expr} {body : List Stmt} {p : Pos} (J : Nat → Own → Prop) (m : Nat) (j0 : J m own)
    (turn : ∀ m own1, J m own1 → WB x A (isTrue test env (eval test env)) own1 fun b own2 => IfB b (WS x A (execs body env) own2 (LpPost (fun o => ∃ m', m' < m ∧ J m' o) Q)) (Q .next own2)) :
    WS x A (exec (.While test body [] p) env) own Q :=
  S_while J m j0 fun m own1 j => WP.mono (turn m own1 j) fun _ _ _ h => h.two
theorem len_ok {as : List AV} {P : Prop} (h : as.length < 10000000) (p : P) : (as.length : Int) < 10000000 ∧ P := ⟨by omega, p⟩
/-- entering a function with cells -/
def cellsOwn (cs : List Addr) (c0 : List AV) : Own := (cs.zip c0).map fun p => (p.1, AObj.cell p.2)
theorem enterC {x : Cx} {A : Around} {own : Own} {n : Nat} (nm gn cn : List Str) (m0 c0 : List AV) {Q : AV → Own → Prop} {a : Addr} {st : Stmt} {ps : List Str} {as : List AV} {dv : List Value}
    (F : FnT x.K a st ps dv) (hl : Lv (n + 1) A) (hlen : as.length + dv.length = ps.length) (hm : nm.map (initAV ps (as ++ dv.map .val)) = m0) (hcm : cn.map (initAV ps (as ++ dv.map .val)) = c0)
    (h1 : ∀ y ∈ nm, (scopeOf st).names.lookup y = some .local ∧ (y == ("__debug__" : Str)) = false) (h2 : nm.Nodup)
    (h3 : ∀ y ∈ gn, (scopeOf st).names.lookup y = some .globalImplicit ∧ (y == ("__debug__" : Str)) = false)
    (h4 : ∀ y ∈ ps, (scopeOf st).names.lookup y = some .local ∨ y ∈ cn) (h5 : cellNames (scopeOf st) = cn) (h6 : ∀ y ∈ cn, (scopeOf st).names.lookup y = some .cell) (h7 : cn.Nodup)
    (h : ∀ env A' cs, Fm n A' env nm gn → env.code = .ref (a - 1) → cs.length = cn.length → env.cells = cn.zip cs → (∀ y ∈ cn, env.kindOf y = some .cell) → WS x A' (execs (bodyOf st) env) ((env.locals, .ns nm m0) :: (cellsOwn cs c0 ++ own)) (RetQ Q)) : WO x A (callv (.ref a)) as own Q := by
  obtain ⟨fd, F, hs, hcode⟩ := F
  refine WCd.wo (C_fn (nm := nm) (gn := gn) F hl hlen (hs ▸ h1) h2 (hs ▸ h3) (fun y hy => (h4 y hy).imp (hs ▸ ·) fun h => ⟨hs ▸ h6 y h, by rw [hs, h5]; exact h⟩) (by rw [hs, h5]; intro y hy; rw [h6 y hy]; simp) (by rw [hs, h5]; exact h7) fun env es ec H cs hcl hce => ?_)
  rw [hs, h5] at hcl hce
  rw [hs, h5, hm, hcm]
  exact h env _ cs H (ec.trans hcode) hcl hce fun y hy => by
    show env.scope.names.lookup y = _
    rw [es, hs]; exact h6 y hy
theorem closure1 {env : Env} {scope : Scope} {y : Str} {c : Addr} (hf : scope.names.filter (fun p => p.2 == .free) = [(y, .free)]) (hc : env.cells.lookup y = some c) : closureFor scope env = pure [(y, c)] := by
  rw [closure_of (fun z => (env.cells.lookup z).getD 0) fun p hp hk => ?_, hf]
  · simp [hc]
  · have : p ∈ scope.names.filter (fun p => p.2 == .free) := List.mem_filter.mpr ⟨hp, by rw [hk]; rfl⟩
    rw [hf, List.mem_singleton] at this
    subst this
    simp [hc]
theorem closure0 {env : Env} {scope : Scope} (hf : scope.names.filter (fun p => p.2 == .free) = []) : closureFor scope env = pure [] := by
  rw [closure_of (fun z => (env.cells.lookup z).getD 0) fun p hp hk => ?_, hf]
  · simp
  · have : p ∈ scope.names.filter (fun p => p.2 == .free) := List.mem_filter.mpr ⟨hp, by rw [hk]; rfl⟩
    rw [hf] at this; cases this
theorem closure2 {env : Env} {scope : Scope} {y1 y2 : Str} {c1 c2 : Addr} (hf : scope.names.filter (fun p => p.2 == .free) = [(y1, .free), (y2, .free)]) (hc1 : env.cells.lookup y1 = some c1) (hc2 : env.cells.lookup y2 = some c2) : closureFor scope env = pure [(y2, c2), (y1, c1)] := by
  rw [closure_of (fun z => (env.cells.lookup z).getD 0) fun p hp hk => ?_, hf]
  · simp [hc1, hc2]
  · have : p ∈ scope.names.filter (fun p => p.2 == .free) := List.mem_filter.mpr ⟨hp, by rw [hk]; rfl⟩
    rw [hf] at this
    simp only [List.mem_cons, List.not_mem_nil, or_false] at this
    rcases this with rfl | rfl <;> simp [hc1, hc2]
theorem relabel_same {env : Env} {k : NameKind} (hk : k ≠ .free) : ∀ {names : List (Str × NameKind)} {y : Str}, names.lookup y = some k →
    (names.map fun (n, k) => if (k == NameKind.free && env.scope.kind == .function && env.kindOf n == some .cell) then (n, NameKind.cell) else (n, k)).lookup y = some k
  | [], _, h => by simp at h
  | (n, k') :: r, y, h => by
    have ih := @relabel_same env k hk r y
    show List.lookup y ((if (k' == NameKind.free && env.scope.kind == .function && env.kindOf n == some .cell) = true then (n, NameKind.cell) else (n, k')) :: _) = _
    cases hx : y == n with
    | true =>
      simp only [List.lookup_cons, hx] at h
      cases h
      have hk' : (k == NameKind.free) = false := by cases k <;> simp_all
      simp [List.lookup_cons, hx, hk']
    | false =>
      simp only [List.lookup_cons, hx] at h
      by_cases hc : (k' == NameKind.free && env.scope.kind == .function && env.kindOf n == some .cell) = true
      · rw [if_pos hc]; simp only [List.lookup_cons, hx]; exact ih h
      · rw [if_neg hc]; simp only [List.lookup_cons, hx]; exact ih h
theorem relabel_free {env : Env} (hf : env.scope.kind = .function) : ∀ {names : List (Str × NameKind)} {y : Str}, names.lookup y = some .free → env.kindOf y = some .cell →
    (names.map fun (n, k) => if (k == NameKind.free && env.scope.kind == .function && env.kindOf n == some .cell) then (n, NameKind.cell) else (n, k)).lookup y = some .cell
  | [], _, h, _ => by simp at h
  | (n, k') :: r, y, h, hc => by
    have ih := @relabel_free env hf r y
    show List.lookup y ((if (k' == NameKind.free && env.scope.kind == .function && env.kindOf n == some .cell) = true then (n, NameKind.cell) else (n, k')) :: _) = _
    cases hx : y == n with
    | true =>
      simp only [List.lookup_cons, hx] at h
      cases h
      have := eq_of_beq hx
      subst this
      rw [hf, hc]
      simp [List.lookup_cons]
    | false =>
      simp only [List.lookup_cons, hx] at h
      by_cases hc' : (k' == NameKind.free && env.scope.kind == .function && env.kindOf n == some .cell) = true
      · rw [if_pos hc']; simp only [List.lookup_cons, hx]; exact ih h hc
      · rw [if_neg hc']; simp only [List.lookup_cons, hx]; exact ih h hc
theorem Ce.glo {env : Env} {scope : Scope} {y : Str} (h : scope.names.lookup y = some .globalImplicit) : (relabel scope env).names.lookup y = some .globalImplicit := relabel_same (by simp) h
theorem Ce.cell {env cenv : Env} {scope : Scope} {cl : List (Str × Addr)} (C : Ce env scope cl cenv) {y : Str} (hf : env.scope.kind = .function) (h : scope.names.lookup y = some .free) (hc : env.kindOf y = some .cell) : cenv.kindOf y = some .cell := by
  show cenv.scope.names.lookup y = _
  rw [C.sc]
  exact relabel_free hf h hc
theorem small2 {a b : Int} (ha : 0 ≤ a ∧ a ≤ 1000000000) (hb : -1000000000 ≤ b ∧ b ≤ 1000000000) : Builtin.Range.small a b 2 = true := by
  unfold Builtin.Range.small Builtin.Range.rangeSize
  simp only [Builtin.Range.rangeFitsLong, Bool.and_eq_true, Bool.or_eq_true, decide_eq_true_eq, beq_iff_eq, show (2 : Int) > 0 by decide, if_true]
  split <;> omega
theorem rangeSize2 (b : Int) : Builtin.Range.rangeSize 0 b 2 = (((b + 1) / 2).toNat : Int) := by
  unfold Builtin.Range.rangeSize
  simp only [show (2 : Int) > 0 by decide, if_true]
  split <;> omega
theorem Itb.range2 {x : Cx} {A : Around} {own : Own} {r : Addr} {b : Int} {tgt : Expr} (hh : A.handled = none) (kn : Kn x own (r, .rng 0 b 2)) (hb : -1000000000 ≤ b ∧ b ≤ 1000000000) :
    Itb x A own (.val (.ref r)) tgt ((List.range ((b + 1) / 2).toNat).map fun i => .int (2 * (i : Nat))) x.ro own id := by
  have := Itb.range (tgt := tgt) (k := ((b + 1) / 2).toNat) hh kn (small2 (by omega) (by omega)) (by rw [rangeSize2])
  simpa only [Int.zero_add] using this
def onInt (g : Int → AV) : AV → AV
  | .int k => g k
  | _ => .any
theorem map_onInt {α : Type} (g : Int → AV) (h : α → Int) (l : List α) : (l.map fun i => AV.int (h i)).map (onInt g) = l.map fun i => g (h i) := by
  rw [List.map_map]; rfl
/-- for over a range by ones -/
theorem N_forR {x : Cx} {A : Around} {own : Own} {env : Env} {n : Nat} {nm gn : List Str} (H : Fm n A env nm gn) {target iter : Expr} {body : List Stmt} {p : Pos} {Q : AFlow → Own → Prop}
    (h : WV x A (eval iter env) own fun a own1 => ∃ r lo hi, ∃ J : Nat → Own → Prop, a = .val (.ref r) ∧ Kn x own1 (r, .rng lo hi 1) ∧ (-1000000000 ≤ lo ∧ lo ≤ 1000000000 ∧ -1000000000 ≤ hi ∧ hi ≤ 1000000000) ∧ J 0 own1 ∧
      (∀ i own3, i < (hi - lo).toNat → J i own3 → WA x A env target (.int (lo + (i : Nat))) own3 fun own4 => WS x A (execs body env) own4 (LpPost (J (i + 1)) Q)) ∧
      (∀ own3, J (hi - lo).toNat own3 → Q .next own3))
    (hs : ∀ v, foldedSetIterable iter env v = pure v := by intro _; with_unfolding_all rfl) :
    WS x A (exec (.For target iter body [] p) env) own Q := by
  refine S_for H (WV.mono h fun a own1 ⟨r, lo, hi, J, e, kn, hb, j0, turn, done⟩ => ?_) hs
  subst e
  refine ⟨_, _, _, id, J, Itb.range1 H.hnd kn ⟨hb.1, hb.2.1⟩ ⟨hb.2.2.1, hb.2.2.2⟩, j0, fun i a own3 ha j => ?_, fun own3 j => done own3 (by simpa using j)⟩
  have hi' : i < (hi - lo).toNat := by
    rcases Nat.lt_or_ge i (hi - lo).toNat with h | h
    · exact h
    · rw [List.getElem?_map, List.getElem?_eq_none (by simpa using h)] at ha; cases ha
  have ea : a = .int (lo + (i : Nat)) := by
    rw [List.getElem?_map, List.getElem?_range hi'] at ha
    simp at ha; exact ha.symm
  subst ea
  exact turn i own3 hi' j
/-- for over a list of the ledger -/
theorem N_forL {x : Cx} {A : Around} {own : Own} {env : Env} {n : Nat} {nm gn : List Str} (H : Fm n A env nm gn) {target iter : Expr} {body : List Stmt} {p : Pos} {Q : AFlow → Own → Prop}
    (h : WV x A (eval iter env) own fun a own1 => ∃ l xs own2, ∃ J : Nat → Own → Prop, a = .val (.ref l) ∧ Sel (l, .list xs) own1 own2 ∧ J 0 own2 ∧
      (∀ i a own3, xs[i]? = some a → J i own3 → WA (wr x ((l, .list xs) :: x.ro)) A env target a own3 fun own4 => WS (wr x ((l, .list xs) :: x.ro)) A (execs body env) own4 (LpPost (J (i + 1)) fun f o => Q f ((l, .list xs) :: o))) ∧
      (∀ own3, J xs.length own3 → Q .next ((l, .list xs) :: own3)))
    (hs : ∀ v, foldedSetIterable iter env v = pure v := by intro _; with_unfolding_all rfl) :
    WS x A (exec (.For target iter body [] p) env) own Q := by
  refine S_for H (WV.mono h fun a own1 ⟨l, xs, own2, J, e, sel, j0, turn, done⟩ => ?_) hs
  subst e
  exact ⟨_, _, _, _, J, Itb.list H.hnd sel, j0, turn, done⟩
/-- for over a frozen list -/
theorem N_forF {x : Cx} {A : Around} {own : Own} {env : Env} {n : Nat} {nm gn : List Str} (H : Fm n A env nm gn) {target iter : Expr} {body : List Stmt} {p : Pos} {Q : AFlow → Own → Prop}
    (h : WV x A (eval iter env) own fun a own1 => ∃ l xs, ∃ J : Nat → Own → Prop, a = .val (.ref l) ∧ (l, AObj.list xs) ∈ x.ro ∧ J 0 own1 ∧
      (∀ i a own3, xs[i]? = some a → J i own3 → WA x A env target a own3 fun own4 => WS x A (execs body env) own4 (LpPost (J (i + 1)) Q)) ∧
      (∀ own3, J xs.length own3 → Q .next own3))
    (hs : ∀ v, foldedSetIterable iter env v = pure v := by intro _; with_unfolding_all rfl) :
    WS x A (exec (.For target iter body [] p) env) own Q := by
  refine S_for H (WV.mono h fun a own1 ⟨l, xs, J, e, hm, j0, turn, done⟩ => ?_) hs
  subst e
  exact ⟨_, _, _, id, J, Itb.lro H.hnd hm, j0, turn, done⟩
theorem bool_ok {b : Bool} {P : Bool → Prop} (h : P b) : ∃ t, AV.val (.bool b) = AV.val (.bool t) ∧ P t := ⟨b, rfl, h⟩
end
section
section
variable {x : Cx} {A : Around} {own : Own} {env : Env} {n : Nat} {nm gn : List Str} {Q : AV → Own → Prop}
/-- methods of built-in types -/
theorem M_any {o : Expr} {name : Str} {apos p : Pos} {es : List Expr} {T id : String} (hp : PlainAttrs T) (hsl : Slot T name id) (ht : typeOf (.builtin id) = pure (.type "method_descriptor"))
    (h : WV x A (eval o env) own fun oa own1 => AVTy x own1 oa T ∧ WVs x A env es own1 fun as own2 => WO x A (callv (.builtin id)) (oa :: as) own2 Q)
    (hs : backTo p (starEach es env) = es.map fun e => (false, eval e env) := by with_unfolding_all rfl)
    (h1 : attributeBase o name env (eval o env) = eval o env := by with_unfolding_all rfl) (h3 : (apos.endLine == p.line) = true := by with_unfolding_all rfl) (h2 : decide (es.length + 0 + 0 < 30) = true := by with_unfolding_all rfl) :
    WV x A (eval (.Call (.Attribute o name apos) es [] p) env) own Q := E_meth T id hp hsl ht h hs h1 h3 h2
theorem ty_toby : typeOf (.builtin "int.to_bytes") = pure (.type "method_descriptor") := F.type_int_to_bytes
theorem and_l {P R : Prop} (h : P) (r : R) : P ∧ R := ⟨h, r⟩
/-- attributes -/
theorem A_at {K : Own → Prop} {a d C : Addr} {es es' : List (Str × AV)} {y : Str} {b : AV} {own' : Own} (k1 : Kn x own (a, .inst C d)) (CO : ClsOk x.K C) (ta : OwnA x.K C y ∧ TakeA x.K C y) (u : Upd d (.attrs es) (.attrs es') own own') (p : PutA y b es es') (hz : es.length ≤ 1000) (q : K own') :
    ∃ a' d C es es' own2, AV.val (.ref a) = .val (.ref a') ∧ ClsOk x.K C ∧ TakeA x.K C y ∧ Kn x own (a', .inst C d) ∧ Upd d (.attrs es) (.attrs es') own own2 ∧ PutA y b es es' ∧ es.length ≤ 1000 ∧ K own2 :=
  ⟨a, d, C, es, es', own', rfl, CO, ta.2, k1, u, p, hz, q⟩
theorem W_at {a d C : Addr} {es : List (Str × AV)} {y : Str} {b : AV} (k1 : Kn x own (a, .inst C d)) (k2 : Kn x own (d, .attrs es)) (l : es.lookup y = some b) (CO : ClsOk x.K C) (oa : OwnA x.K C y ∧ TakeA x.K C y) (hb : b.handed) (q : Q b own) : WG x A (.val (.ref a)) y own Q :=
  W_own CO oa.1 k1 k2 l hb q
/-- a method of a made object -/
theorem M_inst {o : Expr} {name : Str} {apos p : Pos} {es : List Expr} {pl : Sem Bool}
    (h : WV x A (eval o env) own fun oa own1 => ∃ a d C at' f, oa = .val (.ref a) ∧ Kn x own1 (a, .inst C d) ∧ Kn x own1 (d, .attrs at') ∧ MethA x.K C name f ∧ ClsOk x.K C ∧ keepIn x.K (.ref f) = true ∧ at'.lookup name = none ∧
      WVs x A env es own1 fun as own2 => WO x A (callv (.ref f)) (.val (.ref a) :: as) own2 Q)
    (he : eval (.Call (.Attribute o name apos) es [] p) env = (do
      let ov ← eval o env
      standAt apos.atName
      let (f, first) ← holding [ov] (getMethod ov name pl)
      callWith p f first (backTo p (starEach es env)) []))
    (hs : backTo p (starEach es env) = es.map fun e => (false, eval e env) := by with_unfolding_all rfl) :
    WV x A (eval (.Call (.Attribute o name apos) es [] p) env) own Q :=
  E_methI (WV.mono h fun oa own1 ⟨a, d, C, at', f, e, k1, k2, m, CO, kf, l, h⟩ => ⟨a, d, C, at', f, e, CO, m, kf, k1, k2, l, e ▸ h⟩) he hs
theorem M_at {P : Addr → Addr → Prop} {a d C f : Addr} {at' : List (Str × AV)} {name : Str} (k1 : Kn x own (a, .inst C d)) (k2 : Kn x own (d, .attrs at')) (m : MethA x.K C name f) (CO : ClsOk x.K C) (kf : keepIn x.K (.ref f) = true) (l : at'.lookup name = none) (h : P a f) :
    ∃ a' d C at' f, AV.val (.ref a) = .val (.ref a') ∧ Kn x own (a', .inst C d) ∧ Kn x own (d, .attrs at') ∧ MethA x.K C name f ∧ ClsOk x.K C ∧ keepIn x.K (.ref f) = true ∧ at'.lookup name = none ∧ P a' f :=
  ⟨a, d, C, at', f, rfl, k1, k2, m, CO, kf, l, h⟩
/-- one object of the ledger at its head -/
theorem Upd.sel {a : Addr} {o o' : AObj} {l l' : Own} (u : Upd a o o' l l') : ∃ r, l.Perm ((a, o) :: r) ∧ l'.Perm ((a, o') :: r) := by
  induction u with
  | z => exact ⟨_, .refl _, .refl _⟩
  | @s p r r' _ ih =>
    obtain ⟨q, h1, h2⟩ := ih
    exact ⟨p :: q, (h1.cons p).trans (.swap ..), (h2.cons p).trans (.swap ..)⟩
theorem WO.upd {t : List Value → Sem Value} {args : List AV} {a : Addr} {o o' : AObj} {own' : Own} (u : Upd a o o' own own')
    (h : ∀ r, own.Perm ((a, o) :: r) → WO x A t args ((a, o) :: r) fun v o'' => List.Sublist ((a, o') :: r) o'' ∧ Q v own') : WO x A t args own Q := fun vs s R r => by
  obtain ⟨q, h1, h2⟩ := u.sel
  refine wpAny_mono (h q h1 vs s (R.perm h1) r) (fun v s' ⟨o'', S, av, ra, sub, qq⟩ => ?_) fun _ _ f => f
  exact ⟨own', ((S.forget sub).perm' h2.symm).perm h1.symm, av, ra, qq⟩
theorem Kn.sel {p : Addr × AObj} {a : Addr} {o : AObj} {r : Own} (k : Kn x own p) (h : own.Perm ((a, o) :: r)) (n : p ≠ (a, o)) : Kn x r p := by
  rcases k with k | k
  · rcases List.mem_cons.mp (h.mem_iff.mp k) with e | k
    · exact absurd e n
    · exact .inl k
  · exact .inr k
/-- freezing -/
theorem WP.frz {α : Type} {t : Sem α} {P : α → Shared → Own → Prop} {own own2 : Own} {p : Addr × AObj} (sel : Sel p own own2) (f : p.2.fz) (h : WP (wr x (p :: x.ro)) A t own2 fun a s o => P a s (p :: o)) : WP x A t own P :=
  WP.perm (WP.freeze f h) sel.perm
theorem WS.frz {t : Sem Flow} {Q : AFlow → Own → Prop} {own own2 : Own} {p : Addr × AObj} (sel : Sel p own own2) (f : p.2.fz) (h : WS (wr x (p :: x.ro)) A t own2 fun a o => Q a (p :: o)) : WS x A t own Q := WP.frz sel f h
theorem WV.frz {t : Sem Value} {own own2 : Own} {p : Addr × AObj} (sel : Sel p own own2) (f : p.2.fz) (h : WV (wr x (p :: x.ro)) A t own2 fun a o => Q a (p :: o)) : WV x A t own Q := WP.frz sel f h
theorem WO.frz {t : List Value → Sem Value} {args : List AV} {own own2 : Own} {p : Addr × AObj} (sel : Sel p own own2) (f : p.2.fz) (h : WO (wr x (p :: x.ro)) A t args own2 fun a o => Q a (p :: o)) : WO x A t args own Q := fun vs s R r => by
  have R' := R.perm sel.perm
  refine wpAny_mono (h vs s (R'.freeze f) r) (fun v s' ⟨o, S, av, ra, q⟩ => ?_) fun _ _ f => f
  exact ⟨_, (Step.thaw R' S).perm sel.perm.symm, av, ra, q⟩
theorem WO.kfrz {t : List Value → Sem Value} {args : List AV} {p : Addr × AObj} (k : Kn x own p) (f : p.2.fz)
    (h : ∀ r own', p ∈ r → (∀ q ∈ x.ro, q ∈ r) → (∀ q, Kn x own q → Kn (wr x r) own' q) → WO (wr x r) A t args own' fun v o => ∃ e, List.Sublist (e ++ own') o ∧ Q v (e ++ own)) : WO x A t args own Q := by
  rcases k with k | k
  · obtain ⟨own', hp⟩ : ∃ own', own.Perm (p :: own') := by
      obtain ⟨a, b, rfl⟩ := List.append_of_mem k
      exact ⟨a ++ b, List.perm_middle⟩
    have H := h (p :: x.ro) own' (.head _) (fun q hq => .tail _ hq) fun q kq => by
      rcases kq with kq | kq
      · rcases List.mem_cons.mp (hp.mem_iff.mp kq) with e | kq
        · exact .inr (e ▸ .head _)
        · exact .inl kq
      · exact .inr (.tail _ kq)
    intro vs s R r
    have R' := R.perm hp
    refine wpAny_mono (H vs s (R'.freeze f) r) (fun v s' ⟨o, S, av, ra, e, sub, q⟩ => ?_) fun _ _ f => f
    refine ⟨e ++ own, ?_, av, ra, q⟩
    have S2 := (Step.thaw R' (S.forget sub)).perm hp.symm
    exact S2.perm' ((List.perm_middle.symm).trans (List.Perm.append_left e hp.symm))
  · have H := h x.ro own k (fun q hq => hq) fun q kq => kq
    intro vs s R r
    refine wpAny_mono (H vs s R r) (fun v s' ⟨o, S, av, ra, e, sub, q⟩ => ?_) fun _ _ f => f
    exact ⟨e ++ own, S.forget sub, av, ra, q⟩
/-- one object is turned, its end told at the end -/
theorem WO.turn {t : List Value → Sem Value} {args : List AV} {a : Addr} {o : AObj} {β : Type} {o' : β → AObj} {own' : β → Own} (b0 : β) (u : ∀ b, Upd a o (o' b) own (own' b))
    (h : ∀ r, own.Perm ((a, o) :: r) → WO x A t args ((a, o) :: r) fun v o'' => ∃ e b, List.Sublist (e ++ (a, o' b) :: r) o'' ∧ Q v (e ++ own' b)) : WO x A t args own Q := by
  obtain ⟨q, h1, _⟩ := (u b0).sel
  intro vs s R r
  refine wpAny_mono (h q h1 vs s (R.perm h1) r) (fun v s' ⟨o'', S, av, ra, e, b, sub, qq⟩ => ?_) fun _ _ f => f
  obtain ⟨q3, g1, g2⟩ := (u b).sel
  have hq : q.Perm q3 := (h1.symm.trans g1).cons_inv
  refine ⟨e ++ own' b, ?_, av, ra, qq⟩
  exact ((S.forget sub).perm' (List.Perm.append_left e ((hq.cons _).trans g2.symm))).perm h1.symm
/-- freezing behind what stands ahead -/
theorem WO.kfrz' {t : List Value → Sem Value} {args : List AV} {p : Addr × AObj} {pre : Own} (k : Kn x own p) (f : p.2.fz)
    (h : ∀ r own', p ∈ r → (∀ q ∈ x.ro, q ∈ r) → (∀ q, Kn x own q → Kn (wr x r) own' q) → WO (wr x r) A t args (pre ++ own') fun v o => ∃ e, List.Sublist (e ++ own') o ∧ Q v (e ++ own)) : WO x A t args (pre ++ own) Q := by
  rcases k with k | k
  · obtain ⟨own', hp⟩ : ∃ own', own.Perm (p :: own') := by
      obtain ⟨a, b, rfl⟩ := List.append_of_mem k
      exact ⟨a ++ b, List.perm_middle⟩
    have H := h (p :: x.ro) own' (.head _) (fun q hq => .tail _ hq) fun q kq => by
      rcases kq with kq | kq
      · rcases List.mem_cons.mp (hp.mem_iff.mp kq) with e | kq
        · exact .inr (e ▸ .head _)
        · exact .inl kq
      · exact .inr (.tail _ kq)
    intro vs s R r
    have hp2 : (pre ++ own).Perm (p :: (pre ++ own')) := (List.Perm.append_left pre hp).trans List.perm_middle
    have R' := R.perm hp2
    refine wpAny_mono (H vs s (R'.freeze f) r) (fun v s' ⟨o, S, av, ra, e, sub, q⟩ => ?_) fun _ _ f => f
    refine ⟨e ++ own, ?_, av, ra, q⟩
    have S2 := (Step.thaw R' (S.forget sub)).perm hp2.symm
    exact S2.perm' ((List.perm_middle.symm).trans (List.Perm.append_left e hp.symm))
  · have H := h x.ro own k (fun q hq => hq) fun q kq => kq
    intro vs s R r
    refine wpAny_mono (H vs s R r) (fun v s' ⟨o, S, av, ra, e, sub, q⟩ => ?_) fun _ _ f => f
    exact ⟨e ++ own, S.forget sub, av, ra, q⟩
theorem WAs.nl {K : Own → Prop} (h : K own) : WAs x A env [] [] own K := h
theorem WAs.cn {t : Expr} {a : AV} {ts : List Expr} {as : List AV} {K : Own → Prop} (h : WA x A env t a own fun own' => WAs x A env ts as own' K) : WAs x A env (t :: ts) (a :: as) own K := h
/-- a cut behind a statement -/
def JQ (P : Own → Prop) (Q : AFlow → Own → Prop) : AFlow → Own → Prop
  | .next, o => P o
  | f, o => Q f o
theorem WS.join {t : Sem Flow} (P : Own → Prop) {Q : AFlow → Own → Prop} (h1 : WS x A t own (JQ P Q)) (h2 : ∀ o, P o → Q .next o) : WS x A t own Q :=
  WS.mono h1 fun f o h => by cases f <;> first | exact h2 o h | exact h
theorem JQ.nx {P : Own → Prop} {Q : AFlow → Own → Prop} {o : Own} (h : P o) : JQ P Q .next o := h
theorem JQ.rt {P : Own → Prop} {Q : AFlow → Own → Prop} {o : Own} {v : AV} (h : Q (.ret v) o) : JQ P Q (.ret v) o := h
theorem JQ.ct {P : Own → Prop} {Q : AFlow → Own → Prop} {o : Own} (h : Q .cont o) : JQ P Q .cont o := h
theorem JQ.bk {P : Own → Prop} {Q : AFlow → Own → Prop} {o : Own} (h : Q .brk o) : JQ P Q .brk o := h
end
end
section
theorem IfB.nt {P R : Prop} (h : P) : IfB (!false) P R := h
theorem IfB.nf {P R : Prop} (h : R) : IfB (!true) P R := h
section
variable {x : Cx} {A : Around} {own : Own} {Q : AV → Own → Prop}
theorem D_getI {l : Addr} {es : List (Int × AV)} {k : Int} {a : AV} (kn : Kn x own (l, .dictI es)) (e : lookK es k = some a) (q : Q a own) : WO x A getI [.val (.ref l), .int k] own Q := D_get (dkI x) kn e q
theorem D_getS {l : Addr} {es : List (Str × AV)} {k : Str} {a : AV} (kn : Kn x own (l, .dictS es)) (e : lookK es k = some a) (q : Q a own) : WO x A getI [.val (.ref l), .str k] own Q := D_get (dkS x) kn e q
theorem D_setI {l : Addr} {es : List (Int × AV)} {k : Int} {a : AV} {own' : Own} {P : Own → Prop} (hz : es.length < 10000000) (u : Upd l (.dictI es) (.dictI (putK es k a)) own own') (q : P own') : WOU x A setI [.val (.ref l), .int k, a] own P := D_set (dkI x) (by omega) u q
theorem D_newI {env : Env} {p : Pos} (q : ∀ d, Q (.val (.ref d)) ((d, .dictI []) :: own)) : WV x A (eval (.Dict [] [] p) env) own Q := D_new (dkI x) q
end
theorem G_last {x : Cx} {A : Around} {own : Own} {Q : AV → Own → Prop} {l : Addr} {xs : List AV} {a : AV} (kn : Kn x own (l, .list xs)) (hz : xs.length < 1000000) (e : xs.getLast? = some a) (q : Q a own) : WO x A getI [.val (.ref l), .int (-1)] own Q := by
  have hne : xs.length ≠ 0 := by intro h; rw [List.length_eq_zero_iff.mp h] at e; cases e
  refine G_neg kn (by omega) (by omega) (by omega) ?_ q
  rw [List.getLast?_eq_getElem?] at e
  rw [show ((-1 : Int) + (xs.length : Int)).toNat = xs.length - 1 by omega]
  exact e
/-- a stop for the walker -/
def CutQ (Q : AFlow → Own → Prop) (f : AFlow) (o : Own) : Prop := Q f o
theorem CutQ.i {Q : AFlow → Own → Prop} {f : AFlow} {o : Own} (h : Q f o) : CutQ Q f o := h
theorem WS.cut {x : Cx} {A : Around} {own : Own} {t : Sem Flow} {Q : AFlow → Own → Prop} (h : WS x A t own (CutQ Q)) : WS x A t own Q := h
end
section
theorem RetQ.up {Q : AV → Own → Prop} {f : AFlow} {o o2 : Own} (h : RetQ Q f o) (s : List.Sublist o o2) : RetQ Q f o2 := by
  obtain ⟨o', h1, h2⟩ := h
  exact ⟨o', h1.trans s, h2⟩
theorem swaps_true {A : Around} {env : Env} {n : Nat} {nm gn : List Str} (H : Fm n A env nm gn) {elt : Expr} {gens : List Comprehension} {scope : Scope} {pos py : Pos} {y : Str} {l : Nat} (hy : y ∈ nm) (hp : (py.line == pos.line) = true)
    (hn : (scope.names.any fun p => p.1 == y && (p.2 == .local || p.2 == .cell)) = false) : swapsWith (.ListComp elt gens scope pos) (some (.Name y py)) l env = pure true := by
  unfold swapsWith
  have hb : (env.blockKind == .function) = true := by
    unfold Env.blockKind
    rw [H.kind]; rfl
  have hk : (env.kindOf y == some .local) = true := by rw [(H.loc y hy).1]; rfl
  show (pure (env.blockKind == .function && env.kindOf y == some .local && py.line == pos.line && !(scope.names.any fun p => p.1 == y && (p.2 == .local || p.2 == .cell))) : Sem Bool) = _
  rw [hb, hk, hp, hn]
  rfl
/-- a turn's leavings dropped -/
def Gb (J : Own → Prop) : Own → Prop := fun o => ∃ o', List.Sublist o' o ∧ J o'
theorem Gb.mk {J : Own → Prop} {o o' : Own} (s : List.Sublist o' o) (j : J o') : Gb J o := ⟨o', s, j⟩
theorem WS.gb {x : Cx} {A : Around} {own : Own} {t : Sem Flow} {J : Own → Prop} {Q : AFlow → Own → Prop} (h : WS x A t own (LpPost (Gb J) Q)) : WS x A t own (LpPost J Q) := by
  refine WP.drop h fun f s o ⟨af, rf, q⟩ => ?_
  cases af with
  | next => obtain ⟨o', h1, h2⟩ := q; exact ⟨o', h1, .next, rf, h2⟩
  | cont => obtain ⟨o', h1, h2⟩ := q; exact ⟨o', h1, .cont, rf, h2⟩
  | brk => exact ⟨o, List.Sublist.refl _, .brk, rf, q⟩
  | ret v => exact ⟨o, List.Sublist.refl _, .ret v, rf, q⟩
theorem WA.mono {x : Cx} {A : Around} {env : Env} {t : Expr} {a : AV} {own : Own} {K K' : Own → Prop} (h : WA x A env t a own K) (k : ∀ o, K o → K' o) : WA x A env t a own K' :=
  fun v s R r => wpAny_mono (h v s R r) (fun _ _ ⟨o, S, q⟩ => ⟨o, S, k o q⟩) fun _ _ f => f
theorem N_forRg {x : Cx} {A : Around} {own : Own} {env : Env} {n : Nat} {nm gn : List Str} (H : Fm n A env nm gn) {target iter : Expr} {body : List Stmt} {p : Pos} {Q : AFlow → Own → Prop}
    (h : WV x A (eval iter env) own fun a own1 => ∃ r lo hi, ∃ J : Nat → Own → Prop, a = .val (.ref r) ∧ Kn x own1 (r, .rng lo hi 1) ∧ (-1000000000 ≤ lo ∧ lo ≤ 1000000000 ∧ -1000000000 ≤ hi ∧ hi ≤ 1000000000) ∧ J 0 own1 ∧
      (∀ i own3, i < (hi - lo).toNat → J i own3 → WA x A env target (.int (lo + (i : Nat))) own3 fun own4 => WS x A (execs body env) own4 (LpPost (Gb (J (i + 1))) Q)) ∧
      (∀ own3, J (hi - lo).toNat own3 → Q .next own3))
    (hs : ∀ v, foldedSetIterable iter env v = pure v := by intro _; with_unfolding_all rfl) :
    WS x A (exec (.For target iter body [] p) env) own Q :=
  N_forR H (WV.mono h fun a own1 ⟨r, lo, hi, J, e, kn, hb, j0, turn, done⟩ => ⟨r, lo, hi, J, e, kn, hb, j0, fun i own3 hi j => WA.mono (turn i own3 hi j) fun _ => WS.gb, done⟩) hs
theorem N_forLg {x : Cx} {A : Around} {own : Own} {env : Env} {n : Nat} {nm gn : List Str} (H : Fm n A env nm gn) {target iter : Expr} {body : List Stmt} {p : Pos} {Q : AFlow → Own → Prop}
    (h : WV x A (eval iter env) own fun a own1 => ∃ l xs own2, ∃ J : Nat → Own → Prop, a = .val (.ref l) ∧ Sel (l, .list xs) own1 own2 ∧ J 0 own2 ∧
      (∀ i a own3, xs[i]? = some a → J i own3 → WA (wr x ((l, .list xs) :: x.ro)) A env target a own3 fun own4 => WS (wr x ((l, .list xs) :: x.ro)) A (execs body env) own4 (LpPost (Gb (J (i + 1))) fun f o => Q f ((l, .list xs) :: o))) ∧
      (∀ own3, J xs.length own3 → Q .next ((l, .list xs) :: own3)))
    (hs : ∀ v, foldedSetIterable iter env v = pure v := by intro _; with_unfolding_all rfl) :
    WS x A (exec (.For target iter body [] p) env) own Q :=
  N_forL H (WV.mono h fun a own1 ⟨l, xs, own2, J, e, sel, j0, turn, done⟩ => ⟨l, xs, own2, J, e, sel, j0, fun i a own3 hi j => WA.mono (turn i a own3 hi j) fun _ => WS.gb, done⟩) hs
theorem E_byts {x : Cx} {A : Around} {own : Own} {env : Env} {Q : AV → Own → Prop} {k : Nat} {p : Pos} (q : Q (.byt []) own) : WV x A (eval (.Constant (.bytes []) k p) env) own Q := fun s R =>
  Constant_bytes ⟨own, Step.toks R, _, rep_mk_byt rfl, q⟩
end
local macro_rules
  | `(tactic| walk_at "y.mem") => `(tactic| ((repeat (first | exact List.mem_cons_self | assumption | refine List.mem_cons_of_mem _ ?_)); done))
  | `(tactic| walk_at "y.upd") => `(tactic| ((repeat (first | exact Upd.z | assumption | apply Upd.s)); done))
  | `(tactic| walk_at "y.look") => `(tactic| ((repeat (first | exact Look.z | apply Look.s)); done))
  | `(tactic| walk_at "y.setl") => `(tactic| ((repeat (first | exact SetL.z | apply SetL.s)); done))
  | `(tactic| walk_at "y.sel") => `(tactic| ((repeat (first | exact Sel.z | assumption | apply Sel.s)); done))
  | `(tactic| walk_at "y.sub") => `(tactic| first | exact List.Sublist.refl _ | (refine List.Sublist.cons_cons _ ?_; walk_at "y.sub") | (refine List.Sublist.cons _ ?_; walk_at "y.sub"))
  | `(tactic| walk_at "y.kn") => `(tactic| first | exact Kn.own (by tb_rel) | ((repeat refine Kn.tail ?_); assumption) | exact Kn.ro (by tb_rel))
  | `(tactic| walk_at "y.more") => `(tactic| first
    | (show List.Sublist _ (id _); dsimp only [id]; walk_at "y.sub")
    | (show List.Sublist _ _; walk_at "y.sub")
    | (show PutA _ _ _ _; first | exact PutA.nil | exact PutA.here | (apply PutA.skip; (focus (decide +kernel)); tb_rel))
    | (show Cle _ _; first | exact Cle.builtin | exact Cle.type | (refine Top.cle (by assumption) (by tb_rel)))
    | (show SetAt _ _ _ _; with_unfolding_all first | exact SetAt.z | (apply SetAt.s; tb_rel)))
local macro_rules | `(tactic| tb_rel) => `(tactic| with_reducible first
  | (show @Membership.mem _ (List _) List.instMembership _ _; walk_at "y.mem")
  | (show Kn _ _ _; walk_at "y.kn")
  | (show Upd _ _ _ _ _; walk_at "y.upd")
  | (show Look _ _ _ _; walk_at "y.look")
  | (show SetL _ _ _ _ _; walk_at "y.setl")
  | (show Sel _ _ _; walk_at "y.sel")
  | walk_at "y.more")
local macro_rules
  | `(tactic| walk_at "y.name") => `(tactic| first
      | refine N_loc (by assumption) (by tb_rel) (by tb_rel) (by with_unfolding_all exact trivial) ?_
      | refine E_cell (by assumption) (by assumption) (by assumption) (by tb_rel) (by with_unfolding_all exact trivial) ?_
      | refine N_glo (by assumption) (by tb_rel) (by assumption) ?_)
  | `(tactic| walk_at "y.const") => `(tactic| first
    | (show WV _ _ (eval (Expr.Constant (Const.int _) _ _) _) _ _; refine E_int ?_)
    | (show WV _ _ (eval (Expr.Constant (Const.str _) _ _) _) _ _; refine E_str ?_)
    | (show WV _ _ (eval (Expr.Constant Const.none _ _) _) _ _; refine E_none ?_)
    | (show WV _ _ (eval (Expr.Constant (Const.bool _) _ _) _) _ _; refine E_bool ?_)
    | (show WV _ _ (eval (Expr.Constant (Const.bytes []) _ _) _) _ _; refine E_byts ?_))
  | `(tactic| walk_at "y.meth") => `(tactic| first
      | (show WV _ _ (eval (Expr.Call (Expr.Attribute _ (Str.ofString "append") _) _ _ _) _) _ _; refine M_any F.plainAttrs_list F.slot_list_append F.type_list_append ?_)
      | (show WV _ _ (eval (Expr.Call (Expr.Attribute _ (Str.ofString "extend") _) _ _ _) _) _ _; refine M_any F.plainAttrs_list F.slot_list_extend F.type_list_extend ?_)
      | (show WV _ _ (eval (Expr.Call (Expr.Attribute _ (Str.ofString "insert") _) _ _ _) _) _ _; refine M_any F.plainAttrs_list F.slot_list_insert F.type_list_insert ?_)
      | (show WV _ _ (eval (Expr.Call (Expr.Attribute _ (Str.ofString "pop") _) _ _ _) _) _ _; refine M_any F.plainAttrs_list F.slot_list_pop F.type_list_pop ?_)
      | (show WV _ _ (eval (Expr.Call (Expr.Attribute _ (Str.ofString "sort") _) _ _ _) _) _ _; refine M_any F.plainAttrs_list F.slot_list_sort F.type_list_sort ?_)
      | (show WV _ _ (eval (Expr.Call (Expr.Attribute _ (Str.ofString "keys") _) _ _ _) _) _ _; refine M_any F.plainAttrs_dict F.slot_dict_keys F.type_dict_keys ?_)
      | (show WV _ _ (eval (Expr.Call (Expr.Attribute _ (Str.ofString "values") _) _ _ _) _) _ _; refine M_any F.plainAttrs_dict F.slot_dict_values F.type_dict_values ?_)
      | (show WV _ _ (eval (Expr.Call (Expr.Attribute _ (Str.ofString "items") _) _ _ _) _) _ _; refine M_any F.plainAttrs_dict F.slot_dict_items F.type_dict_items ?_)
      | (show WV _ _ (eval (Expr.Call (Expr.Attribute _ (Str.ofString "get") _) _ _ _) _) _ _; refine M_any F.plainAttrs_dict F.slot_dict_get F.type_dict_get ?_)
      | (show WV _ _ (eval (Expr.Call (Expr.Attribute _ (Str.ofString "to_bytes") _) _ _ _) _) _ _; refine M_any F.plainAttrs_int F.slot_int_to_bytes F.type_int_to_bytes ?_)
      | (show WV _ _ (eval (Expr.Call (Expr.Attribute _ (Str.ofString "join") _) _ _ _) _) _ _; refine M_any PySem.W.FB.plainAttrs_bytes slot_bjoin ty_bjoin ?_)
      | refine M_inst ?_ (by with_unfolding_all rfl))
  | `(tactic| walk_at "y.call") => `(tactic| first
    | (show WV _ _ (eval (Expr.Call (Expr.Name _ _) _ _ _) _) _ _; refine N_call (by assumption) (by tb_rel) (by assumption) (by tb_rel) ?_)
    | (show WV _ _ (eval (Expr.Call (Expr.Attribute _ _ _) _ _ _) _) _ _; walk_at "y.meth"))
  | `(tactic| walk_at "y.v") => `(tactic| first
    | (show WV _ _ (eval (Expr.Name _ _) _) _ _; walk_at "y.name")
    | (show WV _ _ (eval (Expr.Constant _ _ _) _) _ _; walk_at "y.const")
    | (show WV _ _ (eval (Expr.Call _ _ _ _) _) _ _; walk_at "y.call")
    | (show WV _ _ (eval (Expr.BinOp _ _ _ _) _) _ _; refine E_bin ?_)
    | (show WV _ _ (eval (Expr.Subscript _ (Expr.Slice _ _ _ _) _) _) _ _; refine E_slice ?_)
    | (show WV _ _ (eval (Expr.Subscript _ _ _) _) _ _; refine E_sub ?_)
    | walk_at "y.v2")
  | `(tactic| walk_at "y.v2") => `(tactic| first
    | (show WV _ _ (eval (Expr.Compare _ _ _ _) _) _ _; refine V_cmp ?_)
    | (show WV _ _ (eval (Expr.BoolOp BoolOp.And _ _) _) _ _; refine V_and ?_)
    | (show WV _ _ (eval (Expr.BoolOp BoolOp.Or _ _) _) _ _; refine V_or ?_)
    | (show WV _ _ (eval (Expr.UnaryOp _ _ _) _) _ _; refine E_una ?_)
    | (show WV _ _ (eval (Expr.IfExp _ _ _ _) _) _ _; refine N_ife ?_)
    | (show WV _ _ (eval (Expr.Attribute _ _ _) _) _ _; refine E_attr ?_)
    | (show WV _ _ (eval (Expr.Tuple _ _ _) _) _ _; refine E_tup ?_)
    | (show WV _ _ (eval (Expr.List _ _) _) _ _; refine E_list ?_))
  | `(tactic| walk_at "y.get") => `(tactic| first
      | (show WO _ _ getI [AV.val _, AV.int _] _ _; (fail_if_success show WO _ _ getI [AV.val _, AV.int (-_)] _ _); first
        | refine G_ints (by tb_rel) ?_ ?_ ?_ ?_
        | refine G_lit (by tb_rel) ?_ ?_ (by with_unfolding_all rfl) ?_
        | refine D_getI (by tb_rel) (by assumption) ?_)
      | (show WO _ _ getI [AV.val _, AV.str _] _ _; refine D_getS (by tb_rel) (by assumption) ?_)
      | (show WO _ _ getI [AV.byt _, AV.int _] _ _; refine G_byt ?_ ?_ ?_ (fun _ => ?_))
      | (show WO _ _ getI [AV.tup _, AV.int _] _ _; refine G_tup (by decide) (by decide) (by with_unfolding_all rfl) ?_))
  | `(tactic| walk_at "y.bop") => `(tactic| first
      | (show WO _ _ (bop Operator.Add) [AV.int _, AV.int _] _ _; refine O_add ?_)
      | (show WO _ _ (bop Operator.Sub) _ _ _; refine O_sub ?_)
      | (show WO _ _ (bop Operator.Mult) _ _ _; refine O_mulr ?_ ?_)
      | (show WO _ _ (bop Operator.FloorDiv) _ _ _; refine O_divs ?_ ?_)
      | (show WO _ _ (bop Operator.Mod) _ _ _; refine O_mod ?_ ?_)
      | (show WO _ _ (bop Operator.RShift) _ _ _; refine O_rsh1 ?_ ?_)
      | (show WO _ _ (bop Operator.LShift) _ _ _; refine O_lsh ?_ ?_ ?_)
      | (show WO _ _ (bop Operator.BitAnd) _ _ _; refine O_and ?_)
      | (show WO _ _ (bop Operator.BitOr) _ _ _; refine O_or ?_)
      | (show WO _ _ (bop Operator.Pow) _ _ _; refine O_pow2 ?_ ?_ ?_)
      | (show WO _ _ (bop Operator.Add) [AV.str _, AV.str _] _ _; refine O_cat ?_ ?_)
      | (show WO _ _ (bop Operator.Add) [AV.byt _, AV.byt _] _ _; refine O_catb ?_ ?_)
      | (show WO _ _ (bop Operator.Add) [AV.val _, AV.val _] _ _; refine O_catl ?_ (by tb_rel) (by tb_rel) (fun _ => ?_)))
  | `(tactic| walk_at "y.cb") => `(tactic| first
      | (show WO _ _ (callv (Value.builtin "len")) [AV.val _] _ _; first | refine C_len_ints (by tb_rel) ?_ ?_ | refine C_len_list (by tb_rel) ?_ ?_)
      | (show WO _ _ (callv (Value.builtin "len")) [AV.byt _] _ _; refine C_len_byt ?_ ?_)
      | (show WO _ _ (callv (Value.builtin "list.append")) _ _ _; refine L_append ?_ (by tb_rel) ?_)
      | (show WO _ _ (callv (Value.builtin "max")) _ _ _; refine C_max (by assumption) ?_)
      | (show WO _ _ (callv (Value.builtin "min")) _ _ _; refine C_min (by assumption) ?_)
      | (show WO _ _ (callv (Value.builtin "int.to_bytes")) _ _ _; refine C_to_bytes ?_ ?_ ?_))
  | `(tactic| walk_at "y.ct") => `(tactic| first
      | (show WO _ _ (callv (Value.type "range")) [_] _ _; refine C_range1 (fun _ => ?_))
      | (show WO _ _ (callv (Value.type "range")) [_, _] _ _; refine C_range2 (fun _ => ?_))
      | (show WO _ _ (callv (Value.type "range")) [_, _, _] _ _; refine C_range3 ?_ (fun _ => ?_))
      | (show WO _ _ (callv (Value.type "int")) _ _ _; refine C_int ?_))
  | `(tactic| walk_at "y.o") => `(tactic| first
    | (show WO _ _ getI _ _ _; walk_at "y.get")
    | (show WO _ _ (bop _) _ _ _; walk_at "y.bop")
    | (show WO _ _ (callv (Value.builtin _)) _ _ _; walk_at "y.cb")
    | (show WO _ _ (callv (Value.type _)) _ _ _; walk_at "y.ct")
    | (show WO _ _ (iop _) _ _ _; first | refine O_iadd ?_ | refine O_isub ?_ | refine O_iand ?_)
    | (show WO _ _ (uop _) _ _ _; refine U_neg ?_))
  | `(tactic| walk_at "y.s") => `(tactic| first
    | (show WS _ _ (execs _ _) _ _; first | refine SS_cons ?_ | refine SS_nil ?_)
    | (show WS _ _ (exec (Stmt.Assign [Expr.Subscript _ _ _] _ _) _) _ _; refine S_asgsub ?_)
    | (show WS _ _ (exec (Stmt.Assign [_] _ _) _) _ _; refine S_asg ?_)
    | (show WS _ _ (exec (Stmt.AugAssign (Expr.Name _ _) _ _ _) _) _ _; refine N_aug (by assumption) (by tb_rel) (by tb_rel) (by with_unfolding_all exact trivial) ?_)
    | (show WS _ _ (exec (Stmt.AugAssign (Expr.Subscript _ _ _) _ _ _) _) _ _; refine S_augsub ?_)
    | (show WS _ _ (exec (Stmt.If _ _ _ _) _) _ _; refine N_if ?_)
    | (show WS _ _ (exec (Stmt.Return _ _) _) _ _; refine S_ret ?_)
    | (show WS _ _ (exec (Stmt.Expr _ _) _) _ _; refine S_expr (by assumption) ?_)
    | (show WS _ _ (exec (Stmt.Assert _ _ _) _) _ _; refine N_assert ?_)
    | (show WS _ _ (exec (Stmt.Pass _) _) _ _; refine S_pass ?_)
    | (show WS _ _ (exec (Stmt.Continue _) _) _ _; refine S_cont ?_)
    | (show WS _ _ (exec (Stmt.Break _) _) _ _; refine S_brk ?_))
  | `(tactic| walk_at "y.a") => `(tactic| first
  | (show WA _ _ _ (Expr.Name _ _) _ _ _; first
    | refine N_set (by assumption) (by tb_rel) (by tb_rel) (by with_unfolding_all exact trivial) ?_
    | refine A_cell (by assumption) (by assumption) (by assumption) (by tb_rel) ?_)
  | (show WA _ _ _ (Expr.Attribute _ _ _) _ _ _; refine A_attr fun _ _ _ _ => ?_)
  | (show WA _ _ _ (Expr.Tuple _ _ _) (AV.tup _) _ _; refine A_tup (by assumption) ?_ (by with_unfolding_all rfl) (by with_unfolding_all rfl)))
  | `(tactic| walk_at "y.b") => `(tactic| first
    | (show WB _ _ (isTrue (Expr.Compare _ [_] _ _) _ _) _ _; refine T_cmp ?_)
    | (show WB _ _ (isTrue (Expr.Compare _ [_, _] _ _) _ _) _ _; refine T_cmp2 ?_)
    | (show WB _ _ (isTrue (Expr.BoolOp BoolOp.And _ _) _ _) _ _; refine T_and ?_)
    | (show WB _ _ (isTrue (Expr.BoolOp BoolOp.Or _ _) _ _) _ _; refine T_or ?_)
    | (show WB _ _ (allTrue BoolOp.And (_ :: _) _) _ _; refine Al_cons ?_)
    | (show WB _ _ (allTrue BoolOp.And [] _) _ _; refine Al_nil ?_)
    | (show WB _ _ (allTrue BoolOp.Or (_ :: _) _) _ _; refine Ol_cons ?_)
    | (show WB _ _ (allTrue BoolOp.Or [] _) _ _; refine Ol_nil ?_)
    | (show WB _ _ (isTrue (Expr.UnaryOp UnaryOp.Not _ _) _ _) _ _; refine B_not ?_)
    | refine B_val ?_)
  | `(tactic| walk_at "y.c") => `(tactic| first
    | (show WC _ _ CmpOp.Lt (AV.int _) (AV.int _) _ _; refine C_lt (fun h => ?_) (fun h => ?_))
    | (show WC _ _ CmpOp.Gt (AV.int _) (AV.int _) _ _; refine C_gt (fun h => ?_) (fun h => ?_))
    | (show WC _ _ CmpOp.LtE (AV.int _) (AV.int _) _ _; refine C_le (fun h => ?_) (fun h => ?_))
    | (show WC _ _ CmpOp.GtE (AV.int _) (AV.int _) _ _; refine C_ge (fun h => ?_) (fun h => ?_))
    | (show WC _ _ CmpOp.Eq (AV.int _) (AV.int _) _ _; refine C_eq (fun h => ?_) (fun h => ?_))
    | (show WC _ _ CmpOp.NotEq (AV.int _) (AV.int _) _ _; refine C_ne (fun h => ?_) (fun h => ?_))
    | (show WC _ _ CmpOp.Is _ _ _ _; first | refine C_isn rfl ?_ | refine C_iss (by with_unfolding_all exact trivial) ?_)
    | (show WC _ _ CmpOp.IsNot _ _ _ _; refine C_isnt (by with_unfolding_all exact trivial) ?_))
  | `(tactic| walk_at "y.t") => `(tactic| first
    | (show WT _ _ (AV.int _) _ _; refine T_int (fun h => ?_) (fun h => ?_))
    | (show WT _ _ (AV.val Value.none) _ _; refine T_none ?_)
    | (show WT _ _ (AV.val (Value.bool _)) _ _; refine T_bool ?_)
    | (show WT _ _ (AV.val (Value.ref _)) _ _; refine T_list (by tb_rel) ?_ (fun h => ?_) (fun h => ?_)))
  | `(tactic| walk_at "y.and") => `(tactic| first
    | (show AVTy _ _ _ "list" ∧ _; refine and_l (AVTy.list (by tb_rel)) ?_)
    | (show AVTy _ _ _ "int" ∧ _; refine and_l AVTy.int ?_)
    | (show AVTy _ _ _ "bytes" ∧ _; refine and_l AVTy.byt ?_)
    | (show AVTy _ _ _ "dict" ∧ _; first
      | refine and_l (AVTy.dictI (by tb_rel)) ?_
      | refine and_l (AVTy.dictS (by tb_rel)) ?_
      | refine and_l (AVTy.dictH (dhI _) (by tb_rel)) ?_
      | refine and_l (AVTy.dictH (dhS _) (by tb_rel)) ?_)
    | (show (List.length _ : Int) < 10000000 ∧ _; first
      | refine len_ok (by simp only [List.length_cons, List.length_nil] <;> omega) (fun _ => ?_)
      | refine len_ok (by simp only [List.length_cons, List.length_nil] <;> omega) ?_))
  | `(tactic| walk_at "y.ex") => `(tactic| first
  | (show ∃ T id, AVTy _ _ _ T ∧ typeLookup (Value.type T) _ = pure (some (Value.builtin id)) ∧ _; first
    | (show ∃ T id, AVTy _ _ (AV.byt _) T ∧ typeLookup (Value.type T) _ = pure (some (Value.builtin id)) ∧ _; refine ⟨"bytes", "bytes.__getitem__", AVTy.byt, look_bytes, ?_⟩)
    | (show ∃ T id, AVTy _ _ (AV.str _) T ∧ typeLookup (Value.type T) _ = pure (some (Value.builtin id)) ∧ _; refine ⟨"str", "str.__getitem__", AVTy.str, look_str, ?_⟩)
    | (show ∃ T id, AVTy _ _ (AV.tup _) T ∧ typeLookup (Value.type T) _ = pure (some (Value.builtin id)) ∧ _; refine ⟨"tuple", "tuple.__getitem__", AVTy.tup, look_tuple, ?_⟩)
    | refine ⟨"list", "list.__getitem__", AVTy.list (by tb_rel), look_list, ?_⟩
    | refine ⟨"dict", "dict.__getitem__", AVTy.dictI (by tb_rel), look_dict, ?_⟩
    | refine ⟨"dict", "dict.__getitem__", AVTy.dictS (by tb_rel), look_dict, ?_⟩)
  | (show ∃ j, AV.int _ = AV.int j ∧ _; refine P_int ?_)
  | (show ∃ t, AV.val (Value.bool _) = AV.val (Value.bool t) ∧ _; refine bool_ok ?_)
  | (show ∃ a' d C es es' own2, AV.val (Value.ref _) = AV.val (Value.ref a') ∧ ClsOk _ C ∧ _; refine A_at (by tb_rel) (by assumption) (by assumption) (by tb_rel) (by tb_rel) (by simp only [List.length_cons, List.length_nil] <;> omega) ?_)
  | (show ∃ a' d C at' f, AV.val (Value.ref _) = AV.val (Value.ref a') ∧ Kn _ _ (a', AObj.inst C d) ∧ _; refine M_at (by tb_rel) (by tb_rel) (by assumption) (by assumption) (Top.k_calls (by assumption) _ (by tb_rel)) (by with_unfolding_all rfl) ?_))
  | `(tactic| walk_at "y.w") => `(tactic| first
  | (show WOU _ _ _ [AV.val _, AV.int _, _] _ _; refine N_seti (by tb_rel) ?_ ?_ (by tb_rel) (by tb_rel) ?_)
  | (show WG _ _ _ _ _ _; refine W_at (by tb_rel) (by tb_rel) (by with_unfolding_all rfl) (by assumption) (by assumption) (by with_unfolding_all exact trivial) ?_)
  | (show And _ _; walk_at "y.and")
  | (show Exists _; walk_at "y.ex")
  | (show WPart _ _ _ _ _ _; first | refine P_none ?_ | refine P_some ?_)
  | (show WSl _ _ (AV.val _) _ _ _ _; refine Sl_list (by tb_rel) ?_ (fun _ => ?_))
  | (show WSl _ _ (AV.byt _) _ _ _ _; refine Sl_byt ?_ ?_)
  | (show WAs _ _ _ _ _ _ _; first | refine WAs.cn ?_ | refine WAs.nl ?_)
  | (show JQ _ _ _ _; first | refine JQ.rt ?_ | refine JQ.ct ?_ | refine JQ.bk ?_)
  | (show LpPost _ _ _ _; first | refine LpPost.n ?_ | refine LpPost.c ?_ | refine LpPost.b ?_ | refine LpPost.r ?_))
  | `(tactic| walk_at "y.w0") => `(tactic| first
  | (show WA _ _ _ _ _ _ _; walk_at "y.a")
  | (show WSt _ _ _ _ _ _; refine N_store (by tb_rel) (by tb_rel) (by with_unfolding_all exact trivial) ?_)
  | (show WB _ _ _ _ _; walk_at "y.b")
  | (show WC _ _ _ _ _ _ _; walk_at "y.c")
  | (show IfB _ _ _; first | refine IfB.t ?_ | refine IfB.f ?_ | refine IfB.nt ?_ | refine IfB.nf ?_)
  | (show WT _ _ _ _ _; walk_at "y.t")
  | walk_at "y.w")
local macro_rules | `(tactic| tb_start) => `(tactic| with_reducible first
  | (show WV _ _ _ _ _; walk_at "y.v")
  | (show WO _ _ _ _ _ _; walk_at "y.o")
  | (show WVs _ _ _ _ _ _; first | refine V_cons ?_ | refine V_nil ?_)
  | (show WS _ _ _ _ _; walk_at "y.s")
  | (show Nx _ _ _ _ _ _ _; first | refine Nx.nx ?_ | refine Nx.r ?_ | refine Nx.b ?_ | refine Nx.c ?_)
  | walk_at "y.w0")
section
def lg (n : Nat) : Nat := Nat.log2 n
theorem lg_of {n e : Nat} (h1 : n / 2 ^ e = 0) (h2 : e = 0 ∨ n / 2 ^ (e - 1) ≠ 0) : max ((e : Int) - 1) 0 = (lg n : Nat) := by
  rcases h2 with rfl | h2
  · simp at h1; subst h1; decide
  · have h3 : n < 2 ^ e := by
      rcases Nat.lt_or_ge n (2 ^ e) with h | h
      · exact h
      · have := Nat.div_pos h (Nat.pow_pos (by decide)); omega
    have h4 : 2 ^ (e - 1) ≤ n := by
      rcases Nat.lt_or_ge n (2 ^ (e - 1)) with h | h
      · exact absurd (Nat.div_eq_of_lt h) h2
      · exact h
    have hn : n ≠ 0 := by intro h; subst h; simp at h2
    have e1 : e ≠ 0 := by intro h; subst h; simp at h3; omega
    have : Nat.log2 n = e - 1 := by
      have a := (Nat.log2_lt hn).mpr h3
      have b := (Nat.le_log2 hn).mpr h4
      omega
    unfold lg
    omega
theorem mp2_ok {x : Cx} (T : Top x.K x.h₀) {A : Around} {own : Own} {Q : AV → Own → Prop} (hl : Lv 2 A) {n : Nat} (hn : n ≤ 1000000) (q : Q (.int (lg n : Nat)) own) : WO x A (callv (.ref 138)) [.int (n : Nat)] own Q := by
  refine enter ["x", "exponent"] ["max"] [.int (n : Nat), .any] T.f_mp2 hl rfl (by with_unfolding_all rfl) (by decide +kernel) (by decide +kernel) (by decide +kernel) (by decide +kernel) (by decide +kernel) fun env A' H => ?_
  have hh := H.hnd
  have g1 := T.b_max
  refine SS_cons ?_
  repeat' tb_start
  refine N_while (fun m o => ∃ k e : Nat, o = (env.locals, AObj.ns ["x", "exponent"] [.int (k : Nat), .int (e : Nat)]) :: own ∧ m = k ∧ n / 2 ^ e = k ∧ (e = 0 ∨ n / 2 ^ (e - 1) ≠ 0)) n ⟨n, 0, rfl, rfl, by simp, .inl rfl⟩ ?_
  rintro k _ ⟨_, e, rfl, rfl, h1, h2⟩
  repeat' tb_start
  · omega
  · rename_i h
    refine ⟨k / 2, by omega, k / 2, e + 1, by rw [show (k : Int) / 2 = ((k / 2 : Nat) : Int) by omega, show (e : Int) + 1 = ((e + 1 : Nat) : Int) by omega], rfl, ?_, .inr ?_⟩
    · rw [Nat.pow_succ, ← Nat.div_div_eq_div_mul, h1]
    · simp only [Nat.add_sub_cancel]; omega
  · rename_i h
    rw [lg_of (n := n) (by omega) h2]
    exact RetQ.r q (by tb_rel)
/-- the search numbers -/
abbrev srOf (n m : Nat) : AV := .tup [.int (2 ^ lg n * (m : Nat) : Nat), .int (lg n : Nat), .int (max 0 ((n * m : Nat) - (2 ^ lg n * m : Nat)))]
theorem lg_le {n : Nat} (hn : n ≤ 1000000) : lg n ≤ 20 := by
  unfold lg
  by_cases h : n = 0
  · subst h; decide
  · have := (Nat.log2_lt (n := n) (k := 20) h).mpr (by omega)
    omega
theorem gsr_ok {x : Cx} (T : Top x.K x.h₀) {A : Around} {own : Own} {Q : AV → Own → Prop} (hl : Lv 3 A) {n m : Nat} (hn : n ≤ 1000000) (hm : m ≤ 1000) (q : Q (srOf n m) own) : WO x A (callv (.ref 146)) [.int (n : Nat), .int (m : Nat)] own Q := by
  refine enter ["n", "itemSize", "exponent", "searchRange", "entrySelector", "rangeShift"] ["maxPowerOfTwo", "max"] [.int (n : Nat), .int (m : Nat), .any, .any, .any, .any] T.f_gsr hl rfl (by with_unfolding_all rfl) (by decide +kernel) (by decide +kernel) (by decide +kernel) (by decide +kernel) (by decide +kernel) fun env A' H => ?_
  have hh := H.hnd
  have g1 := T.b_max
  have g2 := T.g_mp2
  have hlg := lg_le hn
  refine SS_cons ?_
  repeat' tb_start
  refine mp2_ok T H.lv hn ?_
  repeat' tb_start
  all_goals (try omega)
  refine RetQ.r (o := own) ?_ (by tb_rel)
  have e : (1 : Int) * 2 ^ ((lg n : Nat) : Int).toNat * (m : Nat) = ((2 ^ lg n * m : Nat) : Int) := by simp
  rw [e, show ((n : Nat) : Int) * (m : Nat) = ((n * m : Nat) : Int) by simp]
  exact q
/-- a word with its sign -/
def signed (w : Int) : Int := if w > 32767 then w - 65536 else w
theorem signed_ok {x : Cx} (T : Top x.K x.h₀) {A : Around} {own : Own} {Q : AV → Own → Prop} (hl : Lv 2 A) {w : Int} (q : Q (.int (signed w)) own) : WO x A (callv (.ref 289)) [.int w] own Q := by
  refine enter ["word"] [] [.int w] T.f_signed hl rfl (by with_unfolding_all rfl) (by decide +kernel) (by decide +kernel) (by decide +kernel) (by decide +kernel) (by decide +kernel) fun env A' H => ?_
  refine SS_cons ?_
  repeat' tb_start
  · rename_i h
    refine RetQ.r (o := own) ?_ (by tb_rel)
    rw [show w - 65536 = signed w by unfold signed; rw [if_pos (by omega)]]; exact q
  · rename_i h
    refine RetQ.r (o := own) ?_ (by tb_rel)
    have e : signed w = w := by unfold signed; rw [if_neg (by omega)]
    rw [e] at q; exact q
end
section
/-- the draw -/
def nextVal (xs : List Int) (i : Nat) (lim : Int) : Int := if xs.length < i + 1 then 0 else xs.getD i 0 % lim
theorem nextVal_in (xs : List Int) (i : Nat) {lim : Int} (h : 0 < lim) : 0 ≤ nextVal xs i lim ∧ nextVal xs i lim < lim := by
  unfold nextVal
  split
  · omega
  · exact ⟨Int.emod_nonneg _ (by omega), Int.emod_lt_of_pos _ h⟩
theorem next_ok {x : Cx} (T : Top x.K x.h₀) {A : Around} (hl : Lv 2 A)
    {own own' : Own} {Q : AV → Own → Prop} {a ax : Addr} {xs : List Int} {i : Nat} {lim : Int} (h1 : i < 1000000) (hx : xs.length < 1000000) (hlim : 0 < lim) (hxs : Kn x own (ax, .list (xs.map .int)))
    (hxs' : Kn x own' (ax, .list (xs.map .int)))
    (u : Upd a (.list [.val (.ref ax), .int (i : Nat)]) (.list [.val (.ref ax), .int ((i + 1 : Nat))]) own own') (q : Q (.int (nextVal xs i lim)) own') :
    WO x A (callv (.ref 272)) [.val (.ref a), .int lim] own Q := by
  refine enter ["state", "limit"] ["len"] [.val (.ref a), .int lim] T.f_next hl rfl (by with_unfolding_all rfl) (by decide +kernel) (by decide +kernel) (by decide +kernel) (by decide +kernel) (by decide +kernel) fun env A' H => ?_
  have gl := T.b_len
  have m1 := u.mem
  have m2 := u.mem2
  have e1 : ((i + 1 : Nat) : Int) = (i : Int) + 1 := by omega
  rw [e1] at m2 u
  refine SS_cons ?_
  repeat' tb_start
  all_goals (try (first | omega | decide))
  · rename_i h
    have : nextVal xs i lim = 0 := by unfold nextVal; rw [if_pos (by omega)]
    exact RetQ.r (this ▸ q) (by tb_rel)
  · rename_i h
    have : nextVal xs i lim = xs.getD ((i : Int) + 1 - 1).toNat 0 % lim := by unfold nextVal; rw [if_neg (by omega), show ((i : Int) + 1 - 1).toNat = i by omega]
    exact RetQ.r (this ▸ q) (by tb_rel)
/-- the words of octets -/
def wordsOf : List Int → List Int
  | a :: b :: r => (a * 256 + b) :: wordsOf r
  | _ => []
theorem wordsOf_getD : ∀ (b : List Int) (k : Nat), 2 * k + 1 < b.length → (wordsOf b)[k]? = some (b.getD (2 * k) 0 * 256 + b.getD (2 * k + 1) 0)
  | [], k, h => by simp at h
  | [_], k, h => by simp at h
  | a :: c :: r, 0, h => by simp [wordsOf]
  | a :: c :: r, k + 1, h => by
    have ih := wordsOf_getD r k (by simp at h; omega)
    rw [wordsOf, List.getElem?_cons_succ, ih, show 2 * (k + 1) = (2 * k) + 1 + 1 by omega]
    rfl
theorem wordsOf_length : ∀ (b : List Int), (wordsOf b).length = b.length / 2
  | [] => rfl
  | [_] => by simp [wordsOf]
  | a :: c :: r => by
    rw [wordsOf, List.length_cons, wordsOf_length r]
    simp only [List.length_cons]; omega
theorem wordsOf_eq (b : List Int) : (List.range (b.length / 2)).map (fun k => b.getD (2 * k) 0 * 256 + b.getD (2 * k + 1) 0) = wordsOf b := by
  apply List.ext_getElem?
  intro k
  rcases Nat.lt_or_ge k (b.length / 2) with h | h
  · rw [wordsOf_getD b k (by omega), List.getElem?_map, List.getElem?_range h]; rfl
  · rw [List.getElem?_eq_none (by simpa using h), List.getElem?_eq_none (by rw [wordsOf_length]; exact h)]
theorem words_ok {x : Cx} (T : Top x.K x.h₀) {A : Around} {own : Own} {Q : AV → Own → Prop} (hl : Lv 2 A) {b : List Int} (hz : b.length < 1000000) (q : ∀ D, Q (.val (.ref D)) ((D, .list ((wordsOf b).map .int)) :: own)) : WO x A (callv (.ref 282)) [.byt b] own Q := by
  refine enterC [] ["range", "len"] ["data"] [] [.byt b] T.f_words hl rfl (by with_unfolding_all rfl) (by with_unfolding_all rfl) (by decide +kernel) (by decide +kernel) (by decide +kernel) (by decide +kernel) (by decide +kernel) (by decide +kernel) (by decide +kernel) fun env A' cs H ec hcl hce hck => ?_
  obtain ⟨c, rfl⟩ : ∃ c, cs = [c] := by
    match cs, hcl with
    | [c], _ => exact ⟨c, rfl⟩
  show WS x A' _ ((env.locals, .ns [] []) :: (c, .cell (.byt b)) :: own) _
  have hh := H.hnd
  have g1 := T.b_range
  have g2 := T.b_len
  have kd := hck "data" (by simp)
  have cd : env.cells.lookup ("data" : Str) = some c := by rw [hce]; rfl
  refine SS_cons ?_
  refine S_ret ?_
  refine E_lmap H [("data", c)] [] (closure1 (by rfl) cd) (by rfl) (by decide +kernel) (by decide +kernel) (by decide +kernel) (by decide +kernel) (by simp) ?_
  repeat' tb_start
  all_goals (try omega)
  refine ⟨_, _, _, id, onInt fun k => .int (b.getD k.toNat 0 * 256 + b.getD (k + 1).toNat 0), Itb.range2 hh (.inl (.head _)) (by omega), by simp; omega, fun a ha => ?_, fun D => ?_⟩
  · obtain ⟨i, hi, rfl⟩ := List.mem_map.mp ha
    have hi := List.mem_range.mp hi
    refine ⟨trivial, fun cenv hc hf => ?_⟩
    have kd' := hc.cell H.kind (by decide +kernel) kd
    have cd' : cenv.cells.lookup ("data" : Str) = some c := by rw [hc.cells]; rfl
    repeat' tb_start
    all_goals (try omega)
    exact ⟨rfl, _, by tb_rel⟩
  · refine Nx.r (RetQ.r (o := (D, AObj.list ((wordsOf b).map .int)) :: own) (q D) ?_)
    rw [map_onInt, show (((b.length : Int) - 1 + 1) / 2).toNat = b.length / 2 by omega]
    have e : ((List.range (b.length / 2)).map fun i : Nat => AV.int (b.getD (2 * (i : Int)).toNat 0 * 256 + b.getD (2 * (i : Int) + 1).toNat 0)) = (wordsOf b).map .int := by
      rw [← wordsOf_eq, List.map_map]
      apply List.map_congr_left
      intro i _
      show AV.int _ = AV.int _
      rw [show (2 * (i : Int)).toNat = 2 * i by omega, show (2 * (i : Int) + 1).toNat = 2 * i + 1 by omega]
    rw [e]
    tb_rel
end
section
/-- a glyph's name -/
def gname (k : Int) : Str := Str.ofString "g" ++ (⟨#[97 + (k / 10).toNat]⟩ : Str) ++ (⟨#[48 + (k % 10).toNat]⟩ : Str)
theorem sign_a {i : Int} (h0 : 0 ≤ i) (h1 : i < 4) : (Str.ofString "abcd").cps[i.toNat]? = some (97 + i.toNat) := by
  have : i = 0 ∨ i = 1 ∨ i = 2 ∨ i = 3 := by omega
  rcases this with rfl | rfl | rfl | rfl <;> decide +kernel
theorem sign_0 {i : Int} (h0 : 0 ≤ i) (h1 : i < 10) : (Str.ofString "0123456789").cps[i.toNat]? = some (48 + i.toNat) := by
  have : i = 0 ∨ i = 1 ∨ i = 2 ∨ i = 3 ∨ i = 4 ∨ i = 5 ∨ i = 6 ∨ i = 7 ∨ i = 8 ∨ i = 9 := by omega
  rcases this with rfl | rfl | rfl | rfl | rfl | rfl | rfl | rfl | rfl | rfl <;> decide +kernel
theorem len1 (c : Nat) : (⟨#[c]⟩ : Str).length = 1 := rfl
theorem leng : (Str.ofString "g").length = 1 := by decide +kernel
def namesL : List AV := (List.range 40).map fun i => .str (gname (i : Nat))
theorem names_ok {x : Cx} (T : Top x.K x.h₀) {A : Around} {own : Own} {Q : AV → Own → Prop} (hl : Lv 2 A) (q : ∀ D, Q (.val (.ref D)) ((D, .list namesL) :: own)) : WO x A (callv (.ref 277)) [] own Q := by
  refine enter [] ["range"] [] T.f_names hl rfl (by with_unfolding_all rfl) (by decide +kernel) (by decide +kernel) (by decide +kernel) (by decide +kernel) (by decide +kernel) fun env A' H => ?_
  have hh := H.hnd
  have g1 := T.b_range
  refine SS_cons ?_
  refine S_ret ?_
  refine E_lmap H [] [] (closure0 (by rfl)) (by rfl) (by decide +kernel) (by decide +kernel) (by decide +kernel) (by decide +kernel) (by simp) ?_
  repeat' tb_start
  refine ⟨_, _, _, id, onInt fun k => .str (gname k), Itb.range1 hh (.inl (.head _)) (by omega) (by omega), by simp, fun a ha => ?_, fun D => ?_⟩
  · obtain ⟨i, hi, rfl⟩ := List.mem_map.mp ha
    have hi := List.mem_range.mp hi
    refine ⟨trivial, fun cenv hc hf => ?_⟩
    repeat' tb_start
    all_goals (try omega)
    refine G_str (by omega) (by omega) (sign_a (by omega) (by omega)) ?_
    refine O_cat (by rw [leng, len1, sizeLine_eq]; omega) ?_
    repeat' tb_start
    all_goals (try omega)
    refine G_str (by omega) (by omega) (sign_0 (by omega) (by omega)) ?_
    refine O_cat (by rw [Str.length_append, leng, len1, len1, sizeLine_eq]; omega) ?_
    exact ⟨rfl, _, by tb_rel⟩
  · refine Nx.r (RetQ.r (o := (D, AObj.list namesL) :: own) (q D) ?_)
    rw [map_onInt]
    have e : (List.range ((40 : Int) - 0).toNat).map (fun i : Nat => AV.str (gname (0 + (i : Nat)))) = namesL := by
      unfold namesL
      apply List.map_congr_left
      intro i _
      rw [Int.zero_add]
    rw [e]
    tb_rel
end
section
/-- the halving search -/
structure HPre (xs : List Int) (h : Nat) : Prop where
  lo : 2 ^ h ≤ xs.length
  hi : xs.length < 2 ^ (h + 1)
  len : xs.length < 1000000
  mono : ∀ i j, i < j → j < xs.length → xs.getD i 0 < xs.getD j 0
def HPost (xs : List Int) (w : Int) (r : Nat) : Prop := r < xs.length ∧ (∀ j, j < r → xs.getD j 0 < w) ∧ (w ≤ xs.getD r 0 ∨ r + 1 = xs.length)
/-- between the turns: the place and the step -/
structure HInv (xs : List Int) (w : Int) (s : Nat) (p : Int) : Prop where
  p0 : -1 ≤ p
  p1 : p + s + 1 ≤ xs.length
  low : ∀ j : Nat, (j : Int) ≤ p → xs.getD j 0 < w
  up : w ≤ xs.getD (p + s).toNat 0 ∨ p + s + 1 = xs.length
theorem HInv.start1 {xs : List Int} {h : Nat} {w : Int} (P : HPre xs h) (hw : xs.getD (xs.length - 2 ^ h) 0 ≤ w) : HInv xs w (2 ^ h) (((xs.length - 2 ^ h : Nat) : Int) - 1) := by
  have := P.lo
  refine ⟨by omega, by omega, fun j hj => ?_, .inr (by omega)⟩
  have h1 : 0 < 2 ^ h := Nat.pow_pos (by decide)
  exact Int.lt_of_lt_of_le (P.mono j (xs.length - 2 ^ h) (by omega) (by omega)) hw
theorem HInv.start2 {xs : List Int} {h : Nat} {w : Int} (P : HPre xs h) (hw : w < xs.getD (xs.length - 2 ^ h) 0) : HInv xs w (2 ^ h) (-1) := by
  have h1 : 0 < 2 ^ h := Nat.pow_pos (by decide)
  have h2 := P.lo
  have h3 := P.hi
  rw [Nat.pow_succ] at h3
  refine ⟨by omega, by omega, fun j hj => by omega, .inl ?_⟩
  have e : ((-1 : Int) + (2 ^ h : Nat)).toNat = 2 ^ h - 1 := by omega
  rw [e]
  by_cases q : xs.length - 2 ^ h = 2 ^ h - 1
  · rw [← q]; exact Int.le_of_lt hw
  · exact Int.le_of_lt (Int.lt_trans hw (P.mono _ _ (by omega) (by omega)))
theorem HInv.go {xs : List Int} {w p : Int} {s : Nat} (I : HInv xs w (2 * s) p) (hs : 0 < s) (mono : ∀ i j, i < j → j < xs.length → xs.getD i 0 < xs.getD j 0) (hw : xs.getD (p + s).toNat 0 < w) : HInv xs w s (p + s) := by
  obtain ⟨p0, p1, low, up⟩ := I
  refine ⟨by omega, by omega, fun j hj => ?_, ?_⟩
  · by_cases q : j = (p + s).toNat
    · rw [q]; exact hw
    · exact Int.lt_trans (mono j (p + s).toNat (by omega) (by omega)) hw
  · rw [show p + (s : Int) + s = p + ((2 * s : Nat) : Int) by omega]; exact up
theorem HInv.stay {xs : List Int} {w p : Int} {s : Nat} (I : HInv xs w (2 * s) p) (hs : 0 < s) (hw : w ≤ xs.getD (p + s).toNat 0) : HInv xs w s p := by
  obtain ⟨p0, p1, low, up⟩ := I
  exact ⟨p0, by omega, low, .inl hw⟩
theorem HInv.fin {xs : List Int} {w p : Int} (I : HInv xs w 1 p) : HPost xs w (p + 1).toNat ∧ ((p + 1).toNat : Int) = p + 1 := by
  obtain ⟨p0, p1, low, up⟩ := I
  refine ⟨⟨by omega, fun j hj => low j (by omega), ?_⟩, by omega⟩
  rcases up with h | h
  · exact .inl h
  · exact .inr (by omega)
theorem halved_ok {x : Cx} (T : Top x.K x.h₀) {A : Around} {own : Own} {Q : AV → Own → Prop} (hl : Lv 2 A) {l : Addr} {xs : List Int} {h : Nat} {w : Int} (P : HPre xs h) (kn : Kn x own (l, .list (xs.map .int)))
    (q : ∀ r, HPost xs w r → Q (.int (r : Nat)) own) : WO x A (callv (.ref 296)) [.val (.ref l), .int (2 ^ h : Nat), .int (h : Nat), .int (xs.length - 2 ^ h : Nat), .int w] own Q := by
  refine enter ["rows", "step", "halvings", "shift", "wanted", "place", "k"] ["range"] [.val (.ref l), .int (2 ^ h : Nat), .int (h : Nat), .int (xs.length - 2 ^ h : Nat), .int w, .any, .any] T.f_halved hl rfl (by with_unfolding_all rfl) (by decide +kernel) (by decide +kernel) (by decide +kernel) (by decide +kernel) (by decide +kernel) fun env A' H => ?_
  have hh := H.hnd
  have g1 := T.b_range
  have hp : 0 < 2 ^ h := Nat.pow_pos (by decide)
  have P1 := P.lo
  have P2 := P.len
  have h20 : h < 20 := by
    rcases Nat.lt_or_ge h 20 with h' | h'
    · exact h'
    · have := Nat.pow_le_pow_right (n := 2) (by decide) h'; omega
  refine SS_cons ?_
  repeat' tb_start
  all_goals (try omega)
  case' refine_4.refine_1 => 
    rename_i hw
    have I := HInv.start1 P (by simpa using hw)
  case' refine_4.refine_2 => 
    rename_i hw
    have I := HInv.start2 (w := w) P (by simpa using hw)
  all_goals
    clear hw
    refine N_forR H ?_
    repeat' tb_start
    rename_i r
    refine ⟨r, 0, (h : Nat), fun i o => ∃ (p : Int) (kv : AV), o = (r, .rng 0 (h : Nat) 1) :: (env.locals, AObj.ns ["rows", "step", "halvings", "shift", "wanted", "place", "k"] [.val (.ref l), .int (2 ^ (h - i) : Nat), .int (h : Nat), .int (xs.length - 2 ^ h : Nat), .int w, .int p, kv]) :: own ∧ HInv xs w (2 ^ (h - i)) p, rfl, .inl (.head _), by omega, ⟨_, _, rfl, I⟩, ?_, ?_⟩
    · rintro i _ hi ⟨p, kv, rfl, I⟩
      have hi : i < h := by omega
      obtain ⟨s, hs, es⟩ : ∃ s : Nat, 0 < s ∧ 2 ^ (h - i) = 2 * s := ⟨2 ^ (h - i - 1), Nat.pow_pos (by decide), by rw [Nat.mul_comm, ← Nat.pow_succ]; congr 1; omega⟩
      have es' : 2 ^ (h - (i + 1)) = s := by
        have : 2 ^ (h - i) = 2 * 2 ^ (h - (i + 1)) := by rw [Nat.mul_comm, ← Nat.pow_succ]; congr 1; omega
        omega
      rw [es] at I ⊢
      have p0 := I.p0
      have p1 := I.p1
      repeat' tb_start
      all_goals (try omega)
      · rename_i hw
        rw [show ((2 * s : Nat) : Int) / 2 = (s : Nat) by omega] at hw ⊢
        dsimp only
        rw [es']
        exact ⟨_, _, rfl, I.go hs P.mono hw⟩
      · rename_i hw
        rw [show ((2 * s : Nat) : Int) / 2 = (s : Nat) by omega] at hw ⊢
        dsimp only
        rw [es']
        exact ⟨_, _, rfl, I.stay hs (Int.not_lt.mp hw)⟩
    · rintro _ ⟨p, kv, rfl, I⟩
      rw [show h - (((h : Nat) : Int) - 0).toNat = 0 by omega] at I ⊢
      obtain ⟨F, e⟩ := HInv.fin I
      repeat' tb_start
      refine RetQ.r (o := own) ?_ (by tb_rel)
      rw [← e]
      exact q _ F
end
section
theorem lg_pow {n e : Nat} (h1 : 2 ^ e ≤ n) (h2 : n < 2 ^ (e + 1)) : lg n = e := by
  have hn : n ≠ 0 := by have : 0 < 2 ^ e := Nat.pow_pos (by decide); omega
  have a := (Nat.log2_lt hn).mpr h2
  have b := (Nat.le_log2 hn).mpr h1
  unfold lg; omega
theorem pow_lg {n : Nat} (h : n ≠ 0) : 2 ^ lg n ≤ n ∧ n < 2 ^ (lg n + 1) := ⟨Nat.log2_self_le h, Nat.lt_log2_self⟩
theorem sound_ok {x : Cx} (T : Top x.K x.h₀) {A : Around} {own : Own} {Q : AV → Own → Prop} (hl : Lv 3 A) {n m : Nat} (hn : n ≤ 1000000) (hm : m ≤ 1000) (q : Q (.val (.bool true)) own) :
    WO x A (callv (.ref 315)) [srOf n m, .int (n : Nat), .int (m : Nat)] own Q := by
  refine enter ["numbers", "many", "size", "power"] ["maxPowerOfTwo", "max"] [srOf n m, .int (n : Nat), .int (m : Nat), .any] T.f_sound hl rfl (by with_unfolding_all rfl) (by decide +kernel) (by decide +kernel) (by decide +kernel) (by decide +kernel) (by decide +kernel) fun env A' H => ?_
  have hh := H.hnd
  have g1 := T.b_max
  have g2 := T.g_mp2
  refine SS_cons ?_
  repeat' tb_start
  refine N_while (fun k o => ∃ e : Nat, o = (env.locals, AObj.ns ["numbers", "many", "size", "power"] [srOf n m, .int (n : Nat), .int (m : Nat), .int (2 ^ e : Nat)]) :: own ∧ k = n - 2 ^ e ∧ (e = 0 ∨ 2 ^ e ≤ n)) (n - 1) ⟨0, rfl, rfl, .inl rfl⟩ ?_
  rintro k _ ⟨e, rfl, rfl, he⟩
  have hp : 0 < 2 ^ e := Nat.pow_pos (by decide)
  repeat' tb_start
  all_goals (try omega)
  · rename_i h
    refine ⟨n - 2 ^ (e + 1), by rw [Nat.pow_succ]; omega, e + 1, by rw [Nat.pow_succ, show ((2 ^ e : Nat) : Int) * 2 = ((2 ^ e * 2 : Nat) : Int) by omega], rfl, .inr (by rw [Nat.pow_succ]; omega)⟩
  · rename_i h
    have ee : 2 ^ e = 2 ^ lg n := by
      by_cases h0 : n = 0
      · subst h0
        have : e = 0 := by rcases he with h | h <;> omega
        subst this; decide
      · rcases he with h1 | h1
        · subst h1
          rw [lg_pow (n := n) (e := 0) (by simp; omega) (by simp; omega)]
        · rw [lg_pow (n := n) h1 (by rw [Nat.pow_succ]; omega)]
    have h20 := lg_le hn
    refine mp2_ok T H.lv hn ?_
    repeat' tb_start
    all_goals (try omega)
    refine C_teq (n := 1) (a := [((2 ^ lg n * m : Nat) : Int), (lg n : Nat), max 0 ((n * m : Nat) - (2 ^ lg n * m : Nat))]) (b := [((2 ^ e : Nat) : Int) * (m : Nat), (lg n : Nat), max 0 ((n : Nat) * (m : Nat) - ((2 ^ e : Nat) : Int) * (m : Nat))]) H.lv (fun _ => ?_) (fun h => ?_)
    · repeat' tb_start
      · exact RetQ.r (o := own) q (by tb_rel)
      · refine mp2_ok T H.lv hn ?_
        repeat' tb_start
        all_goals (try omega)
        · exact RetQ.r (o := own) q (by tb_rel)
        · rename_i h
          exact absurd (by rw [ee]; simp) h
    · exact absurd (by rw [ee]; simp) h
end
section
theorem finit_ok {x : Cx} (T : Top x.K x.h₀) {A : Around} {own own' : Own} {Q : AV → Own → Prop} (hl : Lv 1 A) {a d l : Addr} (k1 : Kn x own (a, .inst 127 d)) (u : Upd d (.attrs []) (.attrs [("glyphOrder", .val (.ref l)), ("_reverseGlyphOrderDict", .val .none)]) own own')
    (q : Q (.val .none) own') : WO x A (callv (.ref 76)) [.val (.ref a), .val (.ref l)] own Q := by
  refine WO.upd u fun r hr => ?_
  have k1 := k1.sel hr (by simp)
  refine enter ["self", "glyphOrder"] [] [.val (.ref a), .val (.ref l)] T.f_init hl rfl (by with_unfolding_all rfl) (by decide +kernel) (by decide +kernel) (by decide +kernel) (by decide +kernel) (by decide +kernel) fun env A' H => ?_
  have hh := H.hnd
  have c := T.c_font
  have o1 := T.o_font "glyphOrder" (by simp)
  have o2 := T.o_font "_reverseGlyphOrderDict" (by simp)
  refine SS_cons ?_
  repeat' tb_start
  refine RetQ.no (o := (d, .attrs [("glyphOrder", .val (.ref l)), ("_reverseGlyphOrderDict", .val .none)]) :: r) ?_ (by tb_rel)
  exact ⟨List.Sublist.refl _, q⟩
theorem order_ok {x : Cx} (T : Top x.K x.h₀) {A : Around} {own : Own} {Q : AV → Own → Prop} (hl : Lv 1 A) {a d l : Addr} {es : List (Str × AV)} (k1 : Kn x own (a, .inst 127 d)) (k2 : Kn x own (d, .attrs es)) (he : es.lookup ("glyphOrder" : Str) = some (.val (.ref l)))
    (q : Q (.val (.ref l)) own) : WO x A (callv (.ref 83)) [.val (.ref a)] own Q := by
  refine enter ["self"] [] [.val (.ref a)] T.f_order hl rfl (by with_unfolding_all rfl) (by decide +kernel) (by decide +kernel) (by decide +kernel) (by decide +kernel) (by decide +kernel) fun env A' H => ?_
  have hh := H.hnd
  have c := T.c_font
  have o1 := T.o_font "glyphOrder" (by simp)
  refine SS_cons ?_
  repeat' tb_start
  refine W_at (by tb_rel) (by tb_rel) he (by assumption) (by assumption) trivial ?_
  repeat' tb_start
  exact RetQ.r (o := own) q (by tb_rel)
end
section
theorem namesL_len : namesL.length = 40 := by unfold namesL; simp
theorem namesL_get {g : Int} (h0 : 0 ≤ g) (h1 : g < 40) : namesL[g.toNat]? = some (.str (gname g)) := by
  unfold namesL
  rw [List.getElem?_map, List.getElem?_range (by omega)]
  show some (AV.str (gname (g.toNat : Nat))) = _
  rw [show ((g.toNat : Nat) : Int) = g by omega]
theorem many_ok {x : Cx} (T : Top x.K x.h₀) {A : Around} {own : Own} {Q : AV → Own → Prop} (hl : Lv 2 A) {a d l g : Addr} {es : List (Str × AV)} {gs : List Int} (k1 : Kn x own (a, .inst 127 d)) (k2 : Kn x own (d, .attrs es)) (he : es.lookup ("glyphOrder" : Str) = some (.val (.ref l)))
    (hno : es.lookup ("getGlyphOrder" : Str) = none) (k3 : Kn x own (l, .list namesL)) (kg : Kn x own (g, .list (gs.map .int))) (hg : ∀ k ∈ gs, 0 ≤ k ∧ k < 40) (hz : gs.length < 1000000) (q : ∀ D, Q (.val (.ref D)) ((D, .list (gs.map fun k => .str (gname k))) :: own)) : WO x A (callv (.ref 95)) [.val (.ref a), .val (.ref g)] own Q := by
  refine WO.kfrz kg trivial fun r own' hm _ tr => ?_
  have T : Top (wr x r).K (wr x r).h₀ := T
  have k1 := tr _ k1
  have k2 := tr _ k2
  have k3 := tr _ k3
  refine enterC ["self", "lst"] ["len"] ["cnt", "glyphOrder"] [.val (.ref a), .val (.ref g)] [.any, .any] T.f_many hl rfl (by with_unfolding_all rfl) (by with_unfolding_all rfl) (by decide +kernel) (by decide +kernel) (by decide +kernel) (by decide +kernel) (by decide +kernel) (by decide +kernel) (by decide +kernel) fun env A' cs H ec hcl hce hck => ?_
  obtain ⟨c1, c2, rfl⟩ : ∃ c1 c2, cs = [c1, c2] := by
    match cs, hcl with
    | [c, d], _ => exact ⟨c, d, rfl⟩
  show WS (wr x r) A' _ ((env.locals, .ns ["self", "lst"] [.val (.ref a), .val (.ref g)]) :: (c1, .cell .any) :: (c2, .cell .any) :: own') _
  have hh := H.hnd
  have g2 := T.b_len
  have kd1 := hck "cnt" (.head _)
  have kd2 := hck "glyphOrder" (.tail _ (.head _))
  have cd1 : env.cells.lookup ("cnt" : Str) = some c1 := by rw [hce]; rfl
  have cd2 : env.cells.lookup ("glyphOrder" : Str) = some c2 := by rw [hce]; rfl
  have cf := T.c_font
  have mo := T.m_order
  refine SS_cons ?_
  refine S_asg ?_
  refine M_inst ?_ (by with_unfolding_all rfl)
  repeat' tb_start
  refine M_at (by tb_rel) (by tb_rel) (by assumption) (by assumption) (Top.k_calls (by assumption) _ (by tb_rel)) hno ?_
  repeat' tb_start
  refine order_ok T H.lv (by tb_rel) (by tb_rel) he ?_
  repeat' tb_start
  all_goals (try (rw [namesL_len]; omega))
  refine E_lmap H [("glyphOrder", c2), ("cnt", c1)] [] (closure2 (by rfl) cd1 cd2) (by rfl) (by decide +kernel) (by decide +kernel) (by decide +kernel) (by decide +kernel) (by simp) ?_
  repeat' tb_start
  refine ⟨_, _, _, id, onInt fun k => .str (gname k), Itb.lro hh hm, by simp; omega, fun b hb => ?_, fun D => ?_⟩
  · obtain ⟨k, hk, rfl⟩ := List.mem_map.mp hb
    obtain ⟨h0, h1⟩ := hg k hk
    refine ⟨trivial, fun cenv hc hf => ?_⟩
    have kd1' := hc.cell H.kind (by decide +kernel) kd1
    have kd2' := hc.cell H.kind (by decide +kernel) kd2
    have cd1' : cenv.cells.lookup ("cnt" : Str) = some c1 := by rw [hc.cells]; rfl
    have cd2' : cenv.cells.lookup ("glyphOrder" : Str) = some c2 := by rw [hc.cells]; rfl
    repeat' tb_start
    · refine G_lit (by tb_rel) h0 (by omega) (namesL_get h0 h1) ?_
      exact ⟨rfl, _, by tb_rel⟩
    · rename_i h
      rw [namesL_len] at h
      omega
  · refine Nx.r (RetQ.r (o := (D, AObj.list (gs.map fun k => .str (gname k))) :: own') ?_ ?_)
    · exact ⟨[(D, AObj.list (gs.map fun k => .str (gname k)))], List.Sublist.refl _, q D⟩
    · rw [map_onInt]
      tb_rel
end
section
def revL : List (Str × AV) := (List.range 40).map fun i => (gname (i : Nat), .int (i : Nat))
theorem gname_inj0 : ∀ i, i < 40 → ∀ j, j < 40 → i ≠ j → gname (i : Nat) ≠ gname (j : Nat) := by decide +kernel
theorem gname_inj (i j : Nat) (hi : i < 40) (hj : j < 40) (h : i ≠ j) : gname (i : Nat) ≠ gname (j : Nat) := gname_inj0 i hi j hj h
def revTo (n : Nat) : List (Str × AV) := (List.range n).map fun i => (gname (i : Nat), .int (i : Nat))
theorem revTo_put {n : Nat} (h : n < 40) : putK (revTo n) (gname (n : Nat)) (.int (n : Nat)) = revTo (n + 1) := by
  unfold putK
  rw [if_neg]
  · unfold revTo
    rw [List.range_succ, List.map_append]; rfl
  · intro e
    rw [List.any_eq_true] at e
    obtain ⟨p, hp, e⟩ := e
    obtain ⟨i, hi, rfl⟩ := List.mem_map.mp hp
    have hi := List.mem_range.mp hi
    exact gname_inj i n (by omega) h (by omega) (by simpa using e)
theorem revL_look {g : Int} (h0 : 0 ≤ g) (h1 : g < 40) : lookK revL (gname g) = some (.int g) := by
  have : ∀ i : Nat, i < 40 → (revL.find? fun e => e.1 = gname (i : Nat)).map (·.2) = some (.int (i : Nat)) := by
    intro i hi
    have : revL.find? (fun e => e.1 = gname (i : Nat)) = some (gname (i : Nat), .int (i : Nat)) := by
      rw [List.find?_eq_some_iff_getElem]
      refine ⟨by simp, i, by unfold revL; simpa using hi, by unfold revL; simp, fun j hj => ?_⟩
      unfold revL
      simp only [List.getElem_map, List.getElem_range, Bool.not_eq_true', decide_eq_false_iff_not]
      exact gname_inj j i (by omega) hi (by omega)
    rw [this]; rfl
  have := this g.toNat (by omega)
  rw [show ((g.toNat : Nat) : Int) = g by omega] at this
  exact this
abbrev attrsF (l : Addr) (v : AV) : List (Str × AV) := [("glyphOrder", .val (.ref l)), ("_reverseGlyphOrderDict", v)]
theorem build_ok {x : Cx} (T : Top x.K x.h₀) {A : Around} {own : Own} {own' : Addr → Own} {Q : AV → Own → Prop} (hl : Lv 2 A) {a d l : Addr} (k1 : Kn x own (a, .inst 127 d)) (k3 : Kn x own (l, .list namesL))
    (u : ∀ D, Upd d (.attrs (attrsF l (.val .none))) (.attrs (attrsF l (.val (.ref D)))) own (own' D)) (q : ∀ D, Q (.val (.ref D)) ((D, .dictS revL) :: own' D)) : WO x A (callv (.ref 124)) [.val (.ref a)] own Q := by
  refine WO.turn (0 : Addr) u fun r hr => ?_
  have k1 := k1.sel hr (by simp)
  have k3 := k3.sel hr (by simp)
  refine WO.kfrz' (pre := [(d, .attrs (attrsF l (.val .none)))]) k3 trivial fun ro own' hm _ tr => ?_
  have T : Top (wr x ro).K (wr x ro).h₀ := T
  have k1 := tr _ k1
  refine enter ["self", "d", "glyphID", "glyphName"] ["enumerate"] [.val (.ref a), .any, .any, .any] T.f_build hl rfl (by with_unfolding_all rfl) (by decide +kernel) (by decide +kernel) (by decide +kernel) (by decide +kernel) (by decide +kernel) fun env A' H => ?_
  have hh := H.hnd
  have g1 := T.b_enum
  have c := T.c_font
  have o1 := T.o_font "glyphOrder" (.head _)
  have o2 := T.o_font "_reverseGlyphOrderDict" (.tail _ (.head _))
  have mo := T.m_order
  show WS (wr x ro) A' _ ((env.locals, .ns ["self", "d", "glyphID", "glyphName"] [.val (.ref a), .any, .any, .any]) :: (d, .attrs [("glyphOrder", .val (.ref l)), ("_reverseGlyphOrderDict", .val .none)]) :: own') _
  refine SS_cons ?_
  refine S_asg2 ?_
  refine D_new (dkS _) fun D => ?_
  repeat' tb_start
  refine S_forE H (by tb_rel) g1 ?_
  repeat' tb_start
  refine order_ok T H.lv (by tb_rel) (.own (.tail _ (.tail _ (.head _)))) rfl ?_
  repeat' tb_start
  refine ⟨l, namesL, fun i o => ∃ u v, o = (D, .dictS (revTo i)) :: (env.locals, .ns ["self", "d", "glyphID", "glyphName"] [.val (.ref a), .val (.ref D), u, v]) :: (d, .attrs [("glyphOrder", .val (.ref l)), ("_reverseGlyphOrderDict", .val (.ref D))]) :: own', rfl, hm, ⟨_, _, rfl⟩, ?_, ?_⟩
  · rintro i b _ hb ⟨u, v, rfl⟩
    have hi : i < 40 := by
      rcases Nat.lt_or_ge i 40 with h | h
      · exact h
      · rw [List.getElem?_eq_none (by rw [namesL_len]; exact h)] at hb; cases hb
    have hb' := namesL_get (g := (i : Nat)) (by omega) (by omega)
    rw [Int.toNat_natCast, hb] at hb'
    cases hb'
    repeat' tb_start
    refine D_set (dkS _) (by simp [revTo]; omega) Upd.z ?_
    repeat' tb_start
    exact ⟨_, _, by rw [← revTo_put hi]; rfl⟩
  · rintro _ ⟨u, v, rfl⟩
    repeat' tb_start
    rw [namesL_len]
    refine RetQ.r (o := (D, .dictS revL) :: (d, .attrs (attrsF l (.val (.ref D)))) :: own') ?_ (List.Sublist.cons_cons _ (List.Sublist.cons _ (List.Sublist.refl _)))
    exact ⟨[(D, .dictS revL), (d, .attrs (attrsF l (.val (.ref D))))], List.Sublist.refl _, [(D, .dictS revL)], D, List.Sublist.refl _, q D⟩
theorem rev_ok {x : Cx} (T : Top x.K x.h₀) {A : Around} {own : Own} {own' : Addr → Own} {Q : AV → Own → Prop} (hl : Lv 3 A) {a d l : Addr} (k1 : Kn x own (a, .inst 127 d)) (k3 : Kn x own (l, .list namesL))
    (u : ∀ D, Upd d (.attrs (attrsF l (.val .none))) (.attrs (attrsF l (.val (.ref D)))) own (own' D)) (q : ∀ D, Q (.val (.ref D)) ((D, .dictS revL) :: own' D)) : WO x A (callv (.ref 117)) [.val (.ref a)] own Q := by
  refine WO.turn (0 : Addr) u fun r hr => ?_
  have k1 := k1.sel hr (by simp)
  have k3 := k3.sel hr (by simp)
  refine enter ["self", "rebuild"] [] [.val (.ref a), .val (.bool false)] T.f_rev hl rfl (by with_unfolding_all rfl) (by decide +kernel) (by decide +kernel) (by decide +kernel) (by decide +kernel) (by decide +kernel) fun env A' H => ?_
  have hh := H.hnd
  have c := T.c_font
  have o2 := T.o_font "_reverseGlyphOrderDict" (.tail _ (.head _))
  have mo := T.m_build
  show WS x A' _ ((env.locals, .ns ["self", "rebuild"] [.val (.ref a), .val (.bool false)]) :: (d, .attrs [("glyphOrder", .val (.ref l)), ("_reverseGlyphOrderDict", .val .none)]) :: r) _
  refine SS_cons ?_
  repeat' tb_start
  refine build_ok T H.lv (l := l) (by tb_rel) (by tb_rel) (fun D => .s .z) fun D => ?_
  show Nx x A' _ env _ .next ((D, .dictS revL) :: (env.locals, .ns ["self", "rebuild"] [.val (.ref a), .val (.bool false)]) :: (d, .attrs [("glyphOrder", .val (.ref l)), ("_reverseGlyphOrderDict", .val (.ref D))]) :: r)
  repeat' tb_start
  refine RetQ.r (o := (D, .dictS revL) :: (d, .attrs (attrsF l (.val (.ref D)))) :: r) ?_ (List.Sublist.cons_cons _ (List.Sublist.cons _ (List.Sublist.refl _)))
  exact ⟨[(D, .dictS revL)], D, List.Sublist.refl _, q D⟩
/-- the map is there -/
theorem rev2_ok {x : Cx} (T : Top x.K x.h₀) {A : Around} {own : Own} {Q : AV → Own → Prop} (hl : Lv 3 A) {a d l D : Addr} (k1 : Kn x own (a, .inst 127 d)) (k2 : Kn x own (d, .attrs (attrsF l (.val (.ref D)))))
    (q : Q (.val (.ref D)) own) : WO x A (callv (.ref 117)) [.val (.ref a)] own Q := by
  refine enter ["self", "rebuild"] [] [.val (.ref a), .val (.bool false)] T.f_rev hl rfl (by with_unfolding_all rfl) (by decide +kernel) (by decide +kernel) (by decide +kernel) (by decide +kernel) (by decide +kernel) fun env A' H => ?_
  have hh := H.hnd
  have c := T.c_font
  have o2 := T.o_font "_reverseGlyphOrderDict" (.tail _ (.head _))
  unfold attrsF at k2
  refine SS_cons ?_
  repeat' tb_start
  exact RetQ.r (o := own) q (by tb_rel)
/-- a subtable is made -/
abbrev attrsC (f da tf pl pe la : AV) : List (Str × AV) := [("formatID", f), ("data", da), ("ttFont", tf), ("platformID", pl), ("platEncID", pe), ("language", la)]
theorem cinit_ok {x : Cx} (T : Top x.K x.h₀) {A : Around} {own own' : Own} {Q : AV → Own → Prop} (hl : Lv 1 A) {a d : Addr} {f : Int} (k1 : Kn x own (a, .inst 222 d)) (u : Upd d (.attrs []) (.attrs (attrsC (.int f) (.val .none) (.val .none) (.val .none) (.val .none) (.val .none))) own own')
    (q : Q (.val .none) own') : WO x A (callv (.ref 167)) [.val (.ref a), .int f] own Q := by
  refine WO.upd u fun r hr => ?_
  have k1 := k1.sel hr (by simp)
  refine enter ["self", "format"] [] [.val (.ref a), .int f] T.f_cinit hl rfl (by with_unfolding_all rfl) (by decide +kernel) (by decide +kernel) (by decide +kernel) (by decide +kernel) (by decide +kernel) fun env A' H => ?_
  have hh := H.hnd
  have c := T.c_cmap
  have o1 := T.o_cmap "formatID" (by tb_rel)
  have o2 := T.o_cmap "data" (by tb_rel)
  have o3 := T.o_cmap "ttFont" (by tb_rel)
  have o4 := T.o_cmap "platformID" (by tb_rel)
  have o5 := T.o_cmap "platEncID" (by tb_rel)
  have o6 := T.o_cmap "language" (by tb_rel)
  refine SS_cons ?_
  repeat' tb_start
  refine RetQ.no (o := (d, .attrs (attrsC (.int f) (.val .none) (.val .none) (.val .none) (.val .none) (.val .none))) :: r) ?_ (by tb_rel)
  exact ⟨List.Sublist.refl _, q⟩
theorem kinit_ok {x : Cx} (T : Top x.K x.h₀) {A : Around} {own own' : Own} {Q : AV → Own → Prop} (hl : Lv 1 A) {a d : Addr} {b : Bool} (k1 : Kn x own (a, .inst 261 d)) (u : Upd d (.attrs []) (.attrs [("apple", .val (.bool b))]) own own')
    (q : Q (.val .none) own') : WO x A (callv (.ref 246)) [.val (.ref a), .val (.bool b)] own Q := by
  refine WO.upd u fun r hr => ?_
  have k1 := k1.sel hr (by simp)
  refine enter ["self", "apple"] [] [.val (.ref a), .val (.bool b)] T.f_kinit hl rfl (by with_unfolding_all rfl) (by decide +kernel) (by decide +kernel) (by decide +kernel) (by decide +kernel) (by decide +kernel) fun env A' H => ?_
  have hh := H.hnd
  have c := T.c_kern
  have o1 := T.o_kern "apple" (by tb_rel)
  refine SS_cons ?_
  repeat' tb_start
  refine RetQ.no (o := (d, .attrs [("apple", .val (.bool b))]) :: r) ?_ (by tb_rel)
  exact ⟨List.Sublist.refl _, q⟩
/-- filled -/
abbrev attrsL (f : Int) (la cm uv : AV) : List (Str × AV) := [("formatID", .int f), ("data", .val .none), ("ttFont", .val .none), ("platformID", .val .none), ("platEncID", .val .none), ("language", la), ("cmap", cm), ("uvsDict", uv)]
theorem filled_ok {x : Cx} (T : Top x.K x.h₀) {A : Around} {own own' : Own} {Q : AV → Own → Prop} (hl : Lv 1 A) {a d : Addr} {f la : Int} {cm : Value} (hcm : (AV.val cm).known) (k1 : Kn x own (a, .inst 222 d))
    (u : Upd d (.attrs (attrsC (.int f) (.val .none) (.val .none) (.val .none) (.val .none) (.val .none))) (.attrs (attrsL f (.int la) (.val cm) (.val .none))) own own')
    (q : Q (.val (.ref a)) own') : WO x A (callv (.ref 231)) [.val (.ref a), .int la, .val cm, .val .none] own Q := by
  refine WO.upd u fun r hr => ?_
  have k1 := k1.sel hr (by simp)
  refine enter ["subtable", "language", "cmap", "uvsDict"] [] [.val (.ref a), .int la, .val cm, .val .none] T.f_filled hl rfl (by with_unfolding_all rfl) (by decide +kernel) (by decide +kernel) (by decide +kernel) (by decide +kernel) (by decide +kernel) fun env A' H => ?_
  have hh := H.hnd
  have c := T.c_cmap
  have o2 := T.o_cmap "cmap" (by tb_rel)
  have o3 := T.o_cmap "uvsDict" (by tb_rel)
  have o6 := T.o_cmap "language" (by tb_rel)
  show WS x A' _ ((env.locals, .ns ["subtable", "language", "cmap", "uvsDict"] [.val (.ref a), .int la, .val cm, .val .none]) :: (d, .attrs [("formatID", .int f), ("data", .val .none), ("ttFont", .val .none), ("platformID", .val .none), ("platEncID", .val .none), ("language", .val .none)]) :: r) _
  refine SS_cons ?_
  repeat' tb_start
  refine RetQ.r (o := (d, .attrs (attrsL f (.int la) (.val cm) (.val .none))) :: r) ?_ (by tb_rel)
  exact ⟨List.Sublist.refl _, q⟩
end
section
def namesOf (cs : List (Int × Int)) : List (Int × AV) := cs.map fun p => (p.1, .str (gname p.2))
theorem putK_new {K V : Type} [DecidableEq K] {es : List (K × V)} {k : K} {v : V} (h : k ∉ es.map (·.1)) : putK es k v = es ++ [(k, v)] := by
  unfold putK
  rw [if_neg]
  intro e
  rw [List.any_eq_true] at e
  obtain ⟨p, hp, e⟩ := e
  exact h (List.mem_map.mpr ⟨p, hp, by simpa using e⟩)
theorem nodup_take {cs : List (Int × Int)} (h : (cs.map (·.1)).Nodup) {i : Nat} {p : Int × Int} (hi : cs[i]? = some p) : p.1 ∉ (cs.take i).map (·.1) := by
  intro hm
  obtain ⟨q, hq, e⟩ := List.mem_map.mp hm
  obtain ⟨j, hj, ej⟩ := List.getElem_of_mem hq
  rw [List.length_take] at hj
  rw [List.getElem_take] at ej
  obtain ⟨hi1, hi2⟩ := List.getElem?_eq_some_iff.mp hi
  have := List.pairwise_iff_getElem.mp h j i (by simp; omega) (by simpa using hi1) (by omega)
  apply this
  rw [List.getElem_map, List.getElem_map, hi2, ej, e]
theorem mkmap_ok {x : Cx} (T : Top x.K x.h₀) {A : Around} {own : Own} {Q : AV → Own → Prop} (hl : Lv 3 A) {a d l c g : Addr} {es : List (Str × AV)} {cs : List (Int × Int)} (k1 : Kn x own (a, .inst 127 d)) (k2 : Kn x own (d, .attrs es)) (he : es.lookup ("glyphOrder" : Str) = some (.val (.ref l)))
    (hno : es.lookup ("getGlyphOrder" : Str) = none) (hno2 : es.lookup ("getGlyphNameMany" : Str) = none) (k3 : Kn x own (l, .list namesL)) (kc : Kn x own (c, .list (cs.map fun p => .int p.1))) (kg : Kn x own (g, .list (cs.map fun p => .int p.2))) (hg : ∀ p ∈ cs, 1 ≤ p.2 ∧ p.2 < 40) (hn : (cs.map (·.1)).Nodup) (hz : cs.length < 1000000)
    (q : ∀ D, Q (.val (.ref D)) ((D, .dictI (namesOf cs)) :: own)) : WO x A (callv (.ref 153)) [.val (.ref a), .val (.ref c), .val (.ref g)] own Q := by
  refine WO.kfrz kg trivial fun r own' hmg _ tr => ?_
  have k1 := tr _ k1
  have k2 := tr _ k2
  have k3 := tr _ k3
  have kc := tr _ kc
  refine WO.kfrz kc trivial fun r2 own2 hmc ex tr2 => ?_
  have k1 := tr2 _ k1
  have k2 := tr2 _ k2
  have k3 := tr2 _ k3
  have hmg := ex _ hmg
  have T : Top (wr x r2).K (wr x r2).h₀ := T
  show WO (wr x r2) A _ _ _ _
  have zc : (cs.map fun p => AV.int p.1) = (cs.map (·.1)).map .int := by rw [List.map_map]; rfl
  have zg : (cs.map fun p => AV.int p.2) = (cs.map (·.2)).map .int := by rw [List.map_map]; rfl
  refine enter ["font", "chars", "gids", "glyphNames", "cmap", "char", "gid", "name"] ["len", "zip"] [.val (.ref a), .val (.ref c), .val (.ref g), .any, .any, .any, .any, .any] T.f_mkmap hl rfl (by with_unfolding_all rfl) (by decide +kernel) (by decide +kernel) (by decide +kernel) (by decide +kernel) (by decide +kernel) fun env A' H => ?_
  have hh := H.hnd
  have g1 := T.b_len
  have g2 := T.b_zip
  have c := T.c_font
  have mm := T.m_many
  refine SS_cons ?_
  repeat' tb_start
  · simp; omega
  · simp; omega
  · rename_i h
    refine M_at (by tb_rel) (by tb_rel) (by assumption) (by assumption) (Top.k_calls (by assumption) _ (by tb_rel)) hno2 ?_
    repeat' tb_start
    rw [zg] at hmg
    refine many_ok T H.lv (by tb_rel) (by tb_rel) he hno (by tb_rel) (.inr hmg) (fun k hk => ?_) (by simpa using hz) fun G => ?_
    · obtain ⟨p, hp, rfl⟩ := List.mem_map.mp hk
      have := hg p hp
      omega
    have zG : ((cs.map (·.2)).map fun k => AV.str (gname k)) = cs.map fun p => .str (gname p.2) := by rw [List.map_map]; rfl
    rw [zG]
    rw [← zg] at hmg
    repeat' tb_start
    refine D_new (dkI _) fun D => ?_
    repeat' tb_start
    refine WS.frz (p := (G, .list (cs.map fun p => .str (gname p.2)))) (by tb_rel) trivial ?_
    refine S_forZ3 H (by tb_rel) g2 ?_
    repeat' tb_start
    refine ⟨_, _, _, _, _, _, fun i o => ∃ u v w, o = (D, .dictI (namesOf (cs.take i))) :: (env.locals, .ns ["font", "chars", "gids", "glyphNames", "cmap", "char", "gid", "name"] [.val (.ref a), .val (.ref _), .val (.ref g), .val (.ref G), .val (.ref D), u, v, w]) :: own2, rfl, .tail _ hmc, .tail _ hmg, .head _, by simp, by simp, ⟨_, _, _, rfl⟩, ?_, ?_⟩
    · rintro TT i b1 b2 b3 _ e1 e2 e3 ⟨u, v, w, rfl⟩
      rw [List.getElem?_map] at e1 e2 e3
      obtain ⟨p, hp, rfl⟩ := Option.map_eq_some_iff.mp e1
      rw [hp] at e2 e3
      simp only [Option.map_some, Option.some.injEq] at e2 e3
      subst e2 e3
      obtain ⟨h1, h2⟩ := hg p (List.mem_of_getElem? hp)
      repeat' tb_start
      · rename_i h; omega
      · refine D_set (dkI _) (by simp [namesOf]; omega) Upd.z ?_
        repeat' tb_start
        have : putK (namesOf (cs.take i)) p.1 (.str (gname p.2)) = namesOf (cs.take (i + 1)) := by
          rw [putK_new]
          · rw [List.take_add_one, hp]
            unfold namesOf
            rw [List.map_append]; rfl
          · unfold namesOf
            rw [List.map_map]
            exact nodup_take hn hp
        exact ⟨_, _, _, by rw [← this]; rfl⟩
    · rintro _ ⟨u, v, w, rfl⟩
      repeat' tb_start
      rw [List.length_map, List.take_length]
      refine RetQ.r (o := (D, .dictI (namesOf cs)) :: own2) ?_ (by tb_rel)
      exact ⟨[(D, .dictI (namesOf cs))], List.Sublist.refl _, [(D, .dictI (namesOf cs))], List.Sublist.refl _, q D⟩
  · rename_i h
    exact absurd (by simp) h
end
section
/-- pieces of a range, in order, with gaps -/
inductive Sub : Int → Int → List (Int × Int) → Prop
  | nil {lo hi : Int} : Sub lo hi []
  | cons {lo hi b e : Int} {l : List (Int × Int)} : lo ≤ b → b ≤ e → e ≤ hi → Sub (e + 1) hi l → Sub lo hi ((b, e) :: l)
theorem Sub.snoc {lo h b e h' : Int} {l : List (Int × Int)} (s : Sub lo h l) (h1 : h < b) (h2 : b ≤ e) (h3 : e ≤ h') (h4 : lo ≤ b) : Sub lo h' (l ++ [(b, e)]) := by
  induction s with
  | nil => exact .cons h4 h2 h3 .nil
  | cons a1 a2 a3 _ ih => exact .cons a1 a2 (by omega) (ih h1 (by omega))
theorem Sub.up {lo h h' : Int} {l : List (Int × Int)} (s : Sub lo h l) (k : h ≤ h') : Sub lo h' l := by
  induction s with
  | nil => exact .nil
  | cons a1 a2 a3 _ ih => exact .cons a1 a2 (by omega) (ih k)
theorem Sub.down {lo lo' h : Int} {l : List (Int × Int)} (s : Sub lo h l) (k : lo' ≤ lo) : Sub lo' h l := by
  cases s with
  | nil => exact .nil
  | cons a1 a2 a3 r => exact .cons (by omega) a2 a3 r
theorem Sub.sublist {h : Int} : ∀ {l l' : List (Int × Int)} {lo : Int}, List.Sublist l' l → Sub lo h l → Sub lo h l' := by
  intro l l' lo hs
  induction hs generalizing lo with
  | slnil => exact id
  | cons a hs ih =>
    intro s
    cases s with
    | cons a1 a2 a3 r => exact (ih r).down (by omega)
  | cons_cons a hs ih =>
    intro s
    cases s with
    | cons a1 a2 a3 r => exact .cons a1 a2 a3 (ih r)
theorem Sub.mem {lo h : Int} {l : List (Int × Int)} (s : Sub lo h l) : ∀ p ∈ l, lo ≤ p.1 ∧ p.1 ≤ p.2 ∧ p.2 ≤ h := by
  induction s with
  | nil => intro p hp; cases hp
  | cons a1 a2 a3 _ ih =>
    intro p hp
    rcases List.mem_cons.mp hp with rfl | hp
    · exact ⟨a1, a2, a3⟩
    · obtain ⟨h1, h2, h3⟩ := ih p hp; exact ⟨by omega, h2, h3⟩
/-- pieces that end where they should -/
inductive Fill : Int → Int → List (Int × Int) → Prop
  | nil {e : Int} : Fill (e + 1) e []
  | cons {lo hi b e : Int} {l : List (Int × Int)} : lo ≤ b → b ≤ e → Fill (e + 1) hi l → Fill lo hi ((b, e) :: l)
theorem Fill.le {lo hi : Int} {l : List (Int × Int)} (f : Fill lo hi l) : lo ≤ hi + 1 := by
  induction f with
  | nil => omega
  | cons a b _ ih => omega
theorem Sub.last {e : Int} : ∀ {l : List (Int × Int)} {lo zb z : Int}, Sub lo e (l ++ [(zb, z)]) → (z = e → Fill lo e (l ++ [(zb, z)])) ∧ (z ≠ e → Fill lo e (l ++ [(zb, z)] ++ [(z + 1, e)]) ∧ z < e)
  | [], lo, zb, z, s => by
    cases s with
    | cons a1 a2 a3 r => exact ⟨fun h => .cons a1 a2 (h ▸ .nil), fun h => ⟨.cons a1 a2 (.cons (by omega) (by omega) .nil), by omega⟩⟩
  | p :: l, lo, zb, z, s => by
    cases s with
    | cons a1 a2 a3 r =>
      obtain ⟨h1, h2⟩ := Sub.last r
      exact ⟨fun h => .cons a1 a2 (h1 h), fun h => ⟨.cons a1 a2 (h2 h).1, (h2 h).2⟩⟩
/-- a range cut up -/
inductive Parts : Int → Int → List (Int × Int) → Prop
  | one {s e : Int} : s ≤ e → Parts s e [(s, e)]
  | cons {s m e : Int} {l : List (Int × Int)} : s ≤ m → Parts (m + 1) e l → Parts s e ((s, m) :: l)
theorem Parts.snoc {s m e : Int} {l : List (Int × Int)} (p : Parts s m l) (h : m + 1 ≤ e) : Parts s e (l ++ [(m + 1, e)]) := by
  induction p with
  | one h1 => exact .cons h1 (.one h)
  | cons h1 _ ih => exact .cons h1 (ih h)
theorem Parts.end {s m : Int} {l : List (Int × Int)} (p : Parts s m l) : ∃ q b, l = q ++ [(b, m)] := by
  induction p with
  | one h => exact ⟨[], _, rfl⟩
  | cons h _ ih => obtain ⟨q, b, e⟩ := ih; exact ⟨_ :: q, b, by rw [e]; rfl⟩
theorem Parts.head {s m : Int} {l : List (Int × Int)} (p : Parts s m l) : ∃ b r, l = (s, b) :: r := by
  cases p with
  | one h => exact ⟨_, _, rfl⟩
  | cons h _ => exact ⟨_, _, rfl⟩
theorem Parts.len {s m : Int} {l : List (Int × Int)} (p : Parts s m l) : (l.length : Int) ≤ m - s + 1 := by
  induction p with
  | one h => simp; omega
  | cons h _ ih => simp only [List.length_cons]; omega
theorem Parts.le {s m : Int} {l : List (Int × Int)} (p : Parts s m l) : s ≤ m := by
  induction p with
  | one h => exact h
  | cons h _ ih => omega
abbrev tup2 (p : Int × Int) : AV := .tup [.int p.1, .int p.2]
/-- what splitRange gives -/
def SplitOk (s e : Int) (st en : List Int) : Prop := ∃ l, Parts s e l ∧ s :: st = l.map (·.1) ∧ en = l.map (·.2)
/-- the first loop's state -/
inductive SIn (s lc : Int) : AV → AV → List (Int × Int) → Prop
  | none {ob : AV} {l : List (Int × Int)} : Sub s (lc - 1) l → SIn s lc (.val .none) ob l
  | off {ob : AV} {l : List (Int × Int)} : Sub s (lc - 1) l → SIn s lc (.int 0) ob l
  | on {ob : Int} {l : List (Int × Int)} : Sub s (ob - 1) l → s ≤ ob → ob < lc → SIn s lc (.int 1) (.int ob) l
end
section
def splitNm : List Str := ["startCode", "endCode", "cmap", "lastID", "lastCode", "inOrder", "orderedBegin", "subRanges", "code", "glyphID", "newRanges", "b", "e", "threshold", "i", "start", "end"]
theorem Sub.endsW {e : Int} : ∀ {l : List (Int × Int)} {lo : Int}, Sub lo e l → ∀ {q : List (Int × Int)} {zb z : Int}, l = q ++ [(zb, z)] → z ≤ e ∧ lo ≤ z := by
  intro l lo s q zb z h
  have := s.mem (zb, z) (by rw [h]; simp)
  exact ⟨this.2.2, by omega⟩
theorem Fill.len {lo hi : Int} {l : List (Int × Int)} (f : Fill lo hi l) : (l.length : Int) ≤ hi + 1 - lo := by
  induction f with
  | nil => simp
  | cons a b _ ih => simp only [List.length_cons]; omega
theorem Fill.inv {lo hi : Int} {l : List (Int × Int)} (f : Fill lo hi l) : (l = [] ∧ lo = hi + 1) ∨ ∃ b e1 r, l = (b, e1) :: r ∧ lo ≤ b ∧ b ≤ e1 ∧ Fill (e1 + 1) hi r := by
  cases f with
  | nil => exact .inl ⟨rfl, rfl⟩
  | cons a b c => exact .inr ⟨_, _, _, rfl, a, b, c⟩
theorem at_prev {q rest : List (Int × Int)} {p : Int × Int} : ((q ++ [p] ++ rest).map tup2)[(((q ++ [p]).length : Int) - 1).toNat]? = some (tup2 p) := by
  rw [show (((q ++ [p]).length : Int) - 1).toNat = q.length by simp]
  rw [List.getElem?_map, List.append_assoc, List.getElem?_append_right (Nat.le_refl _)]
  simp
theorem at_next {q rest : List (Int × Int)} {p : Int × Int} : ((q ++ p :: rest).map tup2)[((q.length : Nat) : Int).toNat]? = some (tup2 p) := by
  rw [Int.toNat_natCast, List.getElem?_map, List.getElem?_append_right (Nat.le_refl _)]
  simp
theorem put_in {q rest : List (Int × Int)} {a : Int × Int} : ((q ++ rest).map tup2).take ((q.length : Nat) : Int).toNat ++ tup2 a :: ((q ++ rest).map tup2).drop ((q.length : Nat) : Int).toNat = (q ++ a :: rest).map tup2 := by
  rw [Int.toNat_natCast, ← List.map_take, ← List.map_drop, List.take_left, List.drop_left, List.map_append, List.map_cons]
theorem split_tail {x : Cx} (T : Top x.K x.h₀) {A' : Around} {env : Env} (H : Fm 1 A' env ["startCode", "endCode", "cmap", "lastID", "lastCode", "inOrder", "orderedBegin", "subRanges", "code", "glyphID", "newRanges", "b", "e", "threshold", "i", "start", "end"] ["range", "len"]) {own : Own} {Q : AV → Own → Prop} {s e b0 e0 : Int} {NR : Addr} {m0 lid io ob c1 c2 u1 u2 u3 : AV} {l : List (Int × Int)}
    (h1 : s ≤ b0) (h2 : b0 ≤ e0) (h3 : e0 ≤ e) (I : Sub (e0 + 1) e l) (hlen : (l.length : Int) ≤ e - s + 1) (hs : 0 ≤ s) (he : e ≤ 100000)
    (q : ∀ D1 D2 st en, SplitOk s e st en → Q (.tup [.val (.ref D1), .val (.ref D2)]) ((D2, .list (en.map .int)) :: (D1, .list (st.map .int)) :: own)) :
    WS x A' (execs ((bodyOf (stm 11)).drop 13) env) ((NR, .list (((b0, e0) :: l).map tup2)) :: (env.locals, .ns ["startCode", "endCode", "cmap", "lastID", "lastCode", "inOrder", "orderedBegin", "subRanges", "code", "glyphID", "newRanges", "b", "e", "threshold", "i", "start", "end"] [.int s, .int e, m0, lid, .int e, io, ob, .val (.ref NR), c1, c2, .val (.ref NR), u1, u2, u3, .any, .any, .any]) :: own) (RetQ Q) := by
  have hh := H.hnd
  have g1 := T.b_range
  have g2 := T.b_len
  refine SS_cons ?_
  refine WS.join (fun o => ∃ (m1 : Int) (l1 : List (Int × Int)), o = (NR, .list (((s, m1) :: l1).map tup2)) :: (env.locals, .ns ["startCode", "endCode", "cmap", "lastID", "lastCode", "inOrder", "orderedBegin", "subRanges", "code", "glyphID", "newRanges", "b", "e", "threshold", "i", "start", "end"] [.int s, .int e, m0, lid, .int e, io, ob, .val (.ref NR), c1, c2, .val (.ref NR), u1, u2, u3, .any, .any, .any]) :: own ∧ s ≤ m1 ∧ Sub (m1 + 1) e l1 ∧ m1 ≤ e ∧ (l1.length : Int) ≤ e - s + 2) ?_ ?_
  · repeat' tb_start
    all_goals (try omega)
    · refine L_insert (by omega) (by simp; omega) (by rw [List.length_map, List.length_cons]; omega) .z ?_
      repeat' tb_start
      rename_i h
      have h : b0 ≠ s := h
      exact ⟨b0 - 1, (b0, e0) :: l, rfl, by omega, .cons (by omega) h2 h3 I, by omega, by rw [List.length_cons]; omega⟩
    · rename_i h
      have h : b0 = s := h
      subst h
      exact ⟨e0, l, rfl, h2, I, h3, by omega⟩
  · clear h1 h2 h3 I hlen
    rintro _ ⟨m1, l1, rfl, h1, I, h3, hlen⟩
    refine Nx.nx ?_
    refine SS_cons ?_
    obtain ⟨ql, zb, z, hl⟩ : ∃ q zb z, (s, m1) :: l1 = q ++ [(zb, z)] := by
      rcases List.eq_nil_or_concat ((s, m1) :: l1) with h | ⟨q, p, h⟩
      · cases h
      · exact ⟨q, p.1, p.2, by rw [h, List.concat_eq_append]⟩
    have I2 : Sub s e ((s, m1) :: l1) := .cons (Int.le_refl _) h1 h3 I
    have hlast : (((s, m1) :: l1).map tup2).getLast? = some (tup2 (zb, z)) := by rw [hl, List.map_append]; simp
    have hlen2 : (((s, m1) :: l1).map tup2).length < 100010 := by rw [List.length_map, List.length_cons]; omega
    rw [hl] at I2
    obtain ⟨f1, f2⟩ := Sub.last I2
    refine WS.join (fun o => ∃ (m1 : Int) (l1 : List (Int × Int)), o = (NR, .list (((s, m1) :: l1).map tup2)) :: (env.locals, .ns ["startCode", "endCode", "cmap", "lastID", "lastCode", "inOrder", "orderedBegin", "subRanges", "code", "glyphID", "newRanges", "b", "e", "threshold", "i", "start", "end"] [.int s, .int e, m0, lid, .int e, io, ob, .val (.ref NR), c1, c2, .val (.ref NR), u1, u2, u3, .any, .any, .any]) :: own ∧ s ≤ m1 ∧ Fill (m1 + 1) e l1 ∧ (l1.length : Int) ≤ e - s + 3) ?_ ?_
    · repeat' tb_start
      refine G_last (by tb_rel) (by omega) hlast ?_
      repeat' tb_start
      · refine G_last (by tb_rel) (by omega) hlast ?_
        repeat' tb_start
        all_goals (try omega)
        rename_i h
        have h : z ≠ e := h
        obtain ⟨f2, f3⟩ := f2 h
        rw [← hl] at f2
        cases f2 with
        | cons g1 g2 g3 => exact ⟨m1, l1 ++ [(z + 1, e)], by rw [← List.cons_append, List.map_append]; rfl, h1, g3, by rw [List.length_append]; simp; omega⟩
      · rename_i h
        have h : z = e := h
        have f1 := f1 h
        rw [← hl] at f1
        cases f1 with
        | cons g1 g2 g3 => exact ⟨m1, l1, rfl, h1, g3, by omega⟩
    · clear h1 I I2 f1 f2 hlast hlen2 hl h3 hlen
      rintro _ ⟨m1, l1, rfl, h1, I, hlen⟩
      refine Nx.nx ?_
      refine SS_cons ?_
      repeat' tb_start
      have hF := I.len
      refine N_while (fun k o => ∃ (m : Int) (pre rest : List (Int × Int)), o = (NR, .list ((pre ++ rest).map tup2)) :: (env.locals, .ns ["startCode", "endCode", "cmap", "lastID", "lastCode", "inOrder", "orderedBegin", "subRanges", "code", "glyphID", "newRanges", "b", "e", "threshold", "i", "start", "end"] [.int s, .int e, m0, lid, .int e, io, ob, .val (.ref NR), c1, c2, .val (.ref NR), u1, u2, u3, .int (pre.length : Nat), .any, .any]) :: own ∧ Parts s m pre ∧ Fill (m + 1) e rest ∧ k = rest.length) l1.length ⟨m1, [(s, m1)], l1, rfl, .one h1, I, rfl⟩ ?_
      clear h1 I hlen hF m1 l1
      rintro k _ ⟨m, pre, rest, rfl, P, I, rfl⟩
      have hP := P.len
      have hF := I.len
      have hPl := P.le
      have hFl := I.le
      have htot : (((pre ++ rest).map tup2).length : Int) < 100010 := by rw [List.length_map, List.length_append]; omega
      obtain ⟨qp, pb, rfl⟩ := P.end
      rcases I.inv with ⟨rfl, hm⟩ | ⟨b, e1, rest', rfl, k1, k2, I2⟩
      · repeat' tb_start
        · omega
        · rename_i h
          rw [List.length_map, List.append_nil] at h
          omega
        · have hme : m = e := by omega
          subst hme
          rename_i S1 E1
          obtain ⟨l, hl⟩ : ∃ l, qp ++ [(pb, m)] = l := ⟨_, rfl⟩
          rw [hl] at P hP htot ⊢
          rw [List.append_nil] at htot ⊢
          refine N_forL H ?_
          repeat' tb_start
          refine ⟨NR, l.map tup2, _, fun i o => ∃ (v1 v2 : AV), o = (E1, .list (((l.take i).map (·.2)).map .int)) :: (S1, .list (((l.take i).map (·.1)).map .int)) :: (env.locals, .ns ["startCode", "endCode", "cmap", "lastID", "lastCode", "inOrder", "orderedBegin", "subRanges", "code", "glyphID", "newRanges", "b", "e", "threshold", "i", "start", "end"] [.int s, .int m, m0, lid, .int m, io, ob, .val (.ref NR), c1, c2, .val (.ref NR), v1, v2, u3, .int (l.length : Nat), .val (.ref S1), .val (.ref E1)]) :: own, rfl, .s (.s .z), ⟨_, _, rfl⟩, ?_, ?_⟩
          · rintro i a _ hia ⟨v1, v2, rfl⟩
            rw [List.getElem?_map] at hia
            obtain ⟨p, hp, rfl⟩ := Option.map_eq_some_iff.mp hia
            have ht : l.take (i + 1) = l.take i ++ [p] := by rw [List.take_add_one, hp]; rfl
            have hi : i < l.length := (List.getElem?_eq_some_iff.mp hp).1
            repeat' tb_start
            · simp; omega
            · simp; omega
            · exact ⟨_, _, by rw [ht, List.map_append, List.map_append, List.map_append, List.map_append]; rfl⟩
          · rintro _ ⟨v1, v2, rfl⟩
            rw [List.length_map, List.take_length]
            obtain ⟨b, r, hr⟩ := P.head
            have e1 : (l.map (·.1)).map AV.int = .int s :: ((r.map (·.1)).map .int) := by rw [hr]; rfl
            have hlr : l.length = r.length + 1 := by rw [hr]; rfl
            rw [e1]
            repeat' tb_start
            refine L_pop0 (by simp; omega) (.s (.s .z)) ?_
            repeat' tb_start
            all_goals (try (simp; omega))
            · rename_i h
              refine RetQ.r (q S1 E1 (r.map (·.1)) (l.map (·.2)) ⟨l, P, by rw [hr]; rfl, rfl⟩) (List.Sublist.cons _ ?_)
              tb_rel
            · rename_i h
              simp at h
              omega
      · have hI := I2.le
        have h1l : 1 ≤ (qp ++ [(pb, m)]).length := by simp
        have hL : (qp ++ [(pb, m)] ++ (b, e1) :: rest').length = (qp ++ [(pb, m)]).length + (rest'.length + 1) := by rw [List.length_append, List.length_cons]
        repeat' tb_start
        · omega
        · refine G_lit (by tb_rel) (by omega) (by omega) at_prev ?_
          repeat' tb_start
          refine G_lit (by tb_rel) (by omega) (by omega) at_next ?_
          repeat' tb_start
          · refine G_lit (by tb_rel) (by omega) (by omega) at_prev ?_
            repeat' tb_start
            refine G_lit (by tb_rel) (by omega) (by omega) at_next ?_
            repeat' tb_start
            rename_i h
            have h : m + 1 ≠ b := h
            refine L_insert (by omega) (by rw [List.length_map]; omega) (by omega) .z ?_
            repeat' tb_start
            have e3 : ((qp ++ [(pb, m)] ++ [(m + 1, b - 1)] ++ [(b, e1)]).length : Int) = ((qp ++ [(pb, m)]).length : Int) + 1 + 1 := by simp; omega
            refine ⟨rest'.length, by simp, e1, qp ++ [(pb, m)] ++ [(m + 1, b - 1)] ++ [(b, e1)], rest', ?_, ?_, I2, rfl⟩
            · rw [show (AV.tup [AV.int ((pb, m).snd + 1), AV.int ((b, e1).fst - 1)]) = tup2 (m + 1, b - 1) from rfl, put_in, e3]
              simp only [List.append_assoc, List.cons_append, List.nil_append]
            · have := (P.snoc (e := b - 1) (by omega)).snoc (e := e1) (by omega)
              rw [show b - 1 + 1 = b by omega] at this
              exact this
          · rename_i h
            have h : m + 1 = b := h
            subst h
            have e3 : ((qp ++ [(pb, m)] ++ [(m + 1, e1)]).length : Int) = ((qp ++ [(pb, m)]).length : Int) + 1 := by simp; omega
            refine ⟨rest'.length, by simp, e1, qp ++ [(pb, m)] ++ [(m + 1, e1)], rest', ?_, P.snoc k2, I2, rfl⟩
            rw [e3]
            simp only [List.append_assoc, List.cons_append, List.nil_append]
        · rename_i h _ _
          rw [List.length_map] at h
          omega
end
section
theorem split_ok {x : Cx} (T : Top x.K x.h₀) {A : Around} {own : Own} {Q : AV → Own → Prop} (hl : Lv 2 A) {m : Addr} {es : List (Int × AV)} {s e : Int} (km : Kn x own (m, .dictI es)) (hse : s ≤ e) (hs : 0 ≤ s) (he : e ≤ 100000)
    (hc : ∀ c, s ≤ c → c ≤ e → ∃ v, lookK es c = some (.int v)) (q : ∀ D1 D2 st en, SplitOk s e st en → Q (.tup [.val (.ref D1), .val (.ref D2)]) ((D2, .list (en.map .int)) :: (D1, .list (st.map .int)) :: own)) : WO x A (callv (.ref 202)) [.int s, .int e, .val (.ref m)] own Q := by
  refine enter splitNm ["range", "len"] [.int s, .int e, .val (.ref m), .any, .any, .any, .any, .any, .any, .any, .any, .any, .any, .any, .any, .any, .any] T.f_split hl rfl (by with_unfolding_all rfl) (by decide +kernel) (by decide +kernel) (by decide +kernel) (by decide +kernel) (by decide +kernel) fun env A' H => ?_
  unfold splitNm at H
  show WS x A' _ ((env.locals, .ns ["startCode", "endCode", "cmap", "lastID", "lastCode", "inOrder", "orderedBegin", "subRanges", "code", "glyphID", "newRanges", "b", "e", "threshold", "i", "start", "end"] _) :: own) _
  have hh := H.hnd
  have g1 := T.b_range
  have g2 := T.b_len
  refine SS_cons ?_
  repeat' tb_start
  · rename_i h D1 D2
    refine RetQ.r (q _ _ [] [e] ⟨[(s, e)], .one hse, rfl, rfl⟩) (List.Sublist.cons_cons _ (List.Sublist.cons_cons _ (List.Sublist.cons _ (List.Sublist.refl _))))
  · rename_i h
    obtain ⟨v, hv⟩ := hc s (Int.le_refl _) hse
    repeat' tb_start
    refine N_forR H ?_
    repeat' tb_start
    rename_i SR r
    refine ⟨r, s + 1, e + 1, fun i o => ∃ (v : Int) (io ob : AV) (l : List (Int × Int)) (c1 c2 : AV), o = (r, .rng (s + 1) (e + 1) 1) :: (SR, .list (l.map tup2)) :: (env.locals, .ns ["startCode", "endCode", "cmap", "lastID", "lastCode", "inOrder", "orderedBegin", "subRanges", "code", "glyphID", "newRanges", "b", "e", "threshold", "i", "start", "end"] [.int s, .int e, .val (.ref m), .int v, .int (s + (i : Nat)), io, ob, .val (.ref SR), c1, c2, .any, .any, .any, .any, .any, .any, .any]) :: own ∧ SIn s (s + (i : Nat)) io ob l ∧ l.length ≤ i, rfl, .inl (.head _), by omega, ⟨v, .val .none, .val .none, [], .any, .any, by simp, .none .nil, Nat.le_refl _⟩, ?_, ?_⟩
    · rintro i _ hi ⟨v, io, ob, l, c1, c2, rfl, I, hlen⟩
      obtain ⟨w, hw⟩ := hc (s + 1 + (i : Nat)) (by omega) (by omega)
      have e1 : s + ((i + 1 : Nat) : Int) = s + 1 + (i : Nat) := by omega
      cases I with
      | none I =>
        repeat' tb_start
        all_goals (try omega)
        · dsimp only
          rw [e1]
          exact ⟨_, _, _, _, _, _, rfl, .on I (by omega) (by omega), by omega⟩
        · dsimp only
          rw [e1]
          exact ⟨_, _, _, _, _, _, rfl, .none (I.up (by omega)), by omega⟩
      | off I =>
        repeat' tb_start
        all_goals (try omega)
        · dsimp only
          rw [e1]
          exact ⟨_, _, _, _, _, _, rfl, .on I (by omega) (by omega), by omega⟩
        · dsimp only
          rw [e1]
          exact ⟨_, _, _, _, _, _, rfl, .off (I.up (by omega)), by omega⟩
      | on I h1 h2 =>
        rename_i ob
        repeat' tb_start
        all_goals (try omega)
        · dsimp only
          rw [e1]
          exact ⟨_, _, _, _, _, _, rfl, .on I h1 (by omega), by omega⟩
        · simp; omega
        · dsimp only
          rw [e1]
          refine ⟨_, _, _, l ++ [(ob, s + (i : Nat))], _, _, by rw [List.map_append]; rfl, .off ?_, by simp; omega⟩
          exact I.snoc (by omega) (by omega) (by omega) h1
    · rintro _ ⟨v, io, ob, l, c1, c2, rfl, I, hlen⟩
      have elc : s + ((e + 1 - (s + 1)).toNat : Nat) = e := by omega
      rw [elc] at I ⊢
      refine Nx.nx ?_
      refine SS_cons ?_
      refine WS.join (fun o => ∃ (v : Int) (io ob : AV) (l : List (Int × Int)) (c1 c2 : AV), o = (r, .rng (s + 1) (e + 1) 1) :: (SR, .list (l.map tup2)) :: (env.locals, .ns ["startCode", "endCode", "cmap", "lastID", "lastCode", "inOrder", "orderedBegin", "subRanges", "code", "glyphID", "newRanges", "b", "e", "threshold", "i", "start", "end"] [.int s, .int e, .val (.ref m), .int v, .int e, io, ob, .val (.ref SR), c1, c2, .any, .any, .any, .any, .any, .any, .any]) :: own ∧ Sub s e l ∧ (l.length : Int) ≤ e - s + 1) ?_ ?_
      · cases I with
        | none I =>
          repeat' tb_start
          exact ⟨_, _, _, _, _, _, rfl, I.up (by omega), by omega⟩
        | off I =>
          repeat' tb_start
          all_goals (try omega)
          exact ⟨_, _, _, _, _, _, rfl, I.up (by omega), by omega⟩
        | on I h1 h2 =>
          rename_i ob
          repeat' tb_start
          all_goals (try omega)
          · simp; omega
          · exact ⟨_, _, _, l ++ [(ob, e)], _, _, by rw [List.map_append]; rfl, I.snoc (by omega) (by omega) (by omega) h1, by simp; omega⟩
      · clear I hlen v io ob l c1 c2
        rintro _ ⟨v, io, ob, l, c1, c2, rfl, I, hlen⟩
        repeat' tb_start
        all_goals (try omega)
        rename_i NR
        refine WS.join (fun o => ∃ (l' : List (Int × Int)) (u1 u2 u3 : AV), o = (SR, .list (l.map tup2)) :: (NR, .list (l'.map tup2)) :: (r, .rng (s + 1) (e + 1) 1) :: (env.locals, .ns ["startCode", "endCode", "cmap", "lastID", "lastCode", "inOrder", "orderedBegin", "subRanges", "code", "glyphID", "newRanges", "b", "e", "threshold", "i", "start", "end"] [.int s, .int e, .val (.ref m), .int v, .int e, io, ob, .val (.ref SR), c1, c2, .val (.ref NR), u1, u2, u3, .any, .any, .any]) :: own ∧ Sub s e l' ∧ (l'.length : Int) ≤ e - s + 1) ?_ ?_
        · refine N_forL H ?_
          repeat' tb_start
          refine ⟨SR, l.map tup2, _, fun i o => ∃ (l' : List (Int × Int)) (u1 u2 u3 : AV), o = (NR, .list (l'.map tup2)) :: (r, .rng (s + 1) (e + 1) 1) :: (env.locals, .ns ["startCode", "endCode", "cmap", "lastID", "lastCode", "inOrder", "orderedBegin", "subRanges", "code", "glyphID", "newRanges", "b", "e", "threshold", "i", "start", "end"] [.int s, .int e, .val (.ref m), .int v, .int e, io, ob, .val (.ref SR), c1, c2, .val (.ref NR), u1, u2, u3, .any, .any, .any]) :: own ∧ List.Sublist l' (l.take i), rfl, .s (.s .z), ⟨[], _, _, _, rfl, List.nil_sublist _⟩, ?_, ?_⟩
          · rintro i a _ hia ⟨l', u1, u2, u3, rfl, hsub⟩
            rw [List.getElem?_map] at hia
            obtain ⟨p, hp, rfl⟩ := Option.map_eq_some_iff.mp hia
            have hl' := hsub.length_le
            rw [List.length_take] at hl'
            have ht : l.take (i + 1) = l.take i ++ [p] := by rw [List.take_add_one, hp]; rfl
            have fin0 : List.Sublist l' (l.take (i + 1)) := by rw [ht]; exact hsub.trans (List.sublist_append_left ..)
            have fin1 : List.Sublist (l' ++ [p]) (l.take (i + 1)) := by rw [ht]; exact hsub.append (List.Sublist.refl _)
            repeat' tb_start
            all_goals first
              | omega
              | (rw [List.length_map]; omega)
              | exact ⟨l', _, _, _, rfl, I.sublist (hsub.trans (List.take_sublist ..)), by omega⟩
              | exact ⟨l', _, _, _, rfl, fin0⟩
              | exact ⟨l' ++ [p], _, _, _, by rw [List.map_append]; rfl, fin1⟩
          · rintro _ ⟨l', u1, u2, u3, rfl, hsub⟩
            rw [List.length_map, List.take_length] at hsub
            have hl' := hsub.length_le
            exact ⟨l', _, _, _, rfl, I.sublist hsub, by omega⟩
        · clear I hlen
          rintro _ ⟨l', u1, u2, u3, rfl, I, hlen⟩
          have stop : ∀ (D1 D2 : Addr), SplitOk s e [] [e] := fun _ _ => ⟨[(s, e)], .one hse, rfl, rfl⟩
          cases l' with
          | nil =>
            repeat' tb_start
            · simp
            · rename_i h; exact absurd rfl h
            · exact RetQ.r (q _ _ [] [e] (stop 0 0)) (List.Sublist.cons_cons _ (List.Sublist.cons_cons _ (List.Sublist.cons _ (List.Sublist.cons _ (List.Sublist.cons _ (List.Sublist.cons _ (List.Sublist.refl _)))))))
          | cons p l' =>
            obtain ⟨b0, e0⟩ := p
            cases I with
            | cons k1 k2 k3 I =>
            refine Nx.nx ?_
            refine SS_cons ?_
            refine WS.cut ?_
            repeat' tb_start
            refine CutQ.i (Nx.nx ?_)
            refine SS_cons ?_
            refine WS.cut ?_
            repeat' tb_start
            · rw [List.length_map]; omega
            rotate_left
            · rename_i h _ _; simp at h
            refine CutQ.i (Nx.nx ?_)
            exact WS.sub (split_tail T H (by omega) k2 k3 I (by simp at hlen; omega) hs he q) (List.Sublist.cons _ (List.Sublist.cons_cons _ (List.Sublist.cons _ (List.Sublist.refl _))))
end
section
def rngI (s e : Int) : List Int := (List.range (e + 1 - s).toNat).map fun i => s + (i : Nat)
theorem rngI_snoc {s e : Int} (h : s ≤ e + 1) : rngI s (e + 1) = rngI s e ++ [e + 1] := by
  unfold rngI
  rw [show (e + 1 + 1 - s).toNat = (e + 1 - s).toNat + 1 by omega, List.range_succ, List.map_append]
  congr 1
  simp
  omega
theorem rngI_one (s : Int) : rngI s s = [s] := by
  unfold rngI
  rw [show (s + 1 - s).toNat = 1 by omega]
  simp [List.range_succ]
theorem rngI_mem {s e c : Int} : c ∈ rngI s e ↔ s ≤ c ∧ c ≤ e := by
  unfold rngI
  simp only [List.mem_map, List.mem_range]
  constructor
  · rintro ⟨i, h, rfl⟩; omega
  · intro h; exact ⟨(c - s).toNat, by omega, by omega⟩
theorem rngI_len (s e : Int) : (rngI s e).length = (e + 1 - s).toNat := by unfold rngI; simp
theorem rngI_app {s m e : Int} (h1 : s ≤ m + 1) (h2 : m ≤ e) : rngI s m ++ rngI (m + 1) e = rngI s e := by
  unfold rngI
  rw [show (e + 1 - s).toNat = (m + 1 - s).toNat + (e + 1 - (m + 1)).toNat by omega, List.range_add, List.map_append]
  congr 1
  rw [List.map_map]
  apply List.map_congr_left
  intro i _
  simp only [Function.comp]
  omega
def flat (l : List (Int × Int)) : List Int := l.flatMap fun p => rngI p.1 p.2
theorem flat_app (a b : List (Int × Int)) : flat (a ++ b) = flat a ++ flat b := List.flatMap_append
theorem Parts.flat {s e : Int} {l : List (Int × Int)} (p : Parts s e l) : Mine.flat l = rngI s e := by
  induction p with
  | one h => simp [Mine.flat]
  | @cons s m e l h q ih =>
    have := q.le
    show rngI s m ++ Mine.flat l = _
    rw [ih]; exact rngI_app (by omega) (by omega)
theorem Parts.each {s e : Int} {l : List (Int × Int)} (p : Parts s e l) : ∀ q ∈ l, s ≤ q.1 ∧ q.1 ≤ q.2 ∧ q.2 ≤ e := by
  induction p with
  | one h => intro q hq; simp at hq; subst hq; exact ⟨Int.le_refl _, h, Int.le_refl _⟩
  | cons h r ih =>
    intro q hq
    have := r.le
    rcases List.mem_cons.mp hq with rfl | hq
    · exact ⟨Int.le_refl _, h, by omega⟩
    · obtain ⟨a, b, c⟩ := ih q hq; exact ⟨by omega, b, c⟩
/-- the map that is written -/
structure CsOk (cs : List (Int × Int)) : Prop where
  asc : cs.Pairwise fun a b => a.1 < b.1
  key : ∀ p ∈ cs, 0 ≤ p.1 ∧ p.1 ≤ 60000
  val : ∀ p ∈ cs, 1 ≤ p.2 ∧ p.2 < 40
  len : cs.length < 64
def keysOf (cs : List (Int × Int)) : List Int := cs.map (·.1)
def valOf (cs : List (Int × Int)) (c : Int) : Int := ((cs.find? fun p => p.1 = c).map (·.2)).getD 0
theorem CsOk.nodup {cs : List (Int × Int)} (h : CsOk cs) : (cs.map (·.1)).Nodup := by
  rw [List.Nodup, List.pairwise_map]
  exact h.asc.imp fun {a b} h => by omega
theorem find_of {cs : List (Int × Int)} (h : (cs.map (·.1)).Nodup) : ∀ {p : Int × Int}, p ∈ cs → cs.find? (fun q => q.1 = p.1) = some p := by
  induction cs with
  | nil => intro p hp; cases hp
  | cons q cs ih =>
    intro p hp
    rw [List.map_cons, List.nodup_cons] at h
    rcases List.mem_cons.mp hp with rfl | hp
    · simp
    · have hne : ¬ q.1 = p.1 := fun e => h.1 (e ▸ List.mem_map_of_mem hp)
      rw [List.find?_cons, decide_eq_false hne]
      exact ih h.2 hp
theorem CsOk.look {cs : List (Int × Int)} (h : CsOk cs) {p : Int × Int} (hp : p ∈ cs) : valOf cs p.1 = p.2 := by
  unfold valOf; rw [find_of h.nodup hp]; rfl
def intsOf (cs : List (Int × Int)) : List (Int × AV) := cs.map fun p => (p.1, .int p.2)
theorem look_map {cs : List (Int × Int)} (g : Int → AV) {c : Int} : lookK (cs.map fun p => (p.1, g p.2)) c = (cs.find? fun p => p.1 = c).map fun p => g p.2 := by
  unfold lookK
  rw [List.find?_map, Option.map_map]
  rfl
theorem CsOk.ints {cs : List (Int × Int)} (h : CsOk cs) {c : Int} (hc : c ∈ keysOf cs) : lookK (intsOf cs) c = some (.int (valOf cs c)) := by
  obtain ⟨p, hp, rfl⟩ := List.mem_map.mp hc
  unfold intsOf
  rw [look_map, find_of h.nodup hp, h.look hp]; rfl
theorem CsOk.names {cs : List (Int × Int)} (h : CsOk cs) {p : Int × Int} (hp : p ∈ cs) : lookK (namesOf cs) p.1 = some (.str (gname p.2)) := by
  unfold namesOf
  rw [look_map fun v => .str (gname v), find_of h.nodup hp]; rfl
theorem sortI_self {l : List Int} (h : l.Pairwise (· ≤ ·)) : sortI l = l :=
  List.mergeSort_of_pairwise (h.imp fun {a b} h => by simpa using h)
theorem CsOk.sorted {cs : List (Int × Int)} (h : CsOk cs) : sortI (keysOf cs) = keysOf cs := sortI_self (by
  unfold keysOf
  rw [List.pairwise_map]
  exact h.asc.imp fun {a b} h => by omega)
/-- the segments -/
structure Segs (ks : List Int) (segs : List (Int × Int)) : Prop where
  flat : Mine.flat segs = ks
  ok : ∀ p ∈ segs, p.1 ≤ p.2
/-- one segment, written -/
def SegOk (cs : List (Int × Int)) (n : Nat) (gia : List Int) (j : Nat) (p : Int × Int) (d o : Int) : Prop :=
  (o = 0 ∧ 0 ≤ d ∧ d < 65536 ∧ ∀ c, p.1 ≤ c → c ≤ p.2 → (c + d) % 65536 = valOf cs c) ∨
  (d = 0 ∧ ∃ b : Nat, o = 2 * ((n : Int) + b - j) ∧ ∀ c, p.1 ≤ c → c ≤ p.2 → gia[b + (c - p.1).toNat]? = some (valOf cs c))
theorem SegOk.more {cs : List (Int × Int)} {n : Nat} {gia more : List Int} {j : Nat} {p : Int × Int} {d o : Int} (h : SegOk cs n gia j p d o) : SegOk cs n (gia ++ more) j p d o := by
  rcases h with h | ⟨h1, b, h2, h3⟩
  · exact .inl h
  · refine .inr ⟨h1, b, h2, fun c k1 k2 => ?_⟩
    have := h3 c k1 k2
    rw [List.getElem?_append_left (List.getElem?_eq_some_iff.mp this).1]; exact this
/-- the first i segments, written -/
structure SegsOk (cs segs : List (Int × Int)) (i : Nat) (ds os gia : List Int) : Prop where
  dl : ds.length = i
  ol : os.length = i
  each : ∀ j p, j < i → segs[j]? = some p → SegOk cs (segs.length + 1) gia j p (ds.getD j 0) (os.getD j 0)
  gl : gia.length ≤ (Mine.flat (segs.take i)).length
  gv : ∀ g ∈ gia, 0 ≤ g ∧ g < 65536
  dv : ∀ d ∈ ds, 0 ≤ d ∧ d < 65536
  ov : ∀ o ∈ os, 0 ≤ o ∧ o < 65536
/-- what is written -/
def endsOf (segs : List (Int × Int)) : List Int := segs.map (·.2) ++ [65535]
def startsOf (segs : List (Int × Int)) : List Int := segs.map (·.1) ++ [65535]
theorem endsOf_len (segs : List (Int × Int)) : (endsOf segs).length = segs.length + 1 := by simp [endsOf]
theorem startsOf_len (segs : List (Int × Int)) : (startsOf segs).length = segs.length + 1 := by simp [startsOf]
theorem endsOf_get {segs : List (Int × Int)} {i : Nat} {p : Int × Int} (hp : segs[i]? = some p) : (endsOf segs).getD i 0 = p.2 := by
  have hi : i < segs.length := (List.getElem?_eq_some_iff.mp hp).1
  unfold endsOf
  rw [List.getD_eq_getElem?_getD, List.getElem?_append_left (by simpa using hi), List.getElem?_map, hp]; rfl
theorem startsOf_get {segs : List (Int × Int)} {i : Nat} {p : Int × Int} (hp : segs[i]? = some p) : (startsOf segs).getD i 0 = p.1 := by
  have hi : i < segs.length := (List.getElem?_eq_some_iff.mp hp).1
  unfold startsOf
  rw [List.getD_eq_getElem?_getD, List.getElem?_append_left (by simpa using hi), List.getElem?_map, hp]; rfl
def bodyW (segs : List (Int × Int)) (ds os gia : List Int) : List Int := endsOf segs ++ [0] ++ startsOf segs ++ (ds ++ [1]) ++ (os ++ [0]) ++ gia
def headW (n : Nat) (bl : Nat) : List Int := [4, ((14 + 2 * bl : Nat) : Int), 0, ((2 * n : Nat) : Int), ((2 ^ lg n * 2 : Nat) : Int), (lg n : Nat), max 0 (((n * 2 : Nat) : Int) - ((2 ^ lg n * 2 : Nat) : Int))]
structure Fmt4 (cs : List (Int × Int)) (W : List Int) : Prop where
  ex : ∃ segs ds os gia, W = headW (segs.length + 1) (bodyW segs ds os gia).length ++ bodyW segs ds os gia ∧ Segs (keysOf cs) segs ∧ SegsOk cs segs segs.length ds os gia
theorem words_be2 : ∀ (W : List Int), wordsOf (W.flatMap be2) = W
  | [] => rfl
  | w :: W => by
    show (w / 256 * 256 + w % 256) :: wordsOf (W.flatMap be2) = _
    rw [words_be2 W]
    congr 1
    omega
end
section
theorem flat_take {segs : List (Int × Int)} {i : Nat} {p : Int × Int} (hp : segs[i]? = some p) : flat (segs.take (i + 1)) = flat (segs.take i) ++ rngI p.1 p.2 := by
  rw [List.take_add_one, hp, flat_app]; simp [flat]
theorem flat_len (segs : List (Int × Int)) (i : Nat) : (flat (segs.take i)).length ≤ (flat segs).length := by
  conv => rhs; rw [← List.take_append_drop i segs]
  rw [flat_app, List.length_append]
  exact Nat.le_add_right _ _
theorem segs_len {segs : List (Int × Int)} (h : ∀ p ∈ segs, p.1 ≤ p.2) : segs.length ≤ (flat segs).length := by
  induction segs with
  | nil => simp
  | cons p r ih =>
    have h1 := h p (.head _)
    have h2 := ih fun q hq => h q (.tail _ hq)
    show r.length + 1 ≤ (rngI p.1 p.2 ++ flat r).length
    rw [List.length_append, rngI_len]
    omega
theorem mem_flat {segs : List (Int × Int)} {p : Int × Int} {c : Int} (hp : p ∈ segs) (h1 : p.1 ≤ c) (h2 : c ≤ p.2) : c ∈ flat segs := List.mem_flatMap.mpr ⟨p, hp, rngI_mem.mpr ⟨h1, h2⟩⟩
theorem valOf_in {cs : List (Int × Int)} (h : CsOk cs) {c : Int} (hc : c ∈ keysOf cs) : 1 ≤ valOf cs c ∧ valOf cs c < 40 := by
  obtain ⟨p, hp, rfl⟩ := List.mem_map.mp hc
  rw [h.look hp]; exact h.val p hp
theorem getD_snoc {l : List Int} {x : Int} (j : Nat) : (l ++ [x]).getD j 0 = if j < l.length then l.getD j 0 else if j = l.length then x else 0 := by
  simp only [List.getD_eq_getElem?_getD]
  split
  · rename_i h; rw [List.getElem?_append_left h]
  · rename_i h
    rw [List.getElem?_append_right (by omega)]
    split
    · rename_i h2; subst h2; simp
    · rename_i h2; rw [List.getElem?_eq_none (by simp; omega)]; rfl
/-- one more segment -/
theorem SegsOk.next {cs segs : List (Int × Int)} {i : Nat} {ds os gia more : List Int} {p : Int × Int} {d o : Int} (h : SegsOk cs segs i ds os gia) (hp : segs[i]? = some p) (hm : more.length ≤ (rngI p.1 p.2).length)
    (hs : SegOk cs (segs.length + 1) (gia ++ more) i p d o) (hd : 0 ≤ d ∧ d < 65536) (ho : 0 ≤ o ∧ o < 65536) (hg : ∀ g ∈ more, 0 ≤ g ∧ g < 65536) : SegsOk cs segs (i + 1) (ds ++ [d]) (os ++ [o]) (gia ++ more) where
  dl := by rw [List.length_append, h.dl]; rfl
  ol := by rw [List.length_append, h.ol]; rfl
  each := fun j q hj hq => by
    rw [getD_snoc, getD_snoc, h.dl, h.ol]
    by_cases e : j < i
    · rw [if_pos e, if_pos e]; exact (h.each j q e hq).more
    · have e : j = i := by omega
      subst e
      rw [hp] at hq
      cases hq
      simp only [Nat.lt_irrefl, if_false, if_true]
      exact hs
  gl := by
    rw [flat_take hp, List.length_append, List.length_append]
    have := h.gl
    omega
  gv := fun g hg' => by
    rcases List.mem_append.mp hg' with h1 | h1
    · exact h.gv g h1
    · exact hg g h1
  dv := fun g hg' => by
    rcases List.mem_append.mp hg' with h1 | h1
    · exact h.dv g h1
    · rw [List.mem_singleton.mp h1]; exact hd
  ov := fun g hg' => by
    rcases List.mem_append.mp hg' with h1 | h1
    · exact h.ov g h1
    · rw [List.mem_singleton.mp h1]; exact ho
theorem SegsOk.start {cs segs : List (Int × Int)} : SegsOk cs segs 0 [] [] [] := ⟨rfl, rfl, fun j p h => absurd h (Nat.not_lt_zero _), Nat.zero_le _, fun _ h => (by cases h), fun _ h => (by cases h), fun _ h => (by cases h)⟩
/-- neighbouring glyphs -/
theorem seg_even {cs : List (Int × Int)} (C : CsOk cs) {n : Nat} {gia : List Int} {j : Nat} {p : Int × Int} (hk : ∀ c, p.1 ≤ c → c ≤ p.2 → c ∈ keysOf cs) (hp : p.1 ≤ p.2)
    (he : (rngI p.1 p.2).map (valOf cs) = (List.range (rngI p.1 p.2).length).map fun i : Nat => valOf cs p.1 + (i : Int)) : SegOk cs n gia j p ((valOf cs p.1 - p.1) % 65536) 0 := by
  refine .inl ⟨rfl, by omega, by omega, fun c h1 h2 => ?_⟩
  have h3 : ((rngI p.1 p.2).map (valOf cs))[(c - p.1).toNat]? = some (valOf cs c) := by
    rw [List.getElem?_map]
    unfold rngI
    rw [List.getElem?_map, List.getElem?_range (by omega)]
    simp only [Option.map_some]
    rw [show p.1 + (((c - p.1).toNat : Nat) : Int) = c by omega]
  rw [he, List.getElem?_map, List.getElem?_range (by rw [rngI_len]; omega)] at h3
  simp only [Option.map_some, Option.some.injEq] at h3
  have h4 := valOf_in C (hk c h1 h2)
  omega
theorem seg_odd {cs : List (Int × Int)} {n : Nat} {gia : List Int} {j : Nat} {p : Int × Int} : SegOk cs n (gia ++ (rngI p.1 p.2).map (valOf cs)) j p 0 (2 * ((n : Int) + gia.length - j)) := by
  refine .inr ⟨rfl, gia.length, rfl, fun c h1 h2 => ?_⟩
  rw [List.getElem?_append_right (by omega), show gia.length + (c - p.1).toNat - gia.length = (c - p.1).toNat by omega, List.getElem?_map]
  unfold rngI
  rw [List.getElem?_map, List.getElem?_range (by omega)]
  simp only [Option.map_some]
  rw [show p.1 + (((c - p.1).toNat : Nat) : Int) = c by omega]
theorem bodyW_in {cs segs : List (Int × Int)} {ds os gia : List Int} (C : CsOk cs) (G : Segs (keysOf cs) segs) (I : SegsOk cs segs segs.length ds os gia) : ∀ w ∈ bodyW segs ds os gia, 0 ≤ w ∧ w < 65536 := by
  have key_in : ∀ c ∈ keysOf cs, 0 ≤ c ∧ c ≤ 60000 := fun c hc => by
    obtain ⟨q, hq, rfl⟩ := List.mem_map.mp hc
    exact C.key q hq
  have pin : ∀ p ∈ segs, 0 ≤ p.1 ∧ p.1 ≤ 60000 ∧ 0 ≤ p.2 ∧ p.2 ≤ 60000 := fun p hp => by
    have h := G.ok p hp
    have a := key_in p.1 (by rw [← G.flat]; exact mem_flat hp (Int.le_refl _) h)
    have b := key_in p.2 (by rw [← G.flat]; exact mem_flat hp h (Int.le_refl _))
    omega
  intro w hw
  unfold bodyW endsOf startsOf at hw
  simp only [List.mem_append, List.mem_map, List.mem_singleton] at hw
  rcases hw with (((((⟨p, hp, rfl⟩ | rfl) | rfl) | ⟨p, hp, rfl⟩ | rfl) | hd | rfl) | ho | rfl) | hg
  · have := pin p hp; omega
  · omega
  · omega
  · have := pin p hp; omega
  · omega
  · exact I.dv w hd
  · omega
  · exact I.ov w ho
  · omega
  · exact I.gv w hg
theorem bodyW_len {cs segs : List (Int × Int)} {ds os gia : List Int} (I : SegsOk cs segs segs.length ds os gia) : (bodyW segs ds os gia).length = 4 * segs.length + 5 + gia.length := by
  unfold bodyW
  simp only [List.length_append, endsOf_len, startsOf_len, I.dl, I.ol, List.length_singleton]
  omega
theorem bodyW_map (segs : List (Int × Int)) (ds os gia : List Int) : ((endsOf segs).map AV.int ++ [AV.int 0] ++ (startsOf segs).map AV.int ++ (ds.map AV.int ++ [AV.int 1]) ++ (os.map AV.int ++ [AV.int 0]) ++ gia.map AV.int) = (bodyW segs ds os gia).map .int := by
  unfold bodyW
  simp only [List.map_append, List.map_cons, List.map_nil]
theorem flat_be2_len (W : List Int) : (W.flatMap be2).length = 2 * W.length := by
  induction W with
  | nil => rfl
  | cons w W ih => rw [List.flatMap_cons, List.length_append, ih]; simp [be2]; omega
end
section
theorem ccom_tail {x : Cx} (T : Top x.K x.h₀) {A' : Around} {env : Env} (H : Fm 4 A' env ["ttFont", "charCodes", "startCode", "endCode", "code", "names", "gids", "cmap", "gid", "lastCode", "charCode", "start", "end", "idDelta", "idRangeOffset", "glyphIndexArray", "i", "indices", "segCount", "segCountX2", "searchRange", "entrySelector", "rangeShift", "data", "length", "header"] ["list", "zip", "error", "splitRange", "range", "len", "getSearchRange", "pack"]) {own : Own} {Q : AV → Own → Prop} {cs segs : List (Int × Int)} {SC EC cN cS a d : Addr} {w1 w2 w5 w6 w7 cmv w9 w10 w11 w12 w13 cnv cm : AV}
    (C : CsOk cs) (G : Segs (keysOf cs) segs) (hcm : segs ≠ [] → ∃ D, cmv = .val (.ref D) ∧ Kn x own (D, .dictI (intsOf cs)))
    (kS : env.kindOf "self" = some .cell) (cSl : env.cells.lookup ("self" : Str) = some cS)
    (k1 : Kn x own (a, .inst 222 d)) (k2 : Kn x own (d, .attrs (attrsL 4 (.int 0) cm (.val .none))))
    (q : ∀ W, Fmt4 cs W → RetQ Q (.ret (.byt (W.flatMap be2))) own) :
    WS x A' (execs ((bodyOf (methOf (stm 12) 1)).drop 2) env) ((EC, .list ((endsOf segs).map .int)) :: (SC, .list ((startsOf segs).map .int)) ::
      (env.locals, .ns ["ttFont", "charCodes", "startCode", "endCode", "code", "names", "gids", "cmap", "gid", "lastCode", "charCode", "start", "end", "idDelta", "idRangeOffset", "glyphIndexArray", "i", "indices", "segCount", "segCountX2", "searchRange", "entrySelector", "rangeShift", "data", "length", "header"] [w1, w2, .val (.ref SC), .val (.ref EC), w5, w6, w7, cmv, w9, w10, w11, w12, w13, .any, .any, .any, .any, .any, .any, .any, .any, .any, .any, .any, .any, .any]) :: (cN, .cell cnv) :: (cS, .cell (.val (.ref a))) :: own) (RetQ Q) := by
  have hh := H.hnd
  have g1 := T.b_range
  have g2 := T.b_len
  have g3 := T.b_list
  have g4 := T.g_gsr
  have g5 := T.g_pack
  have cc := T.c_cmap
  have o1 := T.o_cmap "formatID" (by tb_rel)
  have o2 := T.o_cmap "language" (by tb_rel)
  have hkl : (flat segs).length < 64 := by
    have := C.len
    rw [G.flat]; unfold keysOf; rw [List.length_map]; exact this
  have hsl := segs_len G.ok
  have hSl := startsOf_len segs
  have hEl := endsOf_len segs
  refine SS_cons ?_
  repeat' tb_start
  refine N_forRg H ?_
  repeat' tb_start
  · rw [hEl]; omega
  rename_i DE RO GI r
  rw [hEl]
  refine ⟨r, 0, ((segs.length + 1 : Nat) : Int) - 1, fun i o => ∃ (ds os gia : List Int) (v1 v2 v3 : AV), o = (r, .rng 0 (((segs.length + 1 : Nat) : Int) - 1) 1) :: (GI, .list (gia.map .int)) :: (RO, .list (os.map .int)) :: (DE, .list (ds.map .int)) :: (EC, .list ((endsOf segs).map .int)) :: (SC, .list ((startsOf segs).map .int)) ::
      (env.locals, .ns ["ttFont", "charCodes", "startCode", "endCode", "code", "names", "gids", "cmap", "gid", "lastCode", "charCode", "start", "end", "idDelta", "idRangeOffset", "glyphIndexArray", "i", "indices", "segCount", "segCountX2", "searchRange", "entrySelector", "rangeShift", "data", "length", "header"] [w1, w2, .val (.ref SC), .val (.ref EC), w5, w6, w7, cmv, w9, w10, v1, w12, w13, .val (.ref DE), .val (.ref RO), .val (.ref GI), v2, v3, .any, .any, .any, .any, .any, .any, .any, .any]) :: (cN, .cell cnv) :: (cS, .cell (.val (.ref a))) :: own ∧ SegsOk cs segs i ds os gia, rfl, .inl (.head _), by omega, ⟨[], [], [], _, _, _, rfl, .start⟩, ?_, ?_⟩
  · rintro i _ hi ⟨ds, os, gia, v1, v2, v3, rfl, I⟩
    have hi : i < segs.length := by omega
    obtain ⟨p, hp⟩ : ∃ p, segs[i]? = some p := ⟨_, List.getElem?_eq_getElem hi⟩
    obtain ⟨D, rfl, kD⟩ := hcm (by intro h; subst h; simp at hi)
    have hpm := List.mem_of_getElem? hp
    have hpp := G.ok p hpm
    have hin : ∀ c, p.1 ≤ c → c ≤ p.2 → c ∈ keysOf cs := fun c h1 h2 => by rw [← G.flat]; exact mem_flat hpm h1 h2
    have key_in : ∀ c ∈ keysOf cs, 0 ≤ c ∧ c ≤ 60000 := fun c hc => by
      obtain ⟨q, hq, rfl⟩ := List.mem_map.mp hc
      exact C.key q hq
    have b1 := key_in p.1 (hin p.1 (Int.le_refl _) hpp)
    have b2 := key_in p.2 (hin p.2 hpp (Int.le_refl _))
    have eS : (startsOf segs).getD (0 + (i : Int)).toNat 0 = p.1 := by rw [show (0 + (i : Int)).toNat = i by omega, startsOf_get hp]
    have eE : (endsOf segs).getD (0 + (i : Int)).toNat 0 = p.2 := by rw [show (0 + (i : Int)).toNat = i by omega, endsOf_get hp]
    repeat' tb_start
    refine N_forR H ?_
    repeat' tb_start
    all_goals (try (first | omega | (rw [hEl]; omega) | (rw [hSl]; omega)))
    rename_i IN r2
    rw [eS, eE]
    have hrl : (rngI p.1 p.2).length = (p.2 + 1 - p.1).toNat := rngI_len ..
    refine ⟨r2, p.1, p.2 + 1, fun k o => ∃ (v1 : AV), o = (r2, .rng p.1 (p.2 + 1) 1) :: (IN, .list ((((rngI p.1 p.2).take k).map (valOf cs)).map .int)) :: (r, .rng 0 (((segs.length + 1 : Nat) : Int) - 1) 1) :: (GI, .list (gia.map .int)) :: (RO, .list (os.map .int)) :: (DE, .list (ds.map .int)) :: (EC, .list ((endsOf segs).map .int)) :: (SC, .list ((startsOf segs).map .int)) ::
      (env.locals, .ns ["ttFont", "charCodes", "startCode", "endCode", "code", "names", "gids", "cmap", "gid", "lastCode", "charCode", "start", "end", "idDelta", "idRangeOffset", "glyphIndexArray", "i", "indices", "segCount", "segCountX2", "searchRange", "entrySelector", "rangeShift", "data", "length", "header"] [w1, w2, .val (.ref SC), .val (.ref EC), w5, w6, w7, .val (.ref D), w9, w10, v1, w12, w13, .val (.ref DE), .val (.ref RO), .val (.ref GI), .int (0 + (i : Nat)), .val (.ref IN), .any, .any, .any, .any, .any, .any, .any, .any]) :: (cN, .cell cnv) :: (cS, .cell (.val (.ref a))) :: own, rfl, .inl (.head _), by omega, ⟨_, rfl⟩, ?_, ?_⟩
    · rintro k _ hk ⟨v1, rfl⟩
      have hk : k < (rngI p.1 p.2).length := by omega
      have hc := C.ints (hin (p.1 + (k : Nat)) (by omega) (by omega))
      have hkk : (rngI p.1 p.2)[k]? = some (p.1 + (k : Nat)) := by unfold rngI; rw [List.getElem?_map, List.getElem?_range (by omega)]; rfl
      repeat' tb_start
      · rw [List.length_map, List.length_map, List.length_take]; omega
      · exact ⟨_, by rw [List.take_add_one, hkk, List.map_append, List.map_append]; rfl⟩
    · rintro _ ⟨v1, rfl⟩
      rw [show (p.2 + 1 - p.1).toNat = (rngI p.1 p.2).length by omega, List.take_length]
      have hil : ((rngI p.1 p.2).map (valOf cs)).length = (p.2 + 1 - p.1).toNat := by rw [List.length_map, rngI_len]
      have hi0 : ((rngI p.1 p.2).map (valOf cs)).getD 0 0 = valOf cs p.1 := by
        unfold rngI
        rw [List.getD_eq_getElem?_getD, List.getElem?_map, List.getElem?_map, List.getElem?_range (by omega)]
        simp
      have hv0 := valOf_in C (hin p.1 (Int.le_refl _) hpp)
      have hrc : (p.2 + 1 - p.1).toNat < 64 := by
        have : (rngI p.1 p.2).length ≤ (flat segs).length := by
          have := flat_take hp
          have h2 := flat_len segs (i + 1)
          rw [this, List.length_append] at h2
          omega
        omega
      repeat' tb_start
      all_goals (try (first | omega | (rw [hil]; omega)))
      have hiz : ((rngI p.1 p.2).map (valOf cs)).getD (Int.toNat 0) 0 = valOf cs p.1 := hi0
      rw [hiz]
      refine C_lrange hh (by tb_rel) (by rw [hil]; omega) fun D2 => ?_
      have elr : (List.range (valOf cs p.1 + (((rngI p.1 p.2).map (valOf cs)).length : Int) - valOf cs p.1).toNat).map (fun i : Nat => valOf cs p.1 + (i : Int)) = (List.range (rngI p.1 p.2).length).map fun i : Nat => valOf cs p.1 + (i : Int) := by
        rw [show (valOf cs p.1 + (((rngI p.1 p.2).map (valOf cs)).length : Int) - valOf cs p.1).toNat = (rngI p.1 p.2).length by rw [List.length_map]; omega]
      rw [elr]
      have hdl := I.dl
      have hol := I.ol
      have hgl := I.gl
      have hfl := flat_len segs i
      refine C_leq (n := 3) H.lv (by tb_rel) (by tb_rel) (by simp) (fun he => ?_) (fun he => ?_)
      · have SO := seg_even (n := segs.length + 1) (gia := gia ++ []) (j := i) C hin hpp he
        repeat' tb_start
        all_goals (try (first | omega | (rw [hil]; omega) | (rw [hSl]; omega) | (rw [List.length_map]; omega)))
        rw [hiz, eS]
        refine Gb.mk (.cons _ (.cons _ (.cons _ (.cons _ (List.Sublist.refl _))))) ⟨ds ++ [_], os ++ [0], gia ++ [], _, _, _, by rw [List.append_nil, List.map_append, List.map_append]; rfl, I.next hp (by simp) SO (by omega) (by omega) (by simp)⟩
      · have SO := seg_odd (cs := cs) (n := segs.length + 1) (gia := gia) (j := i) (p := p)
        repeat' tb_start
        all_goals (try (first | omega | (rw [hil]; omega) | (rw [hEl]; omega) | (rw [List.length_map]; omega)))
        refine L_extend (xs := gia.map .int) (ys := ((rngI p.1 p.2).map (valOf cs)).map .int) (by rw [List.length_map, List.length_map, hil]; omega) (by tb_rel) (.s (.s (.s (.s (.s .z))))) ?_
        repeat' tb_start
        rw [hEl]
        have e1 : (2 * (((segs.length + 1 : Nat) : Int) + (gia.length : Int) - (0 + (i : Int)))) = 2 * (((segs.length + 1 : Nat) : Int) + gia.length - (i : Int)) := by omega
        rw [e1]
        refine Gb.mk (.cons _ (.cons _ (.cons _ (.cons _ (List.Sublist.refl _))))) ⟨ds ++ [0], os ++ [_], gia ++ (rngI p.1 p.2).map (valOf cs), _, _, _, by rw [List.map_append, List.map_append, List.map_append]; rfl, I.next hp (by simp) SO (by omega) (by omega) fun g hg => ?_⟩
        obtain ⟨c, hc, rfl⟩ := List.mem_map.mp hg
        have := rngI_mem.mp hc
        have := valOf_in C (hin c this.1 this.2)
        omega
  · rintro _ ⟨ds, os, gia, v1, v2, v3, rfl, I⟩
    rw [show (((segs.length + 1 : Nat) : Int) - 1 - 0).toNat = segs.length by omega] at I
    repeat' tb_start
    all_goals (try (first | omega | (rw [hEl]; omega) | (rw [List.length_map]; first | (rw [I.dl]; omega) | (rw [I.ol]; omega))))
    rw [hEl]
    refine gsr_ok T (H.lv.le (by omega)) (n := segs.length + 1) (m := 2) (by omega) (by omega) ?_
    repeat' tb_start
    refine E_lmap H [] [] (closure0 (by rfl)) (by rfl) (by decide +kernel) (by decide +kernel) (by decide +kernel) (by decide +kernel) (by simp) ?_
    have hgl := I.gl
    rw [List.take_length] at hgl
    repeat' tb_start
    all_goals (try (simp only [List.length_append, List.length_map, List.length_cons, List.length_nil, hEl, hSl, I.dl, I.ol]; omega))
    rename_i L
    rw [bodyW_map]
    have hbl := bodyW_len I
    have hin := bodyW_in C G I
    refine ⟨_, _, _, _, onInt fun k => .byt (be2 k), Itb.list hh .z, by rw [List.length_map]; omega, fun b hb => ?_, fun D => ?_⟩
    · obtain ⟨w, hw, rfl⟩ := List.mem_map.mp hb
      obtain ⟨h0, h1⟩ := hin w hw
      refine ⟨trivial, fun cenv hc hf => ?_⟩
      repeat' tb_start
      all_goals (try omega)
      exact ⟨rfl, _, by tb_rel⟩
    · rw [map_onInt]
      have hfj : ((bodyW segs ds os gia).map be2).flatten = (bodyW segs ds os gia).flatMap be2 := (List.flatMap_def ..).symm
      have hfl2 := flat_be2_len (bodyW segs ds os gia)
      repeat' tb_start
      refine C_bjoin (bs := (bodyW segs ds os gia).map be2) (by rw [List.map_map]; show Kn x _ (D, .list ((bodyW segs ds os gia).map fun i => .byt (be2 i))); tb_rel) (by rw [List.length_map]; omega) (by rw [List.length_map]; omega) (by rw [hfj]; omega) ?_
      rw [hfj]
      repeat' tb_start
      all_goals (try omega)
      have hp2 := pow_lg (n := segs.length + 1) (by omega)
      have hlg : lg (segs.length + 1) ≤ 65535 := by have := lg_le (n := segs.length + 1) (by omega); omega
      refine C_pack7H ⟨by omega, by omega⟩ ⟨by omega, by omega⟩ ⟨by omega, by omega⟩ ⟨by omega, by omega⟩ ⟨by omega, by omega⟩ ⟨by omega, by omega⟩ ⟨by omega, by omega⟩ ?_
      repeat' tb_start
      all_goals (try (simp only [List.length_cons, List.length_nil]; omega))
      refine RetQ.up (o := own) ?_ (by tb_rel)
      have e1 : (14 + (((bodyW segs ds os gia).flatMap be2).length : Int)) = ((14 + 2 * (bodyW segs ds os gia).length : Nat) : Int) := by omega
      have e2 : (((segs.length + 1 : Nat) : Int) * 2) = ((2 * (segs.length + 1) : Nat) : Int) := by omega
      rw [e1, e2]
      have hq := q (headW (segs.length + 1) (bodyW segs ds os gia).length ++ bodyW segs ds os gia) ⟨segs, ds, os, gia, rfl, G, I⟩
      rw [List.flatMap_append] at hq
      exact hq
end
section
theorem keysOf_take {cs : List (Int × Int)} {i : Nat} {p : Int × Int} (hp : cs[i]? = some p) : keysOf (cs.take (i + 1)) = keysOf (cs.take i) ++ [p.1] := by
  unfold keysOf
  rw [List.take_add_one, hp, List.map_append]; rfl
structure RInv (ks : List Int) (i : Nat) (done : List (Int × Int)) (cur last : Int) : Prop where
  lst : ks[i]? = some last
  le : cur ≤ last
  flt : Mine.flat done ++ rngI cur last = ks.take (i + 1)
  ok : ∀ p ∈ done, p.1 ≤ p.2
theorem RInv.start {k : Int} {ks : List Int} : RInv (k :: ks) 0 [] k k := ⟨rfl, Int.le_refl _, by simp [Mine.flat, rngI_one], fun p hp => by cases hp⟩
theorem RInv.same {ks : List Int} {i : Nat} {done : List (Int × Int)} {cur last : Int} (I : RInv ks i done cur last) (h : ks[i + 1]? = some (last + 1)) : RInv ks (i + 1) done cur (last + 1) :=
  ⟨h, by have := I.le; omega, by rw [List.take_add_one, h, ← I.flt, rngI_snoc (by have := I.le; omega)]; simp, I.ok⟩
theorem RInv.okl {ks : List Int} {i : Nat} {done l : List (Int × Int)} {cur last : Int} (I : RInv ks i done cur last) (P : Parts cur last l) : ∀ p ∈ done ++ l, p.1 ≤ p.2 := fun p hp => by
  rcases List.mem_append.mp hp with h | h
  · exact I.ok p h
  · exact (P.each p h).2.1
theorem RInv.split {ks : List Int} {i : Nat} {done l : List (Int × Int)} {cur last c : Int} (I : RInv ks i done cur last) (P : Parts cur last l) (h : ks[i + 1]? = some c) : RInv ks (i + 1) (done ++ l) c c :=
  ⟨h, Int.le_refl _, by rw [List.take_add_one, h, ← I.flt, flat_app, P.flat, rngI_one]; simp, I.okl P⟩
theorem RInv.fin {ks : List Int} {i : Nat} {done l : List (Int × Int)} {cur last : Int} (I : RInv ks i done cur last) (P : Parts cur last l) (h : i + 1 = ks.length) : Segs ks (done ++ l) :=
  ⟨by rw [flat_app, P.flat, I.flt, h, List.take_length], I.okl P⟩
theorem RInv.mem {ks : List Int} {i : Nat} {done : List (Int × Int)} {cur last : Int} (I : RInv ks i done cur last) {c : Int} (h1 : cur ≤ c) (h2 : c ≤ last) : c ∈ ks := by
  have : c ∈ ks.take (i + 1) := by rw [← I.flt]; exact List.mem_append_right _ (rngI_mem.mpr ⟨h1, h2⟩)
  exact List.mem_of_mem_take this
theorem RInv.len {ks : List Int} {i : Nat} {done : List (Int × Int)} {cur last : Int} (I : RInv ks i done cur last) : done.length ≤ ks.length := by
  have h1 := segs_len I.ok
  have h2 : (Mine.flat done ++ rngI cur last).length = (ks.take (i + 1)).length := by rw [I.flt]
  rw [List.length_append, List.length_take] at h2
  omega
theorem st_app {done l : List (Int × Int)} {cur : Int} {st : List Int} (h : cur :: st = l.map (·.1)) : (done.map (·.1) ++ [cur]) ++ st = (done ++ l).map (·.1) := by
  rw [List.append_assoc, List.singleton_append, h, List.map_append]
theorem CsOk.key_in {cs : List (Int × Int)} (C : CsOk cs) {c : Int} (hc : c ∈ keysOf cs) : 0 ≤ c ∧ c ≤ 60000 := by
  obtain ⟨q, hq, rfl⟩ := List.mem_map.mp hc
  exact C.key q hq
abbrev ccomNm : List Str := ["ttFont", "charCodes", "startCode", "endCode", "code", "names", "gids", "cmap", "gid", "lastCode", "charCode", "start", "end", "idDelta", "idRangeOffset", "glyphIndexArray", "i", "indices", "segCount", "segCountX2", "searchRange", "entrySelector", "rangeShift", "data", "length", "header"]
theorem ccom_ok {x : Cx} (T : Top x.K x.h₀) {A : Around} {own : Own} {own' : Addr → Own} {Q : AV → Own → Prop} (hl : Lv 5 A) {cs : List (Int × Int)} (C : CsOk cs) {a d cm f fd ol : Addr} (hne : cs ≠ [])
    (k1 : Kn x own (a, .inst 222 d)) (k2 : Kn x own (d, .attrs (attrsL 4 (.int 0) (.val (.ref cm)) (.val .none)))) (k3 : Kn x own (cm, .dictI (namesOf cs))) (k4 : Kn x own (f, .inst 127 fd)) (k5 : Kn x own (ol, .list namesL))
    (u : ∀ D, Upd fd (.attrs (attrsF ol (.val .none))) (.attrs (attrsF ol (.val (.ref D)))) own (own' D))
    (q : ∀ W D, Fmt4 cs W → Q (.byt (W.flatMap be2)) ((D, .dictS revL) :: own' D)) : WO x A (callv (.ref 219)) [.val (.ref a), .val (.ref f)] own Q := by
  refine WO.turn (0 : Addr) u fun r hr => ?_
  have k1 := k1.sel hr (by simp)
  have k2 := k2.sel hr (by simp [attrsL, attrsF])
  have k3 := k3.sel hr (by simp)
  have k4 := k4.sel hr (by simp)
  have k5 := k5.sel hr (by simp)
  refine enterC ["ttFont", "charCodes", "startCode", "endCode", "code", "names", "gids", "cmap", "gid", "lastCode", "charCode", "start", "end", "idDelta", "idRangeOffset", "glyphIndexArray", "i", "indices", "segCount", "segCountX2", "searchRange", "entrySelector", "rangeShift", "data", "length", "header"] ["list", "zip", "error", "splitRange", "range", "len", "getSearchRange", "pack"] ["nameMap", "self"] [.val (.ref f), .any, .any, .any, .any, .any, .any, .any, .any, .any, .any, .any, .any, .any, .any, .any, .any, .any, .any, .any, .any, .any, .any, .any, .any, .any] [.any, .val (.ref a)] T.f_ccom hl rfl (by with_unfolding_all rfl) (by with_unfolding_all rfl) (by decide +kernel) (by decide +kernel) (by decide +kernel) (by decide +kernel) (by decide +kernel) (by decide +kernel) (by decide +kernel) fun env A' cs2 H ec hcl hce hck => ?_
  obtain ⟨cN, cS, rfl⟩ : ∃ c1 c2, cs2 = [c1, c2] := by
    match cs2, hcl with
    | [c, d], _ => exact ⟨c, d, rfl⟩
  show WS x A' _ ((env.locals, .ns ["ttFont", "charCodes", "startCode", "endCode", "code", "names", "gids", "cmap", "gid", "lastCode", "charCode", "start", "end", "idDelta", "idRangeOffset", "glyphIndexArray", "i", "indices", "segCount", "segCountX2", "searchRange", "entrySelector", "rangeShift", "data", "length", "header"] [.val (.ref f), .any, .any, .any, .any, .any, .any, .any, .any, .any, .any, .any, .any, .any, .any, .any, .any, .any, .any, .any, .any, .any, .any, .any, .any, .any]) :: (cN, .cell .any) :: (cS, .cell (.val (.ref a))) :: (fd, .attrs (attrsF ol (.val .none))) :: r) _
  have hh := H.hnd
  have kN := hck "nameMap" (.head _)
  have kS := hck "self" (.tail _ (.head _))
  have cNl : env.cells.lookup ("nameMap" : Str) = some cN := by rw [hce]; rfl
  have cSl : env.cells.lookup ("self" : Str) = some cS := by rw [hce]; rfl
  have g1 := T.b_list
  have g2 := T.b_zip
  have g3 := T.g_split
  have cc := T.c_cmap
  have cf := T.c_font
  have mr := T.m_rev
  have o1 := T.o_cmap "cmap" (by tb_rel)
  have hlen := C.len
  have hpos : cs.length ≠ 0 := by intro h; exact hne (List.length_eq_zero_iff.mp h)
  have zk : ((namesOf cs).map fun e => (dkI x).key e.1) = (keysOf cs).map .int := by unfold namesOf keysOf; rw [List.map_map, List.map_map]; rfl
  have hnl : (namesOf cs).length = cs.length := by unfold namesOf; simp
  have hkl : (keysOf cs).length = cs.length := by unfold keysOf; simp
  refine SS_cons ?_
  refine WS.cut ?_
  repeat' tb_start
  refine C_keys (dkI _) (es := namesOf cs) (by show Kn x _ (cm, .dictI (namesOf cs)); tb_rel) fun v => ?_
  repeat' tb_start
  refine D_listk (dkI _) (es := namesOf cs) hh (by tb_rel) (by show Kn x _ (cm, .dictI (namesOf cs)); tb_rel) (by omega) fun L => ?_
  rw [zk]
  repeat' tb_start
  refine CutQ.i (Nx.nx ?_)
  refine SS_cons ?_
  refine WS.join (fun o => ∃ (segs : List (Int × Int)) (SC EC DC D0 : Addr) (w2 w5 w6 w7 w9 w10 w11 w12 w13 : AV), List.Sublist ((SC, .list ((startsOf segs).map .int)) :: (EC, .list ((endsOf segs).map .int)) :: (DC, .dictI (intsOf cs)) :: (D0, .dictS revL) :: (env.locals, .ns ["ttFont", "charCodes", "startCode", "endCode", "code", "names", "gids", "cmap", "gid", "lastCode", "charCode", "start", "end", "idDelta", "idRangeOffset", "glyphIndexArray", "i", "indices", "segCount", "segCountX2", "searchRange", "entrySelector", "rangeShift", "data", "length", "header"] [.val (.ref f), w2, .val (.ref SC), .val (.ref EC), w5, w6, w7, .val (.ref DC), w9, w10, w11, w12, w13, .any, .any, .any, .any, .any, .any, .any, .any, .any, .any, .any, .any, .any]) :: (cN, .cell (.val (.ref D0))) :: (cS, .cell (.val (.ref a))) :: (fd, .attrs (attrsF ol (.val (.ref D0)))) :: r) o ∧ Segs (keysOf cs) segs) ?_ ?_
  rotate_left
  · rintro o ⟨segs, SC, EC, DC, D0, w2, w5, w6, w7, w9, w10, w11, w12, w13, hsub, G⟩
    refine Nx.nx ?_
    refine WS.sub ?_ hsub
    refine WP.perm (own' := (EC, .list ((endsOf segs).map .int)) :: (SC, .list ((startsOf segs).map .int)) :: (env.locals, .ns ["ttFont", "charCodes", "startCode", "endCode", "code", "names", "gids", "cmap", "gid", "lastCode", "charCode", "start", "end", "idDelta", "idRangeOffset", "glyphIndexArray", "i", "indices", "segCount", "segCountX2", "searchRange", "entrySelector", "rangeShift", "data", "length", "header"] [.val (.ref f), w2, .val (.ref SC), .val (.ref EC), w5, w6, w7, .val (.ref DC), w9, w10, w11, w12, w13, .any, .any, .any, .any, .any, .any, .any, .any, .any, .any, .any, .any, .any]) :: (cN, .cell (.val (.ref D0))) :: (cS, .cell (.val (.ref a))) :: (DC, .dictI (intsOf cs)) :: (D0, .dictS revL) :: (fd, .attrs (attrsF ol (.val (.ref D0)))) :: r) ?_ (.trans (.swap ..) (.cons _ (.cons _ ((List.perm_append_comm (l₁ := ([(DC, .dictI (intsOf cs)), (D0, .dictS revL)] : Own)) (l₂ := ([(_, _), (_, _), (_, _)] : Own))).append_right _))))
    exact ccom_tail T H C G (fun _ => ⟨DC, rfl, .inl (.head _)⟩) kS cSl (k1.imp (.tail _ <| .tail _ <| .tail _ ·) id) (k2.imp (.tail _ <| .tail _ <| .tail _ ·) id) fun W F => RetQ.r (o := (D0, .dictS revL) :: (fd, .attrs (attrsF ol (.val (.ref D0)))) :: r) ⟨[(D0, .dictS revL)], D0, List.Sublist.refl _, q W D0 F⟩ (List.Sublist.cons _ (List.Sublist.refl _))
  repeat' tb_start
  · rw [List.length_map]; omega
  rotate_left
  · have h : (keysOf cs).map AV.int = [] := by assumption
    have : ((keysOf cs).map AV.int).length = 0 := by rw [h]; rfl
    rw [List.length_map] at this
    omega
  refine L_sort (ns := keysOf cs) (by omega) (by tb_rel) ?_
  rw [C.sorted]
  repeat' tb_start
  refine S_lmap H [("self", cS)] [] (closure1 (by rfl) cSl) (by rfl) (by decide +kernel) (by decide +kernel) (by decide +kernel) (by decide +kernel) (by simp) (swaps_true H (by tb_rel) rfl rfl) ?_
  repeat' tb_start
  refine ⟨_, _, _, _, onInt fun c => .str (gname (valOf cs c)), Itb.list hh .z, by rw [List.length_map]; omega, fun b hb => ?_, fun D => ?_⟩
  · obtain ⟨c, hc0, rfl⟩ := List.mem_map.mp hb
    have T : Top (wr x ((L, .list ((keysOf cs).map .int)) :: x.ro)).K (wr x ((L, .list ((keysOf cs).map .int)) :: x.ro)).h₀ := T
    have k1 : Kn (wr x ((L, .list ((keysOf cs).map .int)) :: x.ro)) r _ := k1.imp id (.tail _)
    have k2 : Kn (wr x ((L, .list ((keysOf cs).map .int)) :: x.ro)) r _ := k2.imp id (.tail _)
    have k3 : Kn (wr x ((L, .list ((keysOf cs).map .int)) :: x.ro)) r _ := k3.imp id (.tail _)
    refine ⟨trivial, fun cenv hc hf => ?_⟩
    have kS' := hc.cell H.kind (by decide +kernel) kS
    have cS' : cenv.cells.lookup ("self" : Str) = some cS := by rw [hc.cells]; rfl
    repeat' tb_start
    have hcv := valOf_in C hc0
    obtain ⟨p, hp, rfl⟩ := List.mem_map.mp hc0
    have hlk := C.names hp
    rw [← C.look hp] at hlk
    repeat' tb_start
    exact ⟨rfl, _, by tb_rel⟩
  · rw [map_onInt]
    repeat' tb_start
    refine rev_ok T (H.lv.le (by omega)) (d := fd) (l := ol) (by tb_rel) (by tb_rel) (fun D => by tb_rel) fun D0 => ?_
    repeat' tb_start
    refine S_lmap H [("nameMap", cN)] [] (closure1 (by rfl) cNl) (by rfl) (by decide +kernel) (by decide +kernel) (by decide +kernel) (by decide +kernel) (by simp) (swaps_true H (by tb_rel) rfl rfl) ?_
    repeat' tb_start
    refine ⟨_, _, _, _, fun v => match v with | .str s => (lookK revL s).getD .any | b => b, Itb.list hh (.s (.s .z)), by rw [List.length_map]; omega, fun b hb => ?_, fun G => ?_⟩
    · obtain ⟨c, hc0, rfl⟩ := List.mem_map.mp hb
      have hv := valOf_in C hc0
      have hlk := revL_look (g := valOf cs c) (by omega) (by omega)
      refine ⟨trivial, fun cenv hc hf => ?_⟩
      have kN' := hc.cell H.kind (by decide +kernel) kN
      have cN' : cenv.cells.lookup ("nameMap" : Str) = some cN := by rw [hc.cells]; rfl
      repeat' tb_start
      exact ⟨by show _ = (lookK revL _).getD _; rw [hlk]; rfl, _, by tb_rel⟩
    have zg : ((keysOf cs).map fun i => AV.str (gname (valOf cs i))).map (fun v => match v with | .str s => (lookK revL s).getD .any | b => b) = ((keysOf cs).map (valOf cs)).map .int := by
      rw [List.map_map, List.map_map]
      refine List.map_congr_left fun c hc => ?_
      have hv := valOf_in C hc
      show (lookK revL (gname (valOf cs c))).getD _ = _
      rw [revL_look (by omega) (by omega)]; rfl
    rw [zg]
    repeat' tb_start
    refine D_new (dkI _) fun DC => ?_
    repeat' tb_start
    refine WS.frz (p := (L, .list ((keysOf cs).map .int))) (by tb_rel) trivial ?_
    refine WS.frz (p := (G, .list (((keysOf cs).map (valOf cs)).map .int))) (by tb_rel) trivial ?_
    refine S_forZ2 H (by tb_rel) g2 ?_
    repeat' tb_start
    refine ⟨_, _, _, _, fun i o => ∃ w5 w9, o = (DC, .dictI (intsOf (cs.take i))) :: (D, .list ((keysOf cs).map fun i => .str (gname (valOf cs i)))) :: (D0, .dictS revL) :: (v, .view "dict_keys" cm) :: (env.locals, .ns ["ttFont", "charCodes", "startCode", "endCode", "code", "names", "gids", "cmap", "gid", "lastCode", "charCode", "start", "end", "idDelta", "idRangeOffset", "glyphIndexArray", "i", "indices", "segCount", "segCountX2", "searchRange", "entrySelector", "rangeShift", "data", "length", "header"] [.val (.ref f), .val (.ref L), .any, .any, w5, .val (.ref D), .val (.ref G), .val (.ref DC), w9, .any, .any, .any, .any, .any, .any, .any, .any, .any, .any, .any, .any, .any, .any, .any, .any, .any]) :: (cN, .cell (.val (.ref D0))) :: (cS, .cell (.val (.ref a))) :: (fd, .attrs (attrsF ol (.val (.ref D0)))) :: r, rfl, .tail _ (.head _), .head _, by simp, ⟨_, _, rfl⟩, ?_, ?_⟩
    · rintro TT i b1 b2 _ e1 e2 ⟨w5, w9, rfl⟩
      unfold keysOf at e1 e2
      rw [List.getElem?_map, List.getElem?_map] at e1
      rw [List.getElem?_map, List.getElem?_map, List.getElem?_map] at e2
      obtain ⟨p, hp, e1'⟩ : ∃ p, cs[i]? = some p ∧ b1 = .int p.1 := by
        cases hc : cs[i]? with
        | none => rw [hc] at e1; cases e1
        | some p => rw [hc] at e1; exact ⟨p, rfl, by simpa using e1.symm⟩
      subst e1'
      rw [hp] at e2
      simp only [Option.map_some, Option.some.injEq] at e2
      subst e2
      have hpm := List.mem_of_getElem? hp
      have hv := C.val p hpm
      rw [C.look hpm]
      repeat' tb_start
      all_goals (try (first | (exfalso; omega) | omega))
      refine D_set (dkI _) (by simp [intsOf]; omega) Upd.z ?_
      repeat' tb_start
      have : putK (intsOf (cs.take i)) p.1 (.int p.2) = intsOf (cs.take (i + 1)) := by
        rw [putK_new]
        · rw [List.take_add_one, hp]
          unfold intsOf
          rw [List.map_append]; rfl
        · unfold intsOf
          rw [List.map_map]
          exact nodup_take C.nodup hp
      exact ⟨_, _, by rw [← this]; rfl⟩
    · rintro _ ⟨w5, w9, rfl⟩
      rw [List.length_map, hkl, List.take_length]
      obtain ⟨k0, kt, hkt⟩ : ∃ k0 kt, keysOf cs = k0 :: kt := by
        cases h : keysOf cs with
        | nil => rw [h] at hkl; simp at hkl; omega
        | cons a b => exact ⟨_, _, rfl⟩
      repeat' tb_start
      all_goals (try (first | omega | (rw [List.length_map]; omega)))
      rename_i EC SC
      have hg0 : (keysOf cs).getD (Int.toNat 0) 0 = k0 := by rw [hkt]; rfl
      rw [hg0]
      refine N_forLg H ?_
      repeat' tb_start
      refine ⟨1, rfl, ?_⟩
      repeat' tb_start
      · rw [List.length_map]; omega
      rename_i SL
      have hsl : pickL ((keysOf cs).map AV.int) (some 1) none = kt.map .int := by
        rw [show (1 : Int) = ((1 : Nat) : Int) from rfl, pickL_from, hkt]; rfl
      rw [hsl]
      have hktl : kt.length + 1 = cs.length := by rw [← hkl, hkt]; rfl
      refine ⟨SL, kt.map .int, _, fun i o => ∃ (done : List (Int × Int)) (cur last : Int) (w10 w11 w12 : AV), o = (SC, .list ((done.map (·.1) ++ [cur]).map .int)) :: (EC, .list ((done.map (·.2)).map .int)) :: (L, .list ((keysOf cs).map .int)) :: (G, .list (((keysOf cs).map (valOf cs)).map .int)) :: (DC, .dictI (intsOf cs)) :: (D, .list ((keysOf cs).map fun i => .str (gname (valOf cs i)))) :: (D0, .dictS revL) :: (v, .view "dict_keys" cm) :: (env.locals, .ns ["ttFont", "charCodes", "startCode", "endCode", "code", "names", "gids", "cmap", "gid", "lastCode", "charCode", "start", "end", "idDelta", "idRangeOffset", "glyphIndexArray", "i", "indices", "segCount", "segCountX2", "searchRange", "entrySelector", "rangeShift", "data", "length", "header"] [.val (.ref f), .val (.ref L), .val (.ref SC), .val (.ref EC), w5, .val (.ref D), .val (.ref G), .val (.ref DC), w9, .int last, w10, w11, w12, .any, .any, .any, .any, .any, .any, .any, .any, .any, .any, .any, .any, .any]) :: (cN, .cell (.val (.ref D0))) :: (cS, .cell (.val (.ref a))) :: (fd, .attrs (attrsF ol (.val (.ref D0)))) :: r ∧ RInv (keysOf cs) i done cur last, rfl, .z, ⟨[], k0, k0, _, _, _, rfl, by rw [hkt]; exact .start⟩, ?_, ?_⟩
      · rintro i b _ hb ⟨done, cur, last, w10, w11, w12, rfl, I⟩
        rw [List.getElem?_map] at hb
        obtain ⟨c, hc, rfl⟩ := Option.map_eq_some_iff.mp hb
        have hc' : (keysOf cs)[i + 1]? = some c := by rw [hkt, List.getElem?_cons_succ]; exact hc
        have hil : i < kt.length := (List.getElem?_eq_some_iff.mp hc).1
        have hls : ((done.map (·.1) ++ [cur]).map AV.int).getLast? = some (.int cur) := by simp
        have hdl := I.len
        have hcu := C.key_in (I.mem (Int.le_refl _) I.le)
        have hla := C.key_in (I.mem I.le (Int.le_refl _))
        repeat' tb_start
        · rename_i h
          have h : c = last + 1 := by omega
          subst h
          exact Gb.mk (List.Sublist.refl _) ⟨done, cur, _, _, _, _, rfl, I.same hc'⟩
        · refine G_last (by tb_rel) (by simp; omega) hls ?_
          repeat' tb_start
          have T : Top (wr x ((SL, .list (kt.map .int)) :: x.ro)).K (wr x ((SL, .list (kt.map .int)) :: x.ro)).h₀ := T
          refine split_ok T (H.lv.le (by omega)) (m := DC) (es := intsOf cs) (by tb_rel) I.le (by omega) (by omega) (fun c h1 h2 => ⟨_, C.ints (I.mem h1 h2)⟩) fun D1 D2 st en ⟨l, P, hst, hen⟩ => ?_
          subst hen
          have hpl := P.len
          have hstl : st.length + 1 = l.length := by have := congrArg List.length hst; simpa using this
          repeat' tb_start
          refine L_extend (xs := (done.map (·.1) ++ [cur]).map .int) (ys := st.map .int) (by simp; omega) (by tb_rel) (by tb_rel) ?_
          rw [← List.map_append, st_app hst]
          repeat' tb_start
          refine L_extend (xs := (done.map (·.2)).map .int) (ys := (l.map (·.2)).map .int) (by simp; omega) (by tb_rel) (by tb_rel) ?_
          rw [← List.map_append, ← List.map_append]
          repeat' tb_start
          · simp; omega
          · refine Gb.mk (.cons _ (.cons _ (List.Sublist.refl _))) ⟨done ++ l, c, c, .int c, .val (.ref D1), .val (.ref D2), ?_, I.split P hc'⟩
            rw [List.map_append (f := AV.int) (l₁ := (done ++ l).map (·.1)) (l₂ := [c])]; rfl
      · rintro _ ⟨done, cur, last, w10, w11, w12, rfl, I⟩
        have hls : ((done.map (·.1) ++ [cur]).map AV.int).getLast? = some (.int cur) := by simp
        have hdl := I.len
        have hcu := C.key_in (I.mem (Int.le_refl _) I.le)
        have hla := C.key_in (I.mem I.le (Int.le_refl _))
        repeat' tb_start
        refine G_last (by tb_rel) (by simp; omega) hls ?_
        repeat' tb_start
        refine split_ok T (H.lv.le (by omega)) (m := DC) (es := intsOf cs) (by tb_rel) I.le (by omega) (by omega) (fun c h1 h2 => ⟨_, C.ints (I.mem h1 h2)⟩) fun D1 D2 st en ⟨l, P, hst, hen⟩ => ?_
        subst hen
        have hpl := P.len
        have hstl : st.length + 1 = l.length := by have := congrArg List.length hst; simpa using this
        repeat' tb_start
        refine L_extend (xs := (done.map (·.1) ++ [cur]).map .int) (ys := st.map .int) (by simp; omega) (by tb_rel) (by tb_rel) ?_
        rw [← List.map_append, st_app hst]
        repeat' tb_start
        refine L_extend (xs := (done.map (·.2)).map .int) (ys := (l.map (·.2)).map .int) (by simp; omega) (by tb_rel) (by tb_rel) ?_
        rw [← List.map_append, ← List.map_append]
        repeat' tb_start
        · simp; omega
        · simp; omega
        · refine ⟨done ++ l, SC, EC, DC, D0, .val (.ref L), w5, .val (.ref D), .val (.ref G), w9, .int last, w10, .val (.ref D1), .val (.ref D2), ?_, I.fin P (by rw [hkl, List.length_map]; omega)⟩
          unfold startsOf endsOf
          rw [List.map_append (f := AV.int) (l₁ := (done ++ l).map (·.1)), List.map_append (f := AV.int) (l₁ := (done ++ l).map (·.2)), show List.map AV.int [65535] = [AV.int 65535] from rfl]
          tb_rel
end
section
theorem ccom0_ok {x : Cx} (T : Top x.K x.h₀) {A : Around} {own : Own} {Q : AV → Own → Prop} (hl : Lv 5 A) {a d cm f : Addr}
    (k1 : Kn x own (a, .inst 222 d)) (k2 : Kn x own (d, .attrs (attrsL 4 (.int 0) (.val (.ref cm)) (.val .none)))) (k3 : Kn x own (cm, .dictI []))
    (q : ∀ W, Fmt4 [] W → Q (.byt (W.flatMap be2)) own) : WO x A (callv (.ref 219)) [.val (.ref a), .val (.ref f)] own Q := by
  refine enterC ["ttFont", "charCodes", "startCode", "endCode", "code", "names", "gids", "cmap", "gid", "lastCode", "charCode", "start", "end", "idDelta", "idRangeOffset", "glyphIndexArray", "i", "indices", "segCount", "segCountX2", "searchRange", "entrySelector", "rangeShift", "data", "length", "header"] ["list", "zip", "error", "splitRange", "range", "len", "getSearchRange", "pack"] ["nameMap", "self"] [.val (.ref f), .any, .any, .any, .any, .any, .any, .any, .any, .any, .any, .any, .any, .any, .any, .any, .any, .any, .any, .any, .any, .any, .any, .any, .any, .any] [.any, .val (.ref a)] T.f_ccom hl rfl (by with_unfolding_all rfl) (by with_unfolding_all rfl) (by decide +kernel) (by decide +kernel) (by decide +kernel) (by decide +kernel) (by decide +kernel) (by decide +kernel) (by decide +kernel) fun env A' cs2 H ec hcl hce hck => ?_
  obtain ⟨cN, cS, rfl⟩ : ∃ c1 c2, cs2 = [c1, c2] := by
    match cs2, hcl with
    | [c, d], _ => exact ⟨c, d, rfl⟩
  show WS x A' _ ((env.locals, .ns ["ttFont", "charCodes", "startCode", "endCode", "code", "names", "gids", "cmap", "gid", "lastCode", "charCode", "start", "end", "idDelta", "idRangeOffset", "glyphIndexArray", "i", "indices", "segCount", "segCountX2", "searchRange", "entrySelector", "rangeShift", "data", "length", "header"] [.val (.ref f), .any, .any, .any, .any, .any, .any, .any, .any, .any, .any, .any, .any, .any, .any, .any, .any, .any, .any, .any, .any, .any, .any, .any, .any, .any]) :: (cN, .cell .any) :: (cS, .cell (.val (.ref a))) :: own) _
  have hh := H.hnd
  have kS := hck "self" (.tail _ (.head _))
  have cSl : env.cells.lookup ("self" : Str) = some cS := by rw [hce]; rfl
  have g1 := T.b_list
  have cc := T.c_cmap
  have o1 := T.o_cmap "cmap" (by tb_rel)
  have C : CsOk [] := ⟨.nil, fun p hp => (nomatch hp), fun p hp => (nomatch hp), by simp⟩
  have G : Segs (keysOf []) [] := ⟨rfl, fun p hp => (nomatch hp)⟩
  refine SS_cons ?_
  refine WS.cut ?_
  repeat' tb_start
  refine C_keys (dkI _) (es := []) (by show Kn x _ (cm, .dictI []); tb_rel) fun v => ?_
  repeat' tb_start
  refine D_listk (dkI _) (es := []) hh (by tb_rel) (by show Kn x _ (cm, .dictI []); tb_rel) (by simp) fun L => ?_
  repeat' tb_start
  refine CutQ.i (Nx.nx ?_)
  refine SS_cons ?_
  refine WS.cut ?_
  repeat' tb_start
  · simp
  · rename_i h
    exact absurd rfl h
  rename_i S E
  refine CutQ.i (Nx.nx ?_)
  refine WS.sub (own₂ := (E, .list [.int 65535]) :: (S, .list [.int 65535]) :: (env.locals, .ns ["ttFont", "charCodes", "startCode", "endCode", "code", "names", "gids", "cmap", "gid", "lastCode", "charCode", "start", "end", "idDelta", "idRangeOffset", "glyphIndexArray", "i", "indices", "segCount", "segCountX2", "searchRange", "entrySelector", "rangeShift", "data", "length", "header"] [.val (.ref f), .val (.ref L), .val (.ref S), .val (.ref E), .any, .any, .any, .any, .any, .any, .any, .any, .any, .any, .any, .any, .any, .any, .any, .any, .any, .any, .any, .any, .any, .any]) :: (cN, .cell .any) :: (cS, .cell (.val (.ref a))) :: own) ?_ (by tb_rel)
  exact ccom_tail T H C G (fun h => absurd rfl h) kS cSl k1 k2 fun W F => RetQ.r (q W F) (List.Sublist.refl _)
end
section
theorem pickN {α : Type} (xs : List α) {i : Int} (h : 0 ≤ i) : pickL xs none (some i) = xs.take i.toNat := by
  have := pickL_upto xs i.toNat
  rwa [show ((i.toNat : Nat) : Int) = i by omega] at this
theorem pickF {α : Type} (xs : List α) {i : Int} (h : 0 ≤ i) : pickL xs (some i) none = xs.drop i.toNat := by
  have := pickL_from xs i.toNat
  rwa [show ((i.toNat : Nat) : Int) = i by omega] at this
abbrev attrsD (da tf : AV) (cm : AV) (n : Int) : List (Str × AV) := [("formatID", .int 4), ("data", da), ("ttFont", tf), ("platformID", .val .none), ("platEncID", .val .none), ("language", .int 0), ("cmap", cm), ("uvsDict", .val .none), ("length", .int n)]
theorem hdr_ok {x : Cx} (T : Top x.K x.h₀) {A : Around} {own own' : Own} {Q : AV → Own → Prop} (hl : Lv 2 A) {a d f : Addr} {cm : Value} {k2 k3 : Int} {rest : List Int} (hcm : (AV.val cm).known) (hr : rest.length < 100000) (hn : k2 * 256 + k3 = ((rest.length + 6 : Nat) : Int)) (k1 : Kn x own (a, .inst 222 d))
    (u : Upd d (.attrs (attrsL 4 (.int 0) (.val cm) (.val .none))) (.attrs (attrsD (.byt rest) (.val (.ref f)) (.val cm) ((rest.length + 6 : Nat) : Int))) own own')
    (q : Q (.val .none) own') : WO x A (callv (.ref 174)) [.val (.ref a), .byt (0 :: 4 :: k2 :: k3 :: 0 :: 0 :: rest), .val (.ref f)] own Q := by
  refine WO.upd u fun r hr2 => ?_
  have k1 := k1.sel hr2 (by simp)
  refine enter ["self", "data", "ttFont", "headerSize", "format", "length", "language"] ["unpack", "len", "int"] [.val (.ref a), .byt (0 :: 4 :: k2 :: k3 :: 0 :: 0 :: rest), .val (.ref f), .any, .any, .any, .any] T.f_header hl rfl (by with_unfolding_all rfl) (by decide +kernel) (by decide +kernel) (by decide +kernel) (by decide +kernel) (by decide +kernel) fun env A' H => ?_
  have hh := H.hnd
  have cc := T.c_cmap
  have o1 := T.o_cmap "formatID" (by tb_rel)
  have o2 := T.o_cmap "language" (by tb_rel)
  have o3 := T.o_cmap "length" (by tb_rel)
  have o4 := T.o_cmap "data" (by tb_rel)
  have o5 := T.o_cmap "ttFont" (by tb_rel)
  have g1 := T.b_len
  have g2 := T.b_int
  have g3 := T.g_unpack
  refine SS_cons ?_
  repeat' tb_start
  refine ⟨_, rfl, ?_⟩
  repeat' tb_start
  · simp only [List.length_cons]; omega
  rw [pickN _ (by omega)]
  repeat' tb_start
  refine C_unHHH ?_
  repeat' tb_start
  · simp only [List.length_cons]; omega
  · refine ⟨_, rfl, ?_⟩
    repeat' tb_start
    · simp only [List.length_cons]; omega
    rw [pickF _ (by omega)]
    repeat' tb_start
    rw [hn]
    exact ⟨(d, .attrs (attrsD (.byt rest) (.val (.ref f)) (.val cm) ((rest.length + 6 : Nat) : Int))) :: r, List.Sublist.cons _ (List.Sublist.refl _), List.Sublist.refl _, q⟩
  · rename_i h
    simp only [List.length_cons] at h
    omega
end
section
theorem and_ffff {x : Int} (h : 0 ≤ x) : PySem.Builtin.bitAnd x 65535 = x % 65536 := by
  rw [bitAnd_pp h (by decide)]
  have := Nat.and_two_pow_sub_one_eq_mod x.toNat 16
  rw [show (65535 : Int).toNat = 2 ^ 16 - 1 from rfl, this]
  omega
theorem or_byte {a b : Int} (h : 0 ≤ a) (h0 : 0 ≤ b) (h1 : b < 256) : PySem.Builtin.bitOr (a * 2 ^ (8 : Int).toNat) b = a * 256 + b := by
  have e : a * 2 ^ (8 : Int).toNat = a * 256 := rfl
  rw [e, bitOr_and, bitAnd_pp (by omega) h0]
  have h2 := nat_or_add_and (a * 256).toNat b.toNat
  have h3 : a.toNat <<< 8 + b.toNat = a.toNat <<< 8 ||| b.toNat := Nat.shiftLeft_add_eq_or_of_lt (by omega) a.toNat
  rw [Nat.shiftLeft_eq] at h3
  rw [show (a * 256).toNat = a.toNat * 2 ^ 8 by omega] at h2 ⊢
  omega
theorem be_join (w : Int) : w / 256 * 256 + w % 256 = w := by omega
theorem keysOf_get {cs : List (Int × Int)} (C : CsOk cs) {m : Nat} {c : Int} (h : (keysOf cs)[m]? = some c) : cs[m]? = some (c, valOf cs c) := by
  unfold keysOf at h
  rw [List.getElem?_map] at h
  obtain ⟨q, hq, rfl⟩ := Option.map_eq_some_iff.mp h
  rw [hq, C.look (List.mem_of_getElem? hq)]
theorem seg_get {cs segs : List (Int × Int)} (C : CsOk cs) (G : Segs (keysOf cs) segs) {i : Nat} {p : Int × Int} (hp : segs[i]? = some p) {k : Nat} (hk : k < (rngI p.1 p.2).length) : cs[(flat (segs.take i)).length + k]? = some (p.1 + (k : Int), valOf cs (p.1 + (k : Int))) := by
  refine keysOf_get C ?_
  have h1 : flat segs = flat (segs.take i) ++ (rngI p.1 p.2 ++ flat (segs.drop (i + 1))) := by
    rw [← List.append_assoc, ← flat_take hp, ← flat_app, List.take_append_drop]
  rw [← G.flat, h1, List.getElem?_append_right (by omega), List.getElem?_append_left (by omega), Nat.add_sub_cancel_left]
  unfold rngI at hk ⊢
  rw [List.length_map, List.length_range] at hk
  rw [List.getElem?_map, List.getElem?_range hk]; rfl
theorem putAll_range {cs segs : List (Int × Int)} (C : CsOk cs) (G : Segs (keysOf cs) segs) {i : Nat} {p : Int × Int} (hp : segs[i]? = some p) (L : List Int) (hL : L = (rngI p.1 p.2).map (valOf cs)) : ∀ n, n ≤ (rngI p.1 p.2).length →
    putAll (intsOf (cs.take (flat (segs.take i)).length)) (List.range n) (fun i => p.1 + (i : Int)) (fun i => L.getD i 0) = intsOf (cs.take ((flat (segs.take i)).length + n))
  | 0, _ => rfl
  | n + 1, h => by
    have ih := putAll_range C G hp L hL n (by omega)
    unfold putAll at ih ⊢
    rw [List.range_succ, List.foldl_append, ih]
    show putK _ (p.1 + (n : Int)) (AV.int (L.getD n 0)) = _
    have hg := seg_get C G hp (k := n) (by omega)
    have hv : L.getD n 0 = valOf cs (p.1 + (n : Int)) := by
      subst hL
      have hk : n < (p.2 + 1 - p.1).toNat := by rw [rngI_len] at h; omega
      unfold rngI
      rw [List.getD_eq_getElem?_getD, List.getElem?_map, List.getElem?_map, List.getElem?_range hk]; rfl
    rw [hv, putK_new]
    · rw [← Nat.add_assoc, List.take_add_one, hg]
      unfold intsOf
      rw [List.map_append]; rfl
    · unfold intsOf
      rw [List.map_map]
      exact nodup_take C.nodup hg
theorem upd_seg {cs segs : List (Int × Int)} (C : CsOk cs) (G : Segs (keysOf cs) segs) {i : Nat} {p : Int × Int} (hp : segs[i]? = some p) (L : List Int) (hL : L = (rngI p.1 p.2).map (valOf cs)) :
    putAll (intsOf (cs.take (flat (segs.take i)).length)) (passing (fun i => decide (L.getD i 0 ≠ 0)) L.length 0) (fun i => p.1 + (i : Int)) (fun i => L.getD i 0) = intsOf (cs.take (flat (segs.take (i + 1))).length) := by
  have hp1 : passing (fun i => decide (L.getD i 0 ≠ 0)) L.length 0 = List.range L.length := by
    unfold passing
    rw [List.drop_zero]
    refine List.filter_eq_self.mpr fun k hk => ?_
    have hk := List.mem_range.mp hk
    rw [decide_eq_true_eq]
    have hm : L.getD k 0 ∈ L := by rw [List.getD_eq_getElem?_getD, List.getElem?_eq_getElem hk]; exact List.getElem_mem hk
    rw [hL] at hm
    obtain ⟨c, hc, he⟩ := List.mem_map.mp hm
    have hc' : c ∈ keysOf cs := by
      rw [← G.flat]
      exact List.mem_flatMap.mpr ⟨p, List.mem_of_getElem? hp, hc⟩
    have := valOf_in C hc'
    rw [← hL] at he
    omega
  have hl : L.length = (rngI p.1 p.2).length := by rw [hL, List.length_map]
  rw [hp1, hl, putAll_range C G hp L hL _ (Nat.le_refl _), flat_take hp, List.length_append]
theorem BiOk.wr {x : Cx} {r : Own} (B : BiOk x) : BiOk (wr x r) := ⟨B.ok⟩
theorem TabOk.wr {x : Cx} {r : Own} {c P : Addr} (T : TabOk x c P) : TabOk (wr x r) c P := ⟨T.m, T.k, T.t, T.n⟩
end
section
def hd6 (n bl : Nat) : List Int := [((14 + 2 * bl : Nat) : Int) / 256, ((14 + 2 * bl : Nat) : Int) % 256]
def hd8 (n : Nat) : List Int := [((2 * n : Nat) : Int) / 256, ((2 * n : Nat) : Int) % 256, ((2 ^ lg n * 2 : Nat) : Int) / 256, ((2 ^ lg n * 2 : Nat) : Int) % 256, ((lg n : Nat) : Int) / 256, ((lg n : Nat) : Int) % 256, (max 0 (((n * 2 : Nat) : Int) - ((2 ^ lg n * 2 : Nat) : Int))) / 256, (max 0 (((n * 2 : Nat) : Int) - ((2 ^ lg n * 2 : Nat) : Int))) % 256]
theorem headW_bytes (n bl : Nat) (B : List Int) : (headW n bl ++ B).flatMap be2 = 0 :: 4 :: ((14 + 2 * bl : Nat) : Int) / 256 :: ((14 + 2 * bl : Nat) : Int) % 256 :: 0 :: 0 :: (hd8 n ++ B.flatMap be2) := by
  rw [List.flatMap_append]; rfl
theorem flat_be2_in {W : List Int} (h : ∀ w ∈ W, 0 ≤ w ∧ w < 65536) : ∀ k, 0 ≤ (W.flatMap be2).getD k 0 ∧ (W.flatMap be2).getD k 0 < 256 := fun k => by
  rcases Nat.lt_or_ge k (W.flatMap be2).length with hk | hk
  · rw [List.getD_eq_getElem?_getD, List.getElem?_eq_getElem hk]
    obtain ⟨w, hw, hb⟩ := List.mem_flatMap.mp (List.getElem_mem hk)
    have := h w hw
    simp only [be2, List.mem_cons, List.not_mem_nil, or_false] at hb
    show 0 ≤ (W.flatMap be2)[k] ∧ (W.flatMap be2)[k] < 256
    rcases hb with hb | hb <;> omega
  · rw [List.getD_eq_getElem?_getD, List.getElem?_eq_none hk]; exact ⟨by decide, by decide⟩
theorem cut_to {E R : List Int} {n : Nat} (h : E.length = n) : pickL ((E ++ R).map AV.int) none (some (n : Int)) = E.map .int := by
  rw [pickL_upto, List.map_append, ← h, ← List.length_map (f := AV.int) (as := E), List.take_left']
  rfl
theorem cut_from {E R : List Int} {n : Nat} (h : E.length = n) : pickL ((E ++ R).map AV.int) (some (n : Int)) none = R.map .int := by
  rw [pickL_from, List.map_append, ← h, ← List.length_map (f := AV.int) (as := E), List.drop_left']
  rfl
theorem cut_from1 {E R : List Int} {z : Int} {n : Nat} (h : E.length = n) : pickL ((E ++ (z :: R)).map AV.int) (some ((n : Int) + 1)) none = R.map .int := by
  have := @cut_from (E ++ [z]) R (n + 1) (by simp [h])
  rw [List.append_assoc] at this
  exact this
theorem cdec_ok {x : Cx} (T : Top x.K x.h₀) {P : Addr} (TB : TabOk x 213 P) (B : BiOk x) {A : Around} {own : Own} {own' : Addr → Own} {Q : AV → Own → Prop} (hl : Lv 5 A) {cs : List (Int × Int)} {W : List Int} (C : CsOk cs) (F : Fmt4 cs W) {a d f fd ol : Addr} {es : List (Str × AV)}
    (k1 : Kn x own (a, .inst 222 d)) (k4 : Kn x own (f, .inst 127 fd)) (k5 : Kn x own (fd, .attrs es)) (he : es.lookup ("glyphOrder" : Str) = some (.val (.ref ol)))
    (hno : es.lookup ("getGlyphOrder" : Str) = none) (hno2 : es.lookup ("getGlyphNameMany" : Str) = none) (hne : es ≠ attrsL 4 (.int 0) (.val .none) (.val .none)) (k6 : Kn x own (ol, .list namesL))
    (u : ∀ D, Upd d (.attrs (attrsL 4 (.int 0) (.val .none) (.val .none))) (.attrs (attrsD (.val .none) (.val (.ref f)) (.val (.ref D)) ((2 * W.length : Nat) : Int))) own (own' D))
    (q : ∀ D, Q (.val .none) ((D, .dictI (namesOf cs)) :: own' D)) : WO x A (callv (.ref 214)) [.val (.ref a), .byt (W.flatMap be2), .val (.ref f)] own Q := by
  refine WO.turn (0 : Addr) u fun r hr => ?_
  have k1 := k1.sel hr (by simp)
  have k4 := k4.sel hr (by simp)
  have k5 := k5.sel hr (by intro h; exact hne (by simpa using (congrArg Prod.snd h)))
  have k6 := k6.sel hr (by simp)
  refine enterC ["self", "ttFont", "segCountX2", "searchRange", "entrySelector", "rangeShift", "segCount", "i", "allCodes", "endCode", "startCode", "idDelta", "idRangeOffset", "glyphIndexArray", "lenGIArray", "codeToGID", "start", "rangeOffset", "partial", "rangeCharCodes", "charCode", "gids", "index", "glyphID"] ["unpack", "range", "len", "TTLibError", "zip", "_make_map", "list"] ["delta", "data"] [.val (.ref a), .val (.ref f), .any, .any, .any, .any, .any, .any, .any, .any, .any, .any, .any, .any, .any, .any, .any, .any, .any, .any, .any, .any, .any, .any] [.any, .byt (W.flatMap be2)] T.f_cdec hl rfl (by with_unfolding_all rfl) (by with_unfolding_all rfl) (by decide +kernel) (by decide +kernel) (by decide +kernel) (by decide +kernel) (by decide +kernel) (by decide +kernel) (by decide +kernel) fun env A' cs2 H ec hcl hce hck => ?_
  obtain ⟨cE, cD, rfl⟩ : ∃ c1 c2, cs2 = [c1, c2] := by
    match cs2, hcl with
    | [c, d], _ => exact ⟨c, d, rfl⟩
  show WS x A' _ ((env.locals, .ns ["self", "ttFont", "segCountX2", "searchRange", "entrySelector", "rangeShift", "segCount", "i", "allCodes", "endCode", "startCode", "idDelta", "idRangeOffset", "glyphIndexArray", "lenGIArray", "codeToGID", "start", "rangeOffset", "partial", "rangeCharCodes", "charCode", "gids", "index", "glyphID"] [.val (.ref a), .val (.ref f), .any, .any, .any, .any, .any, .any, .any, .any, .any, .any, .any, .any, .any, .any, .any, .any, .any, .any, .any, .any, .any, .any]) :: (cE, .cell .any) :: (cD, .cell (.byt (W.flatMap be2))) :: (d, .attrs (attrsL 4 (.int 0) (.val .none) (.val .none))) :: r) _
  have hh := H.hnd
  have kE := hck "delta" (.head _)
  have kD := hck "data" (.tail _ (.head _))
  have cEl : env.cells.lookup ("delta" : Str) = some cE := by rw [hce]; rfl
  have cDl : env.cells.lookup ("data" : Str) = some cD := by rw [hce]; rfl
  have g1 := T.b_list
  have g2 := T.b_zip
  have g3 := T.b_range
  have g4 := T.b_len
  have g5 := T.g_unpack
  have g6 := T.g_mkmap
  have cc := T.c_cmap
  have mh := T.m_header
  have o1 := T.o_cmap "cmap" (by tb_rel)
  have o2 := T.o_cmap "data" (by tb_rel)
  have o3 := T.o_cmap "ttFont" (by tb_rel)
  obtain ⟨segs, ds, os, gia, rfl, G, I⟩ := F.ex
  have hbl := bodyW_len I
  have hbin := bodyW_in C G I
  have hlen := C.len
  have hfl := segs_len G.ok
  have hkl : (flat segs).length < 64 := by rw [G.flat]; unfold keysOf; rw [List.length_map]; exact hlen
  have hgl := I.gl
  rw [List.take_length] at hgl
  rw [headW_bytes]
  have hfb := flat_be2_len (bodyW segs ds os gia)
  have hrl : (hd8 (segs.length + 1) ++ (bodyW segs ds os gia).flatMap be2).length = 8 + 2 * (bodyW segs ds os gia).length := by rw [List.length_append, hfb]; rfl
  refine SS_cons ?_
  repeat' tb_start
  refine hdr_ok T (H.lv.le (by omega)) (cm := .none) (own' := _ :: _ :: _ :: (d, .attrs (attrsD (.byt (hd8 (segs.length + 1) ++ (bodyW segs ds os gia).flatMap be2)) (.val (.ref f)) (.val .none) _)) :: r) trivial (by omega) (by omega) (by tb_rel) (.s (.s (.s .z))) ?_
  have hnn : (((hd8 (segs.length + 1) ++ (bodyW segs ds os gia).flatMap be2).length + 6 : Nat) : Int) = ((2 * (headW (segs.length + 1) (bodyW segs ds os gia).length ++ bodyW segs ds os gia).length : Nat) : Int) := by
    rw [hrl, List.length_append, show (headW (segs.length + 1) (bodyW segs ds os gia).length).length = 7 from rfl]; omega
  rw [hnn]
  generalize 2 * (headW (segs.length + 1) (bodyW segs ds os gia).length ++ bodyW segs ds os gia).length = LN
  repeat' tb_start
  refine ⟨_, rfl, ?_⟩
  repeat' tb_start
  · omega
  rw [pickN _ (by omega)]
  repeat' tb_start
  refine C_un4H ?_
  simp only [be_join]
  repeat' tb_start
  refine ⟨_, rfl, ?_⟩
  repeat' tb_start
  all_goals (try omega)
  rw [pickF _ (by omega), show (hd8 (segs.length + 1) ++ (bodyW segs ds os gia).flatMap be2).drop (8 : Int).toNat = (bodyW segs ds os gia).flatMap be2 from rfl]
  repeat' tb_start
  rw [show (((2 * (segs.length + 1) : Nat) : Int) / 2) = ((segs.length + 1 : Nat) : Int) by omega]
  have hBi := flat_be2_in hbin
  have hBw := words_be2 (bodyW segs ds os gia)
  generalize hBB : (bodyW segs ds os gia).flatMap be2 = BB at hBi hBw hfb
  refine S_lmap H [("data", cD)] [] (closure1 (by rfl) cDl) (by rfl) (by decide +kernel) (by decide +kernel) (by decide +kernel) (by decide +kernel) (by simp) (swaps_true H (by tb_rel) rfl rfl) ?_
  repeat' tb_start
  all_goals (try omega)
  refine ⟨_, _, _, id, onInt fun k => .int (BB.getD k.toNat 0 * 256 + BB.getD (k + 1).toNat 0), Itb.range2 hh (.inl (.head _)) (by omega), by simp; omega, fun b hb => ?_, fun D => ?_⟩
  · obtain ⟨i, hi, rfl⟩ := List.mem_map.mp hb
    have hi := List.mem_range.mp hi
    refine ⟨trivial, fun cenv hc hf => ?_⟩
    have kD' := hc.cell H.kind (by decide +kernel) kD
    have cD' : cenv.cells.lookup ("data" : Str) = some cD := by rw [hc.cells]; rfl
    have hb1 := hBi (2 * (i : Int)).toNat
    have hb2 := hBi (2 * (i : Int) + 1).toNat
    repeat' tb_start
    all_goals (try omega)
    rw [or_byte hb1.1 hb2.1 hb2.2]
    exact ⟨rfl, _, by tb_rel⟩
  rw [map_onInt, show (((BB.length : Int) + 1) / 2).toNat = BB.length / 2 by omega]
  have e : ((List.range (BB.length / 2)).map fun i : Nat => AV.int (BB.getD (2 * (i : Int)).toNat 0 * 256 + BB.getD (2 * (i : Int) + 1).toNat 0)) = (bodyW segs ds os gia).map .int := by
    rw [← hBw, ← wordsOf_eq, List.map_map]
    apply List.map_congr_left
    intro i _
    show AV.int _ = AV.int _
    rw [show (2 * (i : Int)).toNat = 2 * i by omega, show (2 * (i : Int) + 1).toNat = 2 * i + 1 by omega]
  rw [e]
  repeat' tb_start
  show WS x A' _ ((D, .list ((bodyW segs ds os gia).map .int)) :: _) _
  refine S_asg2 ?_
  repeat' tb_start
  refine ⟨_, rfl, ?_⟩
  repeat' tb_start
  · rw [List.length_map]; omega
  have hbw : bodyW segs ds os gia = endsOf segs ++ (0 :: (startsOf segs ++ ((ds ++ [1]) ++ ((os ++ [0]) ++ gia)))) := by unfold bodyW; simp
  have hE := endsOf_len segs
  have hS := startsOf_len segs
  have hD : (ds ++ [1]).length = segs.length + 1 := by rw [List.length_append, I.dl]; rfl
  have hO : (os ++ [0]).length = segs.length + 1 := by rw [List.length_append, I.ol]; rfl
  rw [hbw]
  rw [cut_to hE]
  refine ⟨_, rfl, ?_⟩
  repeat' tb_start
  · rw [List.length_map, ← hbw]; omega
  rw [cut_from1 hE]
  refine ⟨_, rfl, ?_⟩
  repeat' tb_start
  · simp only [List.length_map, List.length_append] at hS hD hO ⊢; omega
  rw [cut_to hS]
  refine ⟨_, rfl, ?_⟩
  repeat' tb_start
  · simp only [List.length_map, List.length_append] at hS hD hO ⊢; omega
  rw [cut_from hS]
  refine ⟨_, rfl, ?_⟩
  repeat' tb_start
  · simp only [List.length_map, List.length_append] at hS hD hO ⊢; omega
  rw [cut_to hD]
  refine ⟨_, rfl, ?_⟩
  repeat' tb_start
  · simp only [List.length_map, List.length_append] at hS hD hO ⊢; omega
  rw [cut_from hD]
  refine ⟨_, rfl, ?_⟩
  repeat' tb_start
  · simp only [List.length_map, List.length_append] at hS hD hO ⊢; omega
  rw [cut_to hO]
  refine ⟨_, rfl, ?_⟩
  repeat' tb_start
  · simp only [List.length_map, List.length_append] at hS hD hO ⊢; omega
  rw [cut_from hO]
  · rw [List.length_map]; omega
  rename_i EC A6 SC A4 DE A2 RO GI
  rw [cut_from hO]
  refine D_new (dkI _) fun DC => ?_
  repeat' tb_start
  refine WS.sub (own₂ := (DC, .dictI []) :: (GI, .list (gia.map .int)) :: (RO, .list ((os ++ [0]).map .int)) :: (DE, .list ((ds ++ [1]).map .int)) :: (SC, .list ((startsOf segs).map .int)) :: (EC, .list ((endsOf segs).map .int)) :: (env.locals, .ns ["self", "ttFont", "segCountX2", "searchRange", "entrySelector", "rangeShift", "segCount", "i", "allCodes", "endCode", "startCode", "idDelta", "idRangeOffset", "glyphIndexArray", "lenGIArray", "codeToGID", "start", "rangeOffset", "partial", "rangeCharCodes", "charCode", "gids", "index", "glyphID"] [.val (.ref a), .val (.ref f), .int ((2 * (segs.length + 1) : Nat) : Int), .int ((2 ^ lg (segs.length + 1) * 2 : Nat) : Int), .int (lg (segs.length + 1) : Nat), .int (max 0 (((segs.length + 1) * 2 : Nat) - ((2 ^ lg (segs.length + 1) * 2 : Nat) : Int))), .int ((segs.length + 1 : Nat) : Int), .any, .val (.ref A2), .val (.ref EC), .val (.ref SC), .val (.ref DE), .val (.ref RO), .val (.ref GI), .int ((gia.map AV.int).length : Nat), .val (.ref DC), .any, .any, .any, .any, .any, .any, .any, .any]) :: (cE, .cell .any) :: (cD, .cell (.val .none)) :: (d, .attrs (attrsD (.val .none) (.val (.ref f)) (.val .none) (LN : Int))) :: r) ?_ (.cons_cons _ (.cons_cons _ (.cons_cons _ (.cons _ (.cons_cons _ (.cons _ (.cons_cons _ (.cons _ (.cons_cons _ (.cons _ (.cons _ (List.Sublist.refl _))))))))))))
  have J0 : (DC, AObj.dictI []) = (DC, AObj.dictI (intsOf (cs.take (flat (segs.take 0)).length))) := by simp [flat, intsOf]
  rw [J0]
  refine N_forRg H ?_
  repeat' tb_start
  all_goals (try (first | omega | (rw [hS]; omega)))
  rename_i R
  rw [hS]
  refine ⟨R, 0, ((segs.length + 1 : Nat) : Int) - 1, fun i o => ∃ (dv w7 w16 w17 w18 w19 w20 w21 w22 w23 : AV), o = (R, .rng 0 (((segs.length + 1 : Nat) : Int) - 1) 1) :: (DC, .dictI (intsOf (cs.take (flat (segs.take i)).length))) :: (GI, .list (gia.map .int)) :: (RO, .list ((os ++ [0]).map .int)) :: (DE, .list ((ds ++ [1]).map .int)) :: (SC, .list ((startsOf segs).map .int)) :: (EC, .list ((endsOf segs).map .int)) :: (env.locals, .ns ["self", "ttFont", "segCountX2", "searchRange", "entrySelector", "rangeShift", "segCount", "i", "allCodes", "endCode", "startCode", "idDelta", "idRangeOffset", "glyphIndexArray", "lenGIArray", "codeToGID", "start", "rangeOffset", "partial", "rangeCharCodes", "charCode", "gids", "index", "glyphID"] [.val (.ref a), .val (.ref f), .int ((2 * (segs.length + 1) : Nat) : Int), .int ((2 ^ lg (segs.length + 1) * 2 : Nat) : Int), .int (lg (segs.length + 1) : Nat), .int (max 0 (((segs.length + 1) * 2 : Nat) - ((2 ^ lg (segs.length + 1) * 2 : Nat) : Int))), .int ((segs.length + 1 : Nat) : Int), w7, .val (.ref A2), .val (.ref EC), .val (.ref SC), .val (.ref DE), .val (.ref RO), .val (.ref GI), .int ((gia.map AV.int).length : Nat), .val (.ref DC), w16, w17, w18, w19, w20, w21, w22, w23]) :: (cE, .cell dv) :: (cD, .cell (.val .none)) :: (d, .attrs (attrsD (.val .none) (.val (.ref f)) (.val .none) (LN : Int))) :: r, rfl, .inl (.head _), by omega, ⟨_, _, _, _, _, _, _, _, _, _, rfl⟩, ?_, ?_⟩
  · rintro i _ hi ⟨dv, w7, w16, w17, w18, w19, w20, w21, w22, w23, rfl⟩
    have hi : i < segs.length := by omega
    obtain ⟨p, hp⟩ : ∃ p, segs[i]? = some p := ⟨_, List.getElem?_eq_getElem hi⟩
    have hpm := List.mem_of_getElem? hp
    have hpp := G.ok p hpm
    have hin : ∀ c, p.1 ≤ c → c ≤ p.2 → c ∈ keysOf cs := fun c h1 h2 => by rw [← G.flat]; exact mem_flat hpm h1 h2
    have b1 := C.key_in (hin p.1 (Int.le_refl _) hpp)
    have b2 := C.key_in (hin p.2 hpp (Int.le_refl _))
    have hds := I.dl
    have hos := I.ol
    have eS : (startsOf segs).getD (0 + (i : Int)).toNat 0 = p.1 := by rw [show (0 + (i : Int)).toNat = i by omega, startsOf_get hp]
    have eE : (endsOf segs).getD (0 + (i : Int)).toNat 0 = p.2 := by rw [show (0 + (i : Int)).toNat = i by omega, endsOf_get hp]
    have eD : (ds ++ [1]).getD (0 + (i : Int)).toNat 0 = ds.getD i 0 := by
      rw [show (0 + (i : Int)).toNat = i by omega, List.getD_eq_getElem?_getD, List.getD_eq_getElem?_getD, List.getElem?_append_left (by omega)]
    have eO : (os ++ [0]).getD (0 + (i : Int)).toNat 0 = os.getD i 0 := by
      rw [show (0 + (i : Int)).toNat = i by omega, List.getD_eq_getElem?_getD, List.getD_eq_getElem?_getD, List.getElem?_append_left (by omega)]
    have hrl : (rngI p.1 p.2).length = (p.2 + 1 - p.1).toNat := rngI_len ..
    have hrc : (p.2 + 1 - p.1).toNat < 64 := by
      have := flat_take hp
      have h2 := flat_len segs (i + 1)
      rw [this, List.length_append] at h2
      omega
    have hus := upd_seg C G hp _ rfl
    have hSO := I.each i p hi hp
    have hil : ∀ m, (intsOf (cs.take m)).length ≤ cs.length := fun m => by unfold intsOf; rw [List.length_map, List.length_take]; omega
    repeat' tb_start
    all_goals (try (first | omega | (rw [hS]; omega) | (rw [hD]; omega) | (rw [hO]; omega) | (rw [hE]; omega)))
    · rename_i R2 h
      have h : os.getD i 0 = 0 := eO.symm.trans h
      rw [eS, eE, eD]
      rw [h] at hSO
      obtain ⟨_, hd0, hd1, hdv⟩ : (0 : Int) = 0 ∧ 0 ≤ ds.getD i 0 ∧ ds.getD i 0 < 65536 ∧ ∀ c, p.1 ≤ c → c ≤ p.2 → (c + ds.getD i 0) % 65536 = valOf cs c := by
        rcases hSO with h | ⟨_, b, h, _⟩
        · exact h
        · omega
      refine S_lmap H [("delta", cE)] [] (closure1 (by rfl) cEl) (by rfl) (by decide +kernel) (by decide +kernel) (by decide +kernel) (by decide +kernel) (by simp) (swaps_true H (by tb_rel) rfl rfl) ?_
      repeat' tb_start
      refine ⟨_, _, _, id, onInt fun c => .int ((c + ds.getD i 0) % 65536), Itb.range1 (a := p.1) (b := p.2 + 1) hh (.inl (.head _)) (by clear hus hSO; omega) (by clear hus hSO; omega), by rw [List.length_map, List.length_range]; clear hus hSO; omega, fun b hb => ?_, fun GL => ?_⟩
      · obtain ⟨k, hk, rfl⟩ := List.mem_map.mp hb
        have hk := List.mem_range.mp hk
        refine ⟨trivial, fun cenv hc hf => ?_⟩
        have kE' := hc.cell H.kind (by decide +kernel) kE
        have cE' : cenv.cells.lookup ("delta" : Str) = some cE := by rw [hc.cells]; rfl
        repeat' tb_start
        rw [and_ffff (by omega)]
        exact ⟨rfl, _, by tb_rel⟩
      have eg : ((List.range (p.2 + 1 - p.1).toNat).map fun k : Nat => AV.int (p.1 + (k : Int))).map (onInt fun c => .int ((c + ds.getD i 0) % 65536)) = ((rngI p.1 p.2).map (valOf cs)).map .int := by
        unfold rngI
        rw [List.map_map, List.map_map, List.map_map]
        refine List.map_congr_left fun k hk => ?_
        have hk := List.mem_range.mp hk
        exact congrArg AV.int (hdv (p.1 + (k : Int)) (by clear hus hSO; omega) (by clear hus hSO; omega))
      rw [eg]
      iterate 4 tb_start
      refine SS_cons ?_
      show WS x A' _ ((GL, .list (((rngI p.1 p.2).map (valOf cs)).map .int)) :: _) _
      refine WS.frz (p := (R2, .rng p.1 (p.2 + 1) 1)) (by tb_rel) trivial ?_
      refine WS.frz (p := (GL, .list (((rngI p.1 p.2).map (valOf cs)).map .int))) (by tb_rel) trivial ?_
      refine S_expr H ?_
      refine E_updzip H B.wr.wr TB.wr.wr ec (by tb_rel) g2 (by rfl) (closure0 (by rfl)) (by decide +kernel) (by decide +kernel) (by rfl) (by decide) (by decide +kernel) (by decide +kernel) (by decide +kernel) (by decide +kernel) ?_
      repeat' tb_start
      refine ⟨DC, _, rfl, .tail _ (.head _), ?_⟩
      repeat' tb_start
      refine ⟨R2, GL, p.1, p.2 + 1, (rngI p.1 p.2).map (valOf cs), _, rfl, .tail _ (.head _), .head _, small_one (by clear hus hSO; omega) (by clear hus hSO; omega) (by clear hus hSO; omega) (by clear hus hSO; omega), by rw [rangeSize_nat, List.length_map, hrl], by rw [List.length_map, hrl]; have := hil (flat (segs.take i)).length; clear hus hSO; omega, .s .z, ?_⟩
      rw [hus]
      repeat' tb_start
      exact Gb.mk (.cons _ (.cons _ (List.Sublist.refl _))) ⟨_, _, _, _, _, _, _, _, _, _, rfl⟩
    · rename_i R2 h GL
      have h : os.getD i 0 ≠ 0 := fun e => h (eO.trans e)
      rw [eS, eE]
      obtain ⟨hd0, bb, ho, hgv⟩ : ds.getD i 0 = 0 ∧ ∃ b : Nat, os.getD i 0 = 2 * (((segs.length + 1 : Nat) : Int) + b - i) ∧ ∀ c, p.1 ≤ c → c ≤ p.2 → gia[b + (c - p.1).toNat]? = some (valOf cs c) := by
        rcases hSO with ⟨h0, _⟩ | h1
        · exact absurd h0 h
        · exact h1
      have eO2 : (os ++ [0]).getD (0 + (i : Int)).toNat 0 / 2 - p.1 + (0 + (i : Int)) - ((os ++ [0]).length : Int) = (bb : Int) - p.1 := by
        rw [eO, ho, hO]; clear hus hSO hgv; omega
      rw [eO2, eD, hd0]
      refine N_forR H ?_
      repeat' tb_start
      refine ⟨R2, p.1, p.2 + 1, fun k o => ∃ (w20 w22 w23 : AV), o = (GL, .list ((((rngI p.1 p.2).take k).map (valOf cs)).map .int)) :: (R2, .rng p.1 (p.2 + 1) 1) :: (R, .rng 0 (((segs.length + 1 : Nat) : Int) - 1) 1) :: (DC, .dictI (intsOf (cs.take (flat (segs.take i)).length))) :: (GI, .list (gia.map .int)) :: (RO, .list ((os ++ [0]).map .int)) :: (DE, .list ((ds ++ [1]).map .int)) :: (SC, .list ((startsOf segs).map .int)) :: (EC, .list ((endsOf segs).map .int)) :: (env.locals, .ns ["self", "ttFont", "segCountX2", "searchRange", "entrySelector", "rangeShift", "segCount", "i", "allCodes", "endCode", "startCode", "idDelta", "idRangeOffset", "glyphIndexArray", "lenGIArray", "codeToGID", "start", "rangeOffset", "partial", "rangeCharCodes", "charCode", "gids", "index", "glyphID"] [.val (.ref a), .val (.ref f), .int ((2 * (segs.length + 1) : Nat) : Int), .int ((2 ^ lg (segs.length + 1) * 2 : Nat) : Int), .int (lg (segs.length + 1) : Nat), .int (max 0 (((segs.length + 1) * 2 : Nat) - ((2 ^ lg (segs.length + 1) * 2 : Nat) : Int))), .int ((segs.length + 1 : Nat) : Int), .int (0 + (i : Int)), .val (.ref A2), .val (.ref EC), .val (.ref SC), .val (.ref DE), .val (.ref RO), .val (.ref GI), .int ((gia.map AV.int).length : Nat), .val (.ref DC), .int p.1, .int ((os ++ [0]).getD (0 + (i : Int)).toNat 0), .int ((bb : Int) - p.1), .val (.ref R2), w20, .val (.ref GL), w22, w23]) :: (cE, .cell (.int 0)) :: (cD, .cell (.val .none)) :: (d, .attrs (attrsD (.val .none) (.val (.ref f)) (.val .none) (LN : Int))) :: r, rfl, .inl (.tail _ (.head _)), by clear hus hgv; omega, ⟨_, _, _, rfl⟩, ?_, ?_⟩
      · rintro k _ hk ⟨w20, w22, w23, rfl⟩
        have hk : k < (rngI p.1 p.2).length := by rw [hrl]; exact hk
        have hkk : (rngI p.1 p.2)[k]? = some (p.1 + (k : Nat)) := by unfold rngI; rw [List.getElem?_map, List.getElem?_range (by clear hus hgv; omega)]; rfl
        have hg := hgv (p.1 + (k : Int)) (by clear hus hgv; omega) (by clear hus hgv; omega)
        have hx : p.1 + (k : Int) + ((bb : Int) - p.1) = ((bb + k : Nat) : Int) := by clear hus hgv; omega
        rw [show (p.1 + (k : Int) - p.1).toNat = k by clear hus hgv; omega] at hg
        have hgb : bb + k < gia.length := (List.getElem?_eq_some_iff.mp hg).1
        have hgd : gia.getD ((bb + k : Nat) : Int).toNat 0 = valOf cs (p.1 + (k : Int)) := by
          rw [Int.toNat_natCast, List.getD_eq_getElem?_getD, hg]; rfl
        have hv := valOf_in C (hin (p.1 + (k : Int)) (by clear hus hgv; omega) (by clear hus hgv; omega))
        clear hus hgv
        iterate 3 tb_start
        repeat' tb_start
        all_goals (try (first | omega | (rw [List.length_map] at *; omega)))
        all_goals (try (rw [List.length_map, List.length_map, List.length_take]; omega))
        all_goals (try (rw [hx, hgd] at *))
        · have hba : PySem.Builtin.bitAnd (valOf cs (p.1 + (k : Int)) + 0) 65535 = valOf cs (p.1 + (k : Int)) := by rw [and_ffff (by omega)]; omega
          rw [hba]
          have eT : (((rngI p.1 p.2).take (k + 1)).map (valOf cs)).map AV.int = (((rngI p.1 p.2).take k).map (valOf cs)).map AV.int ++ [AV.int (valOf cs (p.1 + (k : Int)))] := by
            rw [List.take_add_one, hkk, List.map_append, List.map_append]; rfl
          exact ⟨_, _, _, by rw [eT] <;> rfl⟩
        · exfalso; omega
      · rintro _ ⟨w20, w22, w23, rfl⟩
        rw [show (p.2 + 1 - p.1).toNat = (rngI p.1 p.2).length by rw [hrl], List.take_length]
        iterate 4 tb_start
        refine WS.frz (p := (R2, .rng p.1 (p.2 + 1) 1)) (by tb_rel) trivial ?_
        refine WS.frz (p := (GL, .list (((rngI p.1 p.2).map (valOf cs)).map .int))) (by tb_rel) trivial ?_
        refine S_expr H ?_
        refine E_updzip H B.wr.wr TB.wr.wr ec (by tb_rel) g2 (by rfl) (closure0 (by rfl)) (by decide +kernel) (by decide +kernel) (by rfl) (by decide) (by decide +kernel) (by decide +kernel) (by decide +kernel) (by decide +kernel) ?_
        repeat' tb_start
        refine ⟨DC, _, rfl, .tail _ (.head _), ?_⟩
        repeat' tb_start
        refine ⟨R2, GL, p.1, p.2 + 1, (rngI p.1 p.2).map (valOf cs), _, rfl, .tail _ (.head _), .head _, small_one (by clear hus hSO hgv; omega) (by clear hus hSO hgv; omega) (by clear hus hSO hgv; omega) (by clear hus hSO hgv; omega), by rw [rangeSize_nat, List.length_map, hrl], by rw [List.length_map, hrl]; have := hil (flat (segs.take i)).length; clear hus hSO hgv; omega, .s .z, ?_⟩
        rw [hus]
        repeat' tb_start
        exact Gb.mk (.cons _ (.cons _ (List.Sublist.refl _))) ⟨_, _, _, _, _, _, _, _, _, _, rfl⟩
  · rintro _ ⟨dv, w7, w16, w17, w18, w19, w20, w21, w22, w23, rfl⟩
    rw [show (((segs.length + 1 : Nat) : Int) - 1 - 0).toNat = segs.length by omega, List.take_length]
    have hfc : (flat segs).length = cs.length := by rw [G.flat]; unfold keysOf; rw [List.length_map]
    rw [hfc, List.take_length]
    repeat' tb_start
    have hil : (intsOf cs).length = cs.length := by unfold intsOf; rw [List.length_map]
    refine D_list (dkI _) (es := intsOf cs) hh (by show Kn x _ (DC, .dictI (intsOf cs)); tb_rel) (by omega) fun L1 => ?_
    repeat' tb_start
    refine C_values (dkI _) (es := intsOf cs) (by show Kn x _ (DC, .dictI (intsOf cs)); tb_rel) fun v => ?_
    repeat' tb_start
    refine D_listv (dkI _) (es := intsOf cs) hh (by tb_rel) (by show Kn x _ (DC, .dictI (intsOf cs)); tb_rel) (by omega) fun L2 => ?_
    repeat' tb_start
    have e1 : ((intsOf cs).map fun e => (dkI x).key e.1) = cs.map fun p => .int p.1 := by unfold intsOf; rw [List.map_map]; rfl
    have e2 : ((intsOf cs).map fun e => e.2) = cs.map fun p => .int p.2 := by unfold intsOf; rw [List.map_map]; rfl
    rw [e1, e2]
    refine mkmap_ok T (H.lv.le (by omega)) (cs := cs) (by tb_rel) (by tb_rel) he hno hno2 (by tb_rel) (by tb_rel) (by tb_rel) C.val C.nodup (by omega) fun D => ?_
    repeat' tb_start
    exact ⟨(D, .dictI (namesOf cs)) :: (d, .attrs (attrsD (.val .none) (.val (.ref f)) (.val (.ref D)) (LN : Int))) :: r, by tb_rel, ⟨[(D, .dictI (namesOf cs))], D, List.Sublist.refl _, q D⟩⟩
end
section
/-- the kern pairs -/
abbrev Pr := Int × Int × Int
structure PrOk (ps : List Pr) : Prop where
  each : ∀ p ∈ ps, (0 ≤ p.1 ∧ p.1 < 8) ∧ (0 ≤ p.2.1 ∧ p.2.1 < 8) ∧ -200 ≤ p.2.2 ∧ p.2.2 ≤ 200
  len : ps.length < 13
def rowOf (ps : List Pr) : List Int := ps.flatMap fun p => [0, p.1, 0, p.2.1, p.2.2 % 65536 / 256, p.2.2 % 256]
def kernTo (ps : List Pr) : List (List Str × AV) := ps.foldl (fun es p => putK es [gname p.1, gname p.2.1] (.int p.2.2)) []
def pairsTo (ps : List Pr) : List (List Int × AV) := ps.foldl (fun es p => putK es [p.1, p.2.1] (.int p.2.2)) []
theorem rowOf_len (ps : List Pr) : (rowOf ps).length = 6 * ps.length := by
  unfold rowOf
  induction ps with
  | nil => rfl
  | cons p r ih => rw [List.flatMap_cons, List.length_append, ih, List.length_cons]; simp only [List.length_cons, List.length_nil]; omega
theorem kernTo_snoc (ps : List Pr) (p : Pr) : kernTo (ps ++ [p]) = putK (kernTo ps) [gname p.1, gname p.2.1] (.int p.2.2) := by
  unfold kernTo; rw [List.foldl_append]; rfl
theorem pairsTo_snoc (ps : List Pr) (p : Pr) : pairsTo (ps ++ [p]) = putK (pairsTo ps) [p.1, p.2.1] (.int p.2.2) := by
  unfold pairsTo; rw [List.foldl_append]; rfl
def wrdsK (ps : List Pr) : List Int := ps.flatMap fun p => [p.1, p.2.1, p.2.2 % 65536]
theorem words_row : ∀ ps : List Pr, wordsOf (rowOf ps) = wrdsK ps
  | [] => rfl
  | p :: r => by
    have ih := words_row r
    show (0 * 256 + p.1) :: (0 * 256 + p.2.1) :: (p.2.2 % 65536 / 256 * 256 + p.2.2 % 256) :: wordsOf (rowOf r) = p.1 :: p.2.1 :: (p.2.2 % 65536) :: wrdsK r
    rw [ih, show 0 * 256 + p.1 = p.1 by omega, show 0 * 256 + p.2.1 = p.2.1 by omega, show p.2.2 % 65536 / 256 * 256 + p.2.2 % 256 = p.2.2 % 65536 by omega]
theorem rowOf_in {ps : List Pr} (O : PrOk ps) : ∀ k, 0 ≤ (rowOf ps).getD k 0 ∧ (rowOf ps).getD k 0 < 256 := fun k => by
  rcases Nat.lt_or_ge k (rowOf ps).length with hk | hk
  · rw [List.getD_eq_getElem?_getD, List.getElem?_eq_getElem hk]
    obtain ⟨p, hp, hb⟩ := List.mem_flatMap.mp (List.getElem_mem hk)
    have := O.each p hp
    simp only [List.mem_cons, List.not_mem_nil, or_false] at hb
    show 0 ≤ (rowOf ps)[k] ∧ (rowOf ps)[k] < 256
    rcases hb with hb | hb | hb | hb | hb | hb <;> (have hb : (rowOf ps)[k] = _ := hb; omega)
  · rw [List.getD_eq_getElem?_getD, List.getElem?_eq_none hk]; exact ⟨by decide, by decide⟩
theorem wrdsK_get {ps : List Pr} {k : Nat} {p : Pr} (hp : ps[k]? = some p) : (wrdsK ps)[3 * k]? = some p.1 ∧ (wrdsK ps)[3 * k + 1]? = some p.2.1 ∧ (wrdsK ps)[3 * k + 2]? = some (p.2.2 % 65536) := by
  induction ps generalizing k with
  | nil => simp at hp
  | cons q r ih =>
    cases k with
    | zero => simp at hp; subst hp; exact ⟨rfl, rfl, rfl⟩
    | succ k =>
      have := ih (k := k) (by simpa using hp)
      exact this
end
section
theorem unpackItems_tupN {prog : Program} {w : World} {A : Around} {E : Value → Shared → Prop} {s : Shared} {t : Addr} {items : Array Value} {k n : Nat} {Q : List Value → Shared → Prop} (hh : A.handled = none) (e : s.heap.get? t = some { cls := .type "tuple", data := .seq items k }) (hn : items.size = n)
    (h : ∀ h', Heap.ExtBut s.heap.objs.size s.heap h' → Q items.toList { s with heap := h' }) : wpAny (model prog w) A (unpackItems (.ref t) n none) Q E s := by
  subst hn
  exact wpAny_unpackItems_tuple hh ⟨_, e, rfl, k, rfl⟩ h
theorem store_run {x : Cx} {A : Around} {env : Env} {n : Nat} {nm gn : List Str} (H : Fm n A env nm gn) {y : Str} {c : AV} {own : Own} {K : Own → Prop} (h : WSt env nm y c own K) : ∀ v s, Rel x own s → Rep x.bad s.heap c v →
    wpAny (model x.prog x.w) A (bindName env y v) (fun _ s' => ∃ own', Step x own s own' s' ∧ K own') (fun _ _ => False) s := fun v s R r => by
  obtain ⟨m, m', own3, u, w, k, q⟩ := h
  obtain ⟨i, hi, wi⟩ := w.idx
  obtain ⟨f, hf, rr, nd⟩ := R.has _ u.mem
  obtain ⟨l1, l2⟩ := H.loc y (List.mem_of_getElem? hi)
  refine wpAny_bindName (wpAny_storeName_local l1 hf (fun h' hn hs => ?_) (by rw [H.kind]; rfl))
  have tk : TupKeep x.bad s.heap h' := fun b vs n _ e => hs.extBut b _ (fun eb => by subst eb; exact (R.has _ u.mem).notTup e) e
  exact ⟨own3, Step.upd R u (fun b o hb e => hs.extBut b o hb e) ⟨_, hn, (rr.mono tk).set nd hi wi (Rep.mono tk _ _ r) k, nd⟩, q⟩
/-- three names at once: the stores come from the right -/
theorem S_asgT3 {x : Cx} {A : Around} {env : Env} {n : Nat} {nm gn : List Str} (H : Fm n A env nm gn) {own : Own} {Q : AFlow → Own → Prop} {y1 y2 y3 : Str} {elts : List Expr} {k : Nat} {tp pos : Pos} {e : Expr}
    (hs : swapsWithSole [.Tuple elts k tp] e pos.line env = pure false) (hw : swappedStores [.Tuple elts k tp] e env = pure (some [y1, y2, y3]))
    (h : WV x A (eval e env) own fun a own1 => ∃ a1 a2 a3, a = .tup [a1, a2, a3] ∧ WSt env nm y3 a3 own1 fun o => WSt env nm y2 a2 o fun o => WSt env nm y1 a1 o fun o => Q .next o) :
    WS x A (exec (.Assign [.Tuple elts k tp] e pos) env) own Q := fun s R => by
  refine Assign_Tuple_swapped (h.run (Step.refl R) fun v s1 own1 S1 k1 ⟨a, r1, a1, a2, a3, ea, hst⟩ => ?_) hs hw
  subst ea
  obtain ⟨t, vs, n', rfl, _, et, rs⟩ := rep_tup r1
  refine unpackItems_tupN H.hnd et (by have := rs.length; rw [← Array.length_toList, ← this]; rfl) fun h' hx => ?_
  have S : Step x own1 s1 own1 { s1 with heap := h', toks := s1.toks } := Step.grow S1.rel fun b o eb => hx b o (fun q => by subst q; rw [fresh_none] at eb; cases eb) eb
  have rs' := Reps.mono (S.tup S1.rel) _ _ rs
  obtain ⟨l⟩ := vs
  simp only [Reps] at rs'
  obtain ⟨v1, _, rfl, q1, v2, _, rfl, q2, v3, _, rfl, q3, rfl⟩ := rs'
  show wpAny _ _ (assignInOrder [bindName env y3, bindName env y2, bindName env y1] [v3, v2, v1]) _ _ { s1 with heap := h', toks := s1.toks }
  refine wpAny_bind (wpAny_holding (wpAny_mono (store_run H hst v3 _ S.rel q3) (fun _ s2 ⟨o2, S2, hst2⟩ => ?_) fun _ _ f => f))
  have m2 := S2.tup S.rel
  refine wpAny_bind (wpAny_holding (wpAny_mono (store_run H hst2 v2 _ S2.rel (Rep.mono m2 _ _ q2)) (fun _ s3 ⟨o3, S3, hst3⟩ => ?_) fun _ _ f => f))
  have m3 := S3.tup S2.rel
  refine wpAny_bind (wpAny_holding (wpAny_mono (store_run H hst3 v1 _ S3.rel (Rep.mono m3 _ _ (Rep.mono m2 _ _ q1))) (fun _ s4 ⟨o4, S4, q⟩ => ?_) fun _ _ f => f))
  exact wpAny_pure ⟨o4, S1.trans (S.trans (S2.trans (S3.trans S4))), .next, rfl, q⟩
theorem sw3 {env : Env} (hb : env.blockKind = .function) {y1 y2 y3 : Str} {p1 p2 p3 : Pos} (k1 : env.kindOf y1 = some .local) (k2 : env.kindOf y2 = some .local) (k3 : env.kindOf y3 = some .local) {k k' : Nat} {tp tp' : Pos} {f1 f2 f3 : Expr} {as1 as2 as3 : List Expr} {kw1 kw2 kw3 : List Keyword} {q1 q2 q3 : Pos} {vs : List Expr} (hv : vs = [.Call f1 as1 kw1 q1, .Call f2 as2 kw2 q2, .Call f3 as3 kw3 q3])
    (hl1 : (p2.line == p1.line) = true) (hl2 : (p3.line == p1.line) = true) (hd : [y1, y2, y3].eraseDups.length = 3) (hf : vs.all (foldedForSure 8) = false) (hc : vs.all (constantsAlone 8) = false) :
    swappedStores [.Tuple [.Name y1 p1, .Name y2 p2, .Name y3 p3] k tp] (.Tuple vs k' tp') env = pure (some [y1, y2, y3]) := by
  have hn : vs.length = 3 := by rw [hv]; rfl
  unfold swappedStores
  have e1 : (Expr.Name y1 p1).pos.line = p1.line := rfl
  have hbb : (env.blockKind != .function) = false := by rw [hb]; rfl
  have c1 : (env.kindOf y1 == some .local) = true := by rw [k1]; rfl
  have c2 : (env.kindOf y2 == some .local) = true := by rw [k2]; rfl
  have c3 : (env.kindOf y3 == some .local) = true := by rw [k3]; rfl
  simp only [List.length_cons, List.length_nil, hn, hbb, List.head?_cons, Option.map_some, Option.getD_some, e1, List.filterMap_cons, List.filterMap_nil, c1, c2, c3, hl1, hl2, beq_self_eq_true, Bool.and_self, if_true, hd, hf, hc]
  subst hv
  rfl
end
section
def hdK (b : Bool) : List Int := if b then [0, 0, 0, 0, 1, 0, 0, 0] else [0, 0, 0, 0, 0, 1]
def tiK (b : Bool) : AV := if b then .int 0 else .val .none
def bdK (ps : List Pr) : List Int := [0, (ps.length : Int), 0, 0, 0, 0, 0, 0] ++ rowOf ps
abbrev attrsK (b : Bool) (ti kt : AV) : List (Str × AV) := [("apple", .val (.bool b)), ("coverage", .int 1), ("tupleIndex", ti), ("kernTable", kt)]
theorem Fm.kind' {n : Nat} {A : Around} {env : Env} {nm gn : List Str} (H : Fm n A env nm gn) : env.blockKind = .function := by
  unfold Env.blockKind; rw [H.kind]; rfl
theorem kernTo_len (ps : List Pr) : (kernTo ps).length ≤ ps.length := by
  unfold kernTo
  suffices ∀ es : List (List Str × AV), (ps.foldl (fun es p => putK es [gname p.1, gname p.2.1] (.int p.2.2)) es).length ≤ es.length + ps.length by simpa using this []
  induction ps with
  | nil => intro es; simp
  | cons p r ih =>
    intro es
    have h1 := ih (putK es [gname p.1, gname p.2.1] (.int p.2.2))
    have h2 := putK_length es [gname p.1, gname p.2.1] (.int p.2.2)
    show (r.foldl _ (putK es _ _)).length ≤ _
    simp only [List.length_cons]; omega
theorem kdec_ok {x : Cx} (T : Top x.K x.h₀) {A : Around} {own : Own} {own' : Addr → Own} {Q : AV → Own → Prop} (hl : Lv 4 A) {b : Bool} {ps : List Pr} (O : PrOk ps) {a d f fd ol : Addr} {es : List (Str × AV)}
    (k1 : Kn x own (a, .inst 261 d)) (k4 : Kn x own (f, .inst 127 fd)) (k5 : Kn x own (fd, .attrs es)) (he : es.lookup ("glyphOrder" : Str) = some (.val (.ref ol)))
    (hno : es.lookup ("getGlyphOrder" : Str) = none) (k6 : Kn x own (ol, .list namesL))
    (u : ∀ D, Upd d (.attrs [("apple", .val (.bool b))]) (.attrs (attrsK b (tiK b) (.val (.ref D)))) own (own' D))
    (q : ∀ D, Q (.val .none) ((D, .dictTS (kernTo ps)) :: own' D)) : WO x A (callv (.ref 251)) [.val (.ref a), .byt (hdK b ++ bdK ps), .val (.ref f)] own Q := by
  refine WO.turn (0 : Addr) u fun r hr => ?_
  have k1 := k1.sel hr (by simp)
  have k4 := k4.sel hr (by simp)
  have k5 := k5.sel hr (by intro h; have h2 := (Prod.mk.inj h).2; injection h2 with h3; rw [h3] at he; cases he)
  have k6 := k6.sel hr (by simp)
  refine enterC ["self", "data", "ttFont", "version", "length", "subtableFormat", "coverage", "tupleIndex", "kernTable", "nPairs", "searchRange", "entrySelector", "rangeShift", "datas", "it", "glyphOrder", "k", "left", "right", "value"] ["unpack", "TTLibError", "range", "len", "iter", "next", "IndexError"] ["rest"] [.val (.ref a), .byt (hdK b ++ bdK ps), .val (.ref f), .any, .any, .any, .any, .any, .any, .any, .any, .any, .any, .any, .any, .any, .any, .any, .any, .any] [.any] T.f_kdec hl rfl (by with_unfolding_all rfl) (by with_unfolding_all rfl) (by decide +kernel) (by decide +kernel) (by decide +kernel) (by decide +kernel) (by decide +kernel) (by decide +kernel) (by decide +kernel) fun env A' cs2 H ec hcl hce hck => ?_
  obtain ⟨cR, rfl⟩ : ∃ c1, cs2 = [c1] := by
    match cs2, hcl with
    | [c], _ => exact ⟨c, rfl⟩
  show WS x A' _ ((env.locals, .ns ["self", "data", "ttFont", "version", "length", "subtableFormat", "coverage", "tupleIndex", "kernTable", "nPairs", "searchRange", "entrySelector", "rangeShift", "datas", "it", "glyphOrder", "k", "left", "right", "value"] [.val (.ref a), .byt (hdK b ++ bdK ps), .val (.ref f), .any, .any, .any, .any, .any, .any, .any, .any, .any, .any, .any, .any, .any, .any, .any, .any, .any]) :: (cR, .cell .any) :: (d, .attrs [("apple", .val (.bool b))]) :: r) _
  have hh := H.hnd
  have kR := hck "rest" (.head _)
  have cRl : env.cells.lookup ("rest" : Str) = some cR := by rw [hce]; rfl
  have g1 := T.g_unpack
  have g2 := T.b_range
  have g3 := T.b_len
  have g4 := T.b_iter
  have g5 := T.b_next
  have cc := T.c_kern
  have cf := T.c_font
  have mo := T.m_order
  have o1 := T.o_kern "apple" (by tb_rel)
  have o2 := T.o_kern "coverage" (by tb_rel)
  have o3 := T.o_kern "tupleIndex" (by tb_rel)
  have o4 := T.o_kern "kernTable" (by tb_rel)
  have hlen := O.len
  have hrl := rowOf_len ps
  have hbl : (bdK ps).length = 8 + 6 * ps.length := by unfold bdK; rw [List.length_append, hrl]; rfl
  refine SS_cons ?_
  refine WS.join (fun o => ∃ (w3 w4 : AV), o = (env.locals, .ns ["self", "data", "ttFont", "version", "length", "subtableFormat", "coverage", "tupleIndex", "kernTable", "nPairs", "searchRange", "entrySelector", "rangeShift", "datas", "it", "glyphOrder", "k", "left", "right", "value"] [.val (.ref a), .byt (bdK ps), .val (.ref f), w3, w4, .int 0, .int 1, tiK b, .any, .any, .any, .any, .any, .any, .any, .any, .any, .any, .any, .any]) :: (cR, .cell .any) :: (d, .attrs [("apple", .val (.bool b))]) :: r) ?_ ?_
  · cases b
    · repeat' tb_start
      refine ⟨_, rfl, ?_⟩
      repeat' tb_start
      · rw [List.length_append, hbl]; show ((6 + _ : Nat) : Int) < _; omega
      rw [pickN _ (by omega)]
      repeat' tb_start
      refine C_unHHBB ?_
      repeat' tb_start
      · rename_i h; exact absurd rfl h
      refine ⟨_, rfl, ?_⟩
      repeat' tb_start
      · rw [List.length_append, hbl]; show ((6 + _ : Nat) : Int) < _; omega
      rw [pickF _ (by omega)]
      exact ⟨_, _, rfl⟩
    · repeat' tb_start
      refine ⟨_, rfl, ?_⟩
      repeat' tb_start
      · rw [List.length_append, hbl]; show ((8 + _ : Nat) : Int) < _; omega
      rw [pickN _ (by omega)]
      repeat' tb_start
      refine C_unLBBH ?_
      repeat' tb_start
      refine ⟨_, rfl, ?_⟩
      repeat' tb_start
      · rw [List.length_append, hbl]; show ((8 + _ : Nat) : Int) < _; omega
      rw [pickF _ (by omega)]
      exact ⟨_, _, rfl⟩
  · rintro _ ⟨w3, w4, rfl⟩
    refine Nx.nx ?_
    refine SS_cons ?_
    repeat' tb_start
    obtain ⟨tt, hfm⟩ := T.o_kfmt
    refine W_clsi cc hfm (by tb_rel) (by tb_rel) rfl ?_
    repeat' tb_start
    rotate_left
    · rename_i h; exact absurd rfl h
    refine N_loc H (by tb_rel) (by tb_rel) (by cases b <;> trivial) ?_
    repeat' tb_start
    refine S_asg2 ?_
    refine H_new (dhS _) fun D => ?_
    repeat' tb_start
    refine ⟨_, rfl, ?_⟩
    repeat' tb_start
    · omega
    rw [pickN _ (by omega)]
    repeat' tb_start
    refine C_unHHHH ?_
    repeat' tb_start
    refine ⟨_, rfl, ?_⟩
    repeat' tb_start
    · omega
    · omega
    refine ⟨_, rfl, ?_⟩
    rw [pickF _ (by omega), show (bdK ps).drop (8 : Int).toNat = rowOf ps from rfl]
    repeat' tb_start
    · omega
    rw [pickN _ (by omega), show (6 * (0 * 256 + (ps.length : Int))).toNat = (rowOf ps).length by omega, List.take_length]
    repeat' tb_start
    have hBi := rowOf_in O
    have hBw := words_row ps
    generalize hBB : rowOf ps = BB at hBi hBw hrl
    refine S_lmap H [("rest", cR)] [] (closure1 (by rfl) cRl) (by rfl) (by decide +kernel) (by decide +kernel) (by decide +kernel) (by decide +kernel) (by simp) (swaps_true H (by tb_rel) rfl rfl) ?_
    repeat' tb_start
    all_goals (try omega)
    refine ⟨_, _, _, id, onInt fun k => .int (BB.getD k.toNat 0 * 256 + BB.getD (k + 1).toNat 0), Itb.range2 hh (.inl (.head _)) (by omega), by rw [List.length_map, List.length_range]; omega, fun b hb => ?_, fun DT => ?_⟩
    · obtain ⟨i, hi, rfl⟩ := List.mem_map.mp hb
      have hi := List.mem_range.mp hi
      refine ⟨trivial, fun cenv hc hf => ?_⟩
      have kR' := hc.cell H.kind (by decide +kernel) kR
      have cR' : cenv.cells.lookup ("rest" : Str) = some cR := by rw [hc.cells]; rfl
      have hb1 := hBi (2 * (i : Int)).toNat
      have hb2 := hBi (2 * (i : Int) + 1).toNat
      repeat' tb_start
      all_goals (try omega)
      rw [or_byte hb1.1 hb2.1 hb2.2]
      exact ⟨rfl, _, by tb_rel⟩
    rw [map_onInt, show (((BB.length : Int) + 1) / 2).toNat = BB.length / 2 by omega]
    have e : ((List.range (BB.length / 2)).map fun i : Nat => AV.int (BB.getD (2 * (i : Int)).toNat 0 * 256 + BB.getD (2 * (i : Int) + 1).toNat 0)) = (wrdsK ps).map .int := by
      rw [← hBw, ← wordsOf_eq, List.map_map]
      apply List.map_congr_left
      intro i _
      show AV.int _ = AV.int _
      rw [show (2 * (i : Int)).toNat = 2 * i by omega, show (2 * (i : Int) + 1).toNat = 2 * i + 1 by omega]
    rw [e]
    dsimp only [id_eq]
    repeat' tb_start
    refine C_iter (xs := (wrdsK ps).map .int) (by tb_rel) fun IT => ?_
    repeat' tb_start
    refine M_at (by tb_rel) (by tb_rel) (by assumption) (by assumption) (Top.k_calls (by assumption) _ (by tb_rel)) hno ?_
    repeat' tb_start
    refine order_ok T (H.lv.le (by omega)) (by tb_rel) (by tb_rel) he ?_
    repeat' tb_start
    all_goals (try (rw [List.length_map]; omega))
    refine N_forR H ?_
    repeat' tb_start
    rename_i XR R
    refine ⟨R, 0, 0 * 256 + (ps.length : Int), fun i o => ∃ (u1 u2 u3 u4 : AV), o = (R, .rng 0 (0 * 256 + (ps.length : Int)) 1) :: (IT, .iter DT (3 * i)) :: (DT, .list ((wrdsK ps).map .int)) :: (XR, .rng 0 (BB.length : Int) 2) :: (D, .dictTS (kernTo (ps.take i))) :: (env.locals, .ns ["self", "data", "ttFont", "version", "length", "subtableFormat", "coverage", "tupleIndex", "kernTable", "nPairs", "searchRange", "entrySelector", "rangeShift", "datas", "it", "glyphOrder", "k", "left", "right", "value"] [.val (.ref a), .byt BB, .val (.ref f), w3, w4, .int 0, .int 1, tiK b, .val (.ref D), .int (0 * 256 + (ps.length : Int)), .int (0 * 256 + 0), .int (0 * 256 + 0), .int (0 * 256 + 0), .val (.ref DT), .val (.ref IT), .val (.ref ol), u1, u2, u3, u4]) :: (cR, .cell (.byt BB)) :: (d, .attrs (attrsK b (tiK b) (.val (.ref D)))) :: r, rfl, .inl (.head _), by omega, ⟨_, _, _, _, rfl⟩, ?_, ?_⟩
    · rintro i _ hi ⟨u1, u2, u3, u4, rfl⟩
      have hi : i < ps.length := by omega
      obtain ⟨p, hp⟩ : ∃ p, ps[i]? = some p := ⟨_, List.getElem?_eq_getElem hi⟩
      obtain ⟨e1, e2, e3⟩ := wrdsK_get hp
      have hpp := O.each p (List.mem_of_getElem? hp)
      have ek : putK (kernTo (ps.take i)) [gname p.1, gname p.2.1] (.int p.2.2) = kernTo (ps.take (i + 1)) := by rw [List.take_add_one, hp]; exact (kernTo_snoc _ p).symm
      have hkl := kernTo_len (ps.take i)
      rw [List.length_take] at hkl
      repeat' tb_start
      refine S_asgT3 H (y1 := "left") (y2 := "right") (y3 := "value") (by with_unfolding_all rfl) (sw3 H.kind' (H.loc "left" (by tb_rel)).1 (H.loc "right" (by tb_rel)).1 (H.loc "value" (by tb_rel)).1 rfl rfl (by decide +kernel) rfl (by rfl) (by rfl)) ?_
      repeat' tb_start
      refine C_next (xs := (wrdsK ps).map .int) (a := .int p.1) (by tb_rel) (by rw [List.getElem?_map, e1]; rfl) (by tb_rel) ?_
      repeat' tb_start
      refine C_next (xs := (wrdsK ps).map .int) (a := .int p.2.1) (by tb_rel) (by rw [List.getElem?_map, e2]; rfl) (by tb_rel) ?_
      repeat' tb_start
      refine C_next (xs := (wrdsK ps).map .int) (a := .int (p.2.2 % 65536)) (by tb_rel) (by rw [List.getElem?_map, e3]; rfl) (by tb_rel) ?_
      repeat' tb_start
      refine ⟨_, _, _, rfl, ?_⟩
      repeat' tb_start
      · rename_i h9
        rw [show p.2.2 % 65536 - 65536 = p.2.2 by omega]
        refine S_try ?_
        repeat' tb_start
        refine G_lit (by tb_rel) (by omega) (by omega) (namesL_get (by omega) (by omega)) ?_
        repeat' tb_start
        refine G_lit (by tb_rel) (by omega) (by omega) (namesL_get (by omega) (by omega)) ?_
        repeat' tb_start
        refine H_set (dhS _) (es := kernTo (ps.take i)) (k := [gname p.1, gname p.2.1]) (a := .int p.2.2) H.lv (by omega) (by rw [ek]; show Upd _ (.dictTS _) (.dictTS _) _ _; tb_rel) ?_
        repeat' tb_start
        exact ⟨_, _, _, _, rfl⟩
      · rename_i h9
        rw [show p.2.2 % 65536 = p.2.2 by omega]
        refine S_try ?_
        repeat' tb_start
        refine G_lit (by tb_rel) (by omega) (by omega) (namesL_get (by omega) (by omega)) ?_
        repeat' tb_start
        refine G_lit (by tb_rel) (by omega) (by omega) (namesL_get (by omega) (by omega)) ?_
        repeat' tb_start
        refine H_set (dhS _) (es := kernTo (ps.take i)) (k := [gname p.1, gname p.2.1]) (a := .int p.2.2) H.lv (by omega) (by rw [ek]; show Upd _ (.dictTS _) (.dictTS _) _ _; tb_rel) ?_
        repeat' tb_start
        exact ⟨_, _, _, _, rfl⟩
    · rintro _ ⟨u1, u2, u3, u4, rfl⟩
      rw [show (0 * 256 + (ps.length : Int) - 0).toNat = ps.length by omega, List.take_length]
      repeat' tb_start
      exact RetQ.no (o := (D, .dictTS (kernTo ps)) :: (d, .attrs (attrsK b (tiK b) (.val (.ref D)))) :: r) ⟨[(D, .dictTS (kernTo ps))], D, List.Sublist.refl _, q D⟩ (by tb_rel)
end
section
/-- entering a function, by its code -/
theorem enterD {x : Cx} {A : Around} {own : Own} {n : Nat} (nm gn : List Str) (m0 : List AV) {Q : AV → Own → Prop} {a : Addr} {st : Stmt} {ps : List Str} {as : List AV} {dv : List Value}
    (F : FnT x.K a st ps dv) (hl : Lv (n + 1) A) (hlen : as.length + dv.length = ps.length) (hm : nm.map (initAV ps (as ++ dv.map .val)) = m0)
    (h1 : ∀ y ∈ nm, (scopeOf st).names.lookup y = some .local ∧ (y == ("__debug__" : Str)) = false) (h2 : nm.Nodup)
    (h3 : ∀ y ∈ gn, (scopeOf st).names.lookup y = some .globalImplicit ∧ (y == ("__debug__" : Str)) = false)
    (h4 : ∀ y ∈ ps, (scopeOf st).names.lookup y = some .local) (h5 : cellNames (scopeOf st) = [])
    (h : ∀ env A', Fm n A' env nm gn → WS x A' (execs (bodyOf st) env) ((env.locals, .ns nm m0) :: own) (RetQ Q)) : WCd x A a as own Q := by
  obtain ⟨fd, F, hs, hcode⟩ := F
  refine C_fn (nm := nm) (gn := gn) F hl hlen (hs ▸ h1) h2 (hs ▸ h3) (fun y hy => .inl (hs ▸ h4 y hy)) (by rw [hs, h5]; simp) (by rw [hs, h5]; simp) fun env es ec H cs hcl hce => ?_
  rw [hs, h5] at hcl ⊢
  obtain rfl : cs = [] := by simpa using hcl
  rw [hm]
  exact h env _ H
theorem font_make {x : Cx} (T : Top x.K x.h₀) {A : Around} {own : Own} {Q : AV → Own → Prop} (hl : Lv 2 A) {l : Addr}
    (q : ∀ a d, Q (.val (.ref a)) ((a, .inst 127 d) :: (d, .attrs (attrsF l (.val .none))) :: own)) : WO x A (callv (.ref 127)) [.val (.ref l)] own Q := by
  refine C_make hl T.c_font T.m_init fun a d A1 hne hl1 => ?_
  refine enterD ["self", "glyphOrder"] [] [.val (.ref a), .val (.ref l)] T.f_init hl1 rfl (by with_unfolding_all rfl) (by decide +kernel) (by decide +kernel) (by decide +kernel) (by decide +kernel) (by decide +kernel) fun env A' H => ?_
  have hh := H.hnd
  have c := T.c_font
  have o1 := T.o_font "glyphOrder" (by simp)
  have o2 := T.o_font "_reverseGlyphOrderDict" (by simp)
  refine SS_cons ?_
  repeat' tb_start
  refine RetQ.no (o := (a, .inst 127 d) :: (d, .attrs [("glyphOrder", .val (.ref l)), ("_reverseGlyphOrderDict", .val .none)]) :: own) ?_ (by tb_rel)
  exact ⟨rfl, q a d⟩
theorem cmap_make {x : Cx} (T : Top x.K x.h₀) {A : Around} {own : Own} {Q : AV → Own → Prop} (hl : Lv 2 A) {f : Int}
    (q : ∀ a d, Q (.val (.ref a)) ((a, .inst 222 d) :: (d, .attrs (attrsC (.int f) (.val .none) (.val .none) (.val .none) (.val .none) (.val .none))) :: own)) : WO x A (callv (.ref 222)) [.int f] own Q := by
  refine C_make hl T.c_cmap T.m_cinit fun a d A1 hne hl1 => ?_
  refine enterD ["self", "format"] [] [.val (.ref a), .int f] T.f_cinit hl1 rfl (by with_unfolding_all rfl) (by decide +kernel) (by decide +kernel) (by decide +kernel) (by decide +kernel) (by decide +kernel) fun env A' H => ?_
  have hh := H.hnd
  have c := T.c_cmap
  have o1 := T.o_cmap "formatID" (by tb_rel)
  have o2 := T.o_cmap "data" (by tb_rel)
  have o3 := T.o_cmap "ttFont" (by tb_rel)
  have o4 := T.o_cmap "platformID" (by tb_rel)
  have o5 := T.o_cmap "platEncID" (by tb_rel)
  have o6 := T.o_cmap "language" (by tb_rel)
  refine SS_cons ?_
  repeat' tb_start
  refine RetQ.no (o := (a, .inst 222 d) :: (d, .attrs (attrsC (.int f) (.val .none) (.val .none) (.val .none) (.val .none) (.val .none))) :: own) ?_ (by tb_rel)
  exact ⟨rfl, q a d⟩
theorem kern_make {x : Cx} (T : Top x.K x.h₀) {A : Around} {own : Own} {Q : AV → Own → Prop} (hl : Lv 2 A) {b : Bool}
    (q : ∀ a d, Q (.val (.ref a)) ((a, .inst 261 d) :: (d, .attrs [("apple", .val (.bool b))]) :: own)) : WO x A (callv (.ref 261)) [.val (.bool b)] own Q := by
  refine C_make hl T.c_kern T.m_kinit fun a d A1 hne hl1 => ?_
  refine enterD ["self", "apple"] [] [.val (.ref a), .val (.bool b)] T.f_kinit hl1 rfl (by with_unfolding_all rfl) (by decide +kernel) (by decide +kernel) (by decide +kernel) (by decide +kernel) (by decide +kernel) fun env A' H => ?_
  have hh := H.hnd
  have c := T.c_kern
  have o1 := T.o_kern "apple" (by tb_rel)
  refine SS_cons ?_
  repeat' tb_start
  refine RetQ.no (o := (a, .inst 261 d) :: (d, .attrs [("apple", .val (.bool b))]) :: own) ?_ (by tb_rel)
  exact ⟨rfl, q a d⟩
end
section
theorem Kn.frz {x : Cx} {own : Own} {p q : Addr × AObj} (k : Kn x own p) : Kn (wr x (q :: x.ro)) own p := k.imp id (List.mem_cons_of_mem _)
theorem WO.perm {x : Cx} {A : Around} {own own' : Own} {t : List Value → Sem Value} {args : List AV} {Q : AV → Own → Prop} (h : WO x A t args own' Q) (p : own.Perm own') : WO x A t args own Q := fun vs s R r => by
  refine wpAny_mono (h vs s (R.perm p) r) (fun v s' ⟨o, S, av, ra, q⟩ => ⟨o, S.perm p.symm, av, ra, q⟩) fun _ _ f => f
theorem Upd.app {a : Addr} {o o' : AObj} {l l' : Own} (u : Upd a o o' l l') : ∀ pre : Own, Upd a o o' (pre ++ l) (pre ++ l')
  | [] => u
  | _ :: r => .s (Upd.app u r)
/-- the font gives its reverse map -/
def RevOk (x : Cx) (f : Addr) (r : Own) (r' : Addr → Own) : Prop := ∀ (ro2 pre : Own) (A : Around) (Q : AV → Own → Prop), Lv 3 A → (∀ D, Q (.val (.ref D)) ((D, .dictS revL) :: (pre ++ r' D))) → WO (wr x ro2) A (callv (.ref 117)) [.val (.ref f)] (pre ++ r) Q
theorem RevOk.pre {x : Cx} {f : Addr} {r : Own} {r' : Addr → Own} (h : RevOk x f r r') (q : Own) : RevOk x f (q ++ r) (fun D => q ++ r' D) := fun ro2 pre A Q hl k => by
  rw [← List.append_assoc]
  exact h ro2 (pre ++ q) A Q hl fun D => by rw [List.append_assoc]; exact k D
theorem RevOk.wr {x : Cx} {f : Addr} {r : Own} {r' : Addr → Own} (h : RevOk x f r r') (ro : Own) : RevOk (wr x ro) f r r' := fun ro2 pre A Q hl k => h ro2 pre A Q hl k
theorem RevOk.first {x : Cx} (T : Top x.K x.h₀) {f fd ol : Addr} {r : Own} (k1 : (f, .inst 127 fd) ∈ r) (k3 : (ol, .list namesL) ∈ r) :
    RevOk x f ((fd, .attrs (attrsF ol (.val .none))) :: r) (fun D => (fd, .attrs (attrsF ol (.val (.ref D)))) :: r) := fun ro2 pre A Q hl k =>
  rev_ok (x := Mine.wr x ro2) T hl (d := fd) (l := ol) (.inl (List.mem_append_right _ (.tail _ k1))) (.inl (List.mem_append_right _ (.tail _ k3))) (fun D => Upd.app .z pre) k
theorem RevOk.again {x : Cx} (T : Top x.K x.h₀) {f fd ol D : Addr} {r : Own} (k1 : (f, .inst 127 fd) ∈ r) :
    RevOk x f ((fd, .attrs (attrsF ol (.val (.ref D)))) :: (D, .dictS revL) :: r) (fun _ => (fd, .attrs (attrsF ol (.val (.ref D)))) :: r) := fun ro2 pre A Q hl k => by
  refine WO.perm (own' := (D, .dictS revL) :: (pre ++ (fd, .attrs (attrsF ol (.val (.ref D)))) :: r)) ?_ ?_
  · exact rev2_ok (x := Mine.wr x ro2) T hl (d := fd) (l := ol) (D := D) (.inl (.tail _ (List.mem_append_right _ (.tail _ k1)))) (.inl (.tail _ (List.mem_append_right _ (.head _)))) (k D)
  · exact (List.Perm.append_left pre (List.Perm.swap ..)).trans List.perm_middle
end
section
theorem WP.dropp {x : Cx} {A : Around} {own : Own} {α : Type} {t : Sem α} {P P' : α → Shared → Own → Prop} (h : WP x A t own P) (k : ∀ a s o, P a s o → ∃ o1 o2 : Own, o.Perm o1 ∧ List.Sublist o2 o1 ∧ P' a s o2) : WP x A t own P' := fun s R =>
  wpAny_mono (h s R) (fun a s' ⟨o, S, p⟩ => let ⟨_, o2, h1, h2, h3⟩ := k a s' o p; ⟨o2, (S.perm' h1).forget h2, h3⟩) fun _ _ f => f
/-- a turn's leavings dropped, the rest put in order -/
def Gp (J : Own → Prop) : Own → Prop := fun o => ∃ o1 o2 : Own, o.Perm o1 ∧ List.Sublist o2 o1 ∧ J o2
theorem Gp.mk {J : Own → Prop} {o o2 : Own} (s : List.Sublist o2 o) (j : J o2) : Gp J o := ⟨o, o2, .refl _, s, j⟩
theorem Gp.mk1 {J : Own → Prop} {o o1 o2 : Own} {p : Addr × AObj} (h : Sel p o o1) (s : List.Sublist o2 (p :: o1)) (j : J o2) : Gp J o := ⟨p :: o1, o2, h.perm, s, j⟩
theorem WS.gp {x : Cx} {A : Around} {own : Own} {t : Sem Flow} {J : Own → Prop} {Q : AFlow → Own → Prop} (h : WS x A t own (LpPost (Gp J) Q)) : WS x A t own (LpPost J Q) := by
  refine WP.dropp h fun f s o ⟨af, rf, q⟩ => ?_
  cases af with
  | next => obtain ⟨o1, o2, h1, h2, h3⟩ := q; exact ⟨o1, o2, h1, h2, .next, rf, h3⟩
  | cont => obtain ⟨o1, o2, h1, h2, h3⟩ := q; exact ⟨o1, o2, h1, h2, .cont, rf, h3⟩
  | brk => exact ⟨o, o, .refl _, List.Sublist.refl _, .brk, rf, q⟩
  | ret v => exact ⟨o, o, .refl _, List.Sublist.refl _, .ret v, rf, q⟩
theorem N_forRp {x : Cx} {A : Around} {own : Own} {env : Env} {n : Nat} {nm gn : List Str} (H : Fm n A env nm gn) {target iter : Expr} {body : List Stmt} {p : Pos} {Q : AFlow → Own → Prop}
    (h : WV x A (eval iter env) own fun a own1 => ∃ r lo hi, ∃ J : Nat → Own → Prop, a = .val (.ref r) ∧ Kn x own1 (r, .rng lo hi 1) ∧ (-1000000000 ≤ lo ∧ lo ≤ 1000000000 ∧ -1000000000 ≤ hi ∧ hi ≤ 1000000000) ∧ J 0 own1 ∧
      (∀ i own3, i < (hi - lo).toNat → J i own3 → WA x A env target (.int (lo + (i : Nat))) own3 fun own4 => WS x A (execs body env) own4 (LpPost (Gp (J (i + 1))) Q)) ∧
      (∀ own3, J (hi - lo).toNat own3 → Q .next own3))
    (hs : ∀ v, foldedSetIterable iter env v = pure v := by intro _; with_unfolding_all rfl) :
    WS x A (exec (.For target iter body [] p) env) own Q :=
  N_forR H (WV.mono h fun a own1 ⟨r, lo, hi, J, e, kn, hb, j0, turn, done⟩ => ⟨r, lo, hi, J, e, kn, hb, j0, fun i own3 hi j => WA.mono (turn i own3 hi j) fun _ => WS.gp, done⟩) hs
theorem WS.pull {x : Cx} {A : Around} {own own2 : Own} {t : Sem Flow} {Q : AFlow → Own → Prop} {p : Addr × AObj} (h : Sel p own own2) (k : WS x A t (p :: own2) Q) : WS x A t own Q := WP.perm k h.perm
theorem WO.pull {x : Cx} {A : Around} {own own2 : Own} {t : List Value → Sem Value} {args : List AV} {Q : AV → Own → Prop} {p : Addr × AObj} (h : Sel p own own2) (k : WO x A t args (p :: own2) Q) : WO x A t args own Q := WO.perm k h.perm
end
section
/-- the pairs, each key once -/
def keyIs (p e : Pr) : Bool := decide (e.1 = p.1) && decide (e.2.1 = p.2.1)
theorem keyIs_iff {p e : Pr} : keyIs p e = true ↔ e.1 = p.1 ∧ e.2.1 = p.2.1 := by unfold keyIs; simp
def putP (es : List Pr) (p : Pr) : List Pr := if es.any (keyIs p) then es.map (fun e => if keyIs p e then p else e) else es ++ [p]
def dps (ps : List Pr) : List Pr := ps.foldl putP []
theorem dps_snoc (ps : List Pr) (p : Pr) : dps (ps ++ [p]) = putP (dps ps) p := by unfold dps; rw [List.foldl_append]; rfl
theorem putP_map {K : Type} [DecidableEq K] (g : Int → K) {es : List Pr} {p : Pr} (hg : ∀ e ∈ es, (g e.1 = g p.1 → e.1 = p.1) ∧ (g e.2.1 = g p.2.1 → e.2.1 = p.2.1)) :
    putK (es.map fun e => ([g e.1, g e.2.1], AV.int e.2.2)) [g p.1, g p.2.1] (.int p.2.2) = (putP es p).map fun e => ([g e.1, g e.2.1], AV.int e.2.2) := by
  have hk : ∀ e ∈ es, ([g e.1, g e.2.1] = [g p.1, g p.2.1]) ↔ keyIs p e = true := fun e he => by
    rw [keyIs_iff]
    simp only [List.cons.injEq, and_true]
    exact ⟨fun h => ⟨(hg e he).1 h.1, (hg e he).2 h.2⟩, fun h => ⟨by rw [h.1], by rw [h.2]⟩⟩
  unfold putK putP
  have e1 : (es.map fun e => ([g e.1, g e.2.1], AV.int e.2.2)).any (fun e => decide (e.1 = [g p.1, g p.2.1])) = es.any (keyIs p) := by
    rw [List.any_map, Bool.eq_iff_iff, List.any_eq_true, List.any_eq_true]
    constructor
    · rintro ⟨e, he, h⟩
      exact ⟨e, he, (hk e he).mp (by simpa using h)⟩
    · rintro ⟨e, he, h⟩
      exact ⟨e, he, by simpa using (hk e he).mpr h⟩
  rw [e1]
  split
  · rw [List.map_map, List.map_map]
    refine List.map_congr_left fun e he => ?_
    show (if [g e.1, g e.2.1] = [g p.1, g p.2.1] then _ else _) = _
    by_cases h : keyIs p e = true
    · rw [if_pos ((hk e he).mpr h)]
      show _ = (fun e : Pr => ([g e.1, g e.2.1], AV.int e.2.2)) (if keyIs p e then p else e)
      rw [if_pos h]
      show ([g e.1, g e.2.1], _) = _
      rw [(hk e he).mpr h]
    · rw [if_neg fun h2 => h ((hk e he).mp h2)]
      show _ = (fun e : Pr => ([g e.1, g e.2.1], AV.int e.2.2)) (if keyIs p e then p else e)
      rw [if_neg h]
  · rw [List.map_append]; rfl
theorem putP_mem {es : List Pr} {p e : Pr} (h : e ∈ putP es p) : e ∈ es ∨ e = p := by
  unfold putP at h
  split at h
  · obtain ⟨a, ha, e1⟩ := List.mem_map.mp h
    split at e1
    · exact .inr e1.symm
    · exact .inl (e1 ▸ ha)
  · simpa using h
theorem putP_len (es : List Pr) (p : Pr) : (putP es p).length ≤ es.length + 1 := by
  unfold putP
  split
  · simp
  · simp
theorem putP_keys {es : List Pr} {p : Pr} (h : (es.map fun e => (e.1, e.2.1)).Nodup) : ((putP es p).map fun e => (e.1, e.2.1)).Nodup := by
  unfold putP
  split
  · rw [List.map_map]
    have : es.map ((fun e => (e.1, e.2.1)) ∘ fun e => if keyIs p e then p else e) = es.map fun e => (e.1, e.2.1) := by
      refine List.map_congr_left fun e he => ?_
      show (fun e : Pr => (e.1, e.2.1)) (if keyIs p e then p else e) = _
      split
      · rename_i hk
        have := keyIs_iff.mp hk
        show (p.1, p.2.1) = (e.1, e.2.1)
        rw [this.1, this.2]
      · rfl
    rw [this]; exact h
  · rename_i hn
    rw [List.map_append, List.nodup_append]
    refine ⟨h, by simp, fun a ha b hb e => hn ?_⟩
    obtain ⟨q, hq, rfl⟩ := List.mem_map.mp ha
    simp only [List.map_cons, List.map_nil, List.mem_singleton] at hb
    subst e
    rw [List.any_eq_true]
    exact ⟨q, hq, keyIs_iff.mpr ⟨(Prod.mk.inj hb).1, (Prod.mk.inj hb).2⟩⟩
structure DpOk (ds : List Pr) : Prop where
  each : ∀ p ∈ ds, (0 ≤ p.1 ∧ p.1 < 8) ∧ (0 ≤ p.2.1 ∧ p.2.1 < 8) ∧ -200 ≤ p.2.2 ∧ p.2.2 ≤ 200
  keys : (ds.map fun e => (e.1, e.2.1)).Nodup
theorem dps_len : ∀ (ps es : List Pr), (ps.foldl putP es).length ≤ es.length + ps.length
  | [], es => by simp
  | p :: r, es => by
    have h1 := dps_len r (putP es p)
    have h2 := putP_len es p
    show (r.foldl putP (putP es p)).length ≤ _
    simp only [List.length_cons]; omega
theorem gname_eq {a b : Int} (ha : 0 ≤ a ∧ a < 8) (hb : 0 ≤ b ∧ b < 8) (h : gname a = gname b) : a = b := by
  have := gname_inj a.toNat b.toNat (by omega) (by omega)
  rw [show ((a.toNat : Nat) : Int) = a by omega, show ((b.toNat : Nat) : Int) = b by omega] at this
  by_cases e : a.toNat = b.toNat
  · omega
  · exact absurd h (this e)
abbrev enS (e : Pr) : List Str × AV := ([gname e.1, gname e.2.1], AV.int e.2.2)
abbrev enI (e : Pr) : List Int × AV := ([e.1, e.2.1], AV.int e.2.2)
theorem dps_go : ∀ (ps es : List Pr), (∀ p ∈ ps, (0 ≤ p.1 ∧ p.1 < 8) ∧ (0 ≤ p.2.1 ∧ p.2.1 < 8) ∧ -200 ≤ p.2.2 ∧ p.2.2 ≤ 200) → DpOk es →
    DpOk (ps.foldl putP es) ∧ ps.foldl (fun es p => putK es [gname p.1, gname p.2.1] (.int p.2.2)) (es.map enS) = (ps.foldl putP es).map enS ∧
      ps.foldl (fun es p => putK es [p.1, p.2.1] (.int p.2.2)) (es.map enI) = (ps.foldl putP es).map enI
  | [], es, _, D => ⟨D, rfl, rfl⟩
  | p :: r, es, hp, D => by
    have hp1 := hp p (.head _)
    have e1 := putP_map gname (es := es) (p := p) fun e he => by
      have := D.each e he
      exact ⟨gname_eq this.1 hp1.1, gname_eq this.2.1 hp1.2.1⟩
    have e2 := putP_map (fun i : Int => i) (es := es) (p := p) fun e he => ⟨id, id⟩
    have D2 : DpOk (putP es p) := ⟨fun e he => by
      rcases putP_mem he with h | h
      · exact D.each e h
      · rw [h]; exact hp1, putP_keys D.keys⟩
    have := dps_go r (putP es p) (fun q hq => hp q (.tail _ hq)) D2
    show DpOk (r.foldl putP (putP es p)) ∧ r.foldl _ (putK (es.map enS) _ _) = _ ∧ r.foldl _ (putK (es.map enI) _ _) = _
    rw [e1, e2]
    exact this
theorem dps_ok {ps : List Pr} (O : PrOk ps) : DpOk (dps ps) ∧ kernTo ps = (dps ps).map enS ∧ pairsTo ps = (dps ps).map enI ∧ (dps ps).length < 13 := by
  obtain ⟨h1, h2, h3⟩ := dps_go ps [] O.each ⟨fun p hp => (nomatch hp), .nil⟩
  exact ⟨h1, h2, h3, by have := dps_len ps []; have := O.len; unfold dps; simp only [List.length_nil] at *; omega⟩
/-- the sorted pairs -/
def srt (ps : List Pr) : List Pr := sort3 (dps ps)
def pk (p : Pr) : Int := p.1 * 65536 + p.2.1
structure SrOk (ds ts : List Pr) : Prop where
  perm : ts.Perm ds
  ok : DpOk ds
  asc : ts.Pairwise fun a b => pk a < pk b
theorem srt_ok {ps : List Pr} (O : PrOk ps) : SrOk (dps ps) (srt ps) := by
  obtain ⟨D, _, _, hl⟩ := dps_ok O
  have hp := sort3_perm (dps ps)
  refine ⟨hp, D, ?_⟩
  have h1 := sort3_pair (dps ps)
  have h2 : ((sort3 (dps ps)).map fun e => (e.1, e.2.1)).Nodup := (hp.map _).nodup_iff.mpr D.keys
  rw [List.Nodup, List.pairwise_map] at h2
  have h3 := h1.and h2
  refine List.Pairwise.imp_of_mem ?_ h3
  intro a b ha hb hab
  have ha := D.each a (hp.mem_iff.mp ha)
  have hb := D.each b (hp.mem_iff.mp hb)
  obtain ⟨c1, c2⟩ := hab
  unfold code3 at c1
  have c2 : ¬ (a.1 = b.1 ∧ a.2.1 = b.2.1) := fun h => c2 (by rw [h.1, h.2])
  unfold pk
  omega
def keysT (ts : List Pr) : List Int := ts.map pk
theorem keysT_get {ts : List Pr} {k : Nat} {p : Pr} (h : ts[k]? = some p) : (keysT ts).getD k 0 = pk p := by
  unfold keysT; rw [List.getD_eq_getElem?_getD, List.getElem?_map, h]; rfl
theorem keys_pre {ds ts : List Pr} (S : SrOk ds ts) (h0 : ts ≠ []) (hl : ts.length < 13) : HPre (keysT ts) (lg ts.length) := by
  have hn : ts.length ≠ 0 := fun h => h0 (List.length_eq_zero_iff.mp h)
  have hp := pow_lg hn
  have e : (keysT ts).length = ts.length := by unfold keysT; rw [List.length_map]
  refine ⟨by rw [e]; exact hp.1, by rw [e]; exact hp.2, by omega, fun i j hij hj => ?_⟩
  rw [e] at hj
  have hi : i < ts.length := by omega
  rw [keysT_get (List.getElem?_eq_getElem hi), keysT_get (List.getElem?_eq_getElem hj)]
  exact List.pairwise_iff_getElem.mp S.asc i j hi hj hij
theorem lookI_none {ds : List Pr} {l r : Int} (h : ∀ p ∈ ds, ¬ (p.1 = l ∧ p.2.1 = r)) : lookK (ds.map enI) [l, r] = none := by
  unfold lookK
  have : (ds.map enI).find? (fun e => decide (e.1 = [l, r])) = none := by
    rw [List.find?_eq_none]
    intro e he h2
    obtain ⟨p, hp, rfl⟩ := List.mem_map.mp he
    simp only [List.cons.injEq, and_true, decide_eq_true_eq] at h2
    exact h p hp h2
  rw [this]; rfl
theorem lookI_some {ds : List Pr} (D : (ds.map fun e => (e.1, e.2.1)).Nodup) {p : Pr} (hp : p ∈ ds) : lookK (ds.map enI) [p.1, p.2.1] = some (.int p.2.2) := by
  induction ds with
  | nil => cases hp
  | cons q ds ih =>
    rw [List.map_cons, List.nodup_cons] at D
    unfold lookK
    rw [List.map_cons, List.find?_cons]
    rcases List.mem_cons.mp hp with rfl | hp
    · simp
    · have hne : ¬ ([q.1, q.2.1] = [p.1, p.2.1]) := fun e => by
        simp only [List.cons.injEq, and_true] at e
        exact D.1 (List.mem_map.mpr ⟨p, hp, by rw [e.1, e.2]⟩)
      rw [decide_eq_false hne]
      exact ih D.2 hp
theorem pair_at {ds ts : List Pr} (S : SrOk ds ts) {l r : Int} (hl : 0 ≤ l ∧ l < 8) (hr : 0 ≤ r ∧ r < 8) {k : Nat} (P : HPost (keysT ts) (l * 65536 + r) k) :
    ∃ p, ts[k]? = some p ∧ (pk p = l * 65536 + r → lookK (ds.map enI) [l, r] = some (.int p.2.2)) ∧ (pk p ≠ l * 65536 + r → lookK (ds.map enI) [l, r] = none) := by
  obtain ⟨h1, h2, h3⟩ := P
  have e : (keysT ts).length = ts.length := by unfold keysT; rw [List.length_map]
  rw [e] at h1 h3
  have hk := List.getElem?_eq_getElem h1
  refine ⟨_, hk, fun he => ?_, fun hne => lookI_none fun p hp => ?_⟩
  · have hm := S.perm.mem_iff.mp (List.getElem_mem h1)
    have hb := S.ok.each _ hm
    unfold pk at he
    have := lookI_some S.ok.keys hm
    rw [show ts[k].1 = l by omega, show ts[k].2.1 = r by omega] at this
    exact this
  · rintro ⟨rfl, rfl⟩
    obtain ⟨j, hj, ej⟩ := List.getElem_of_mem (S.perm.mem_iff.mpr hp)
    have hj2 : ts[j]? = some p := by rw [List.getElem?_eq_getElem hj, ej]
    have asc := List.pairwise_iff_getElem.mp S.asc
    rw [keysT_get hk] at h3
    rcases Nat.lt_trichotomy j k with h | h | h
    · have := h2 j h
      rw [keysT_get hj2] at this
      unfold pk at this; omega
    · subst h
      rw [ej] at hne
      exact hne rfl
    · have := asc k j h1 hj h
      rw [ej] at this
      unfold pk at this h3
      omega
theorem signed_mod {v : Int} (h : -200 ≤ v ∧ v ≤ 200) : signed (v % 65536) = v := by unfold signed; split <;> omega
def headK (n : Nat) : List Int := [(n : Int), ((2 ^ lg n * 6 : Nat) : Int), (lg n : Nat), max 0 (((n * 6 : Nat) : Int) - ((2 ^ lg n * 6 : Nat) : Int))]
end
section
theorem segs_lt : ∀ {segs : List (Int × Int)}, (flat segs).Pairwise (· < ·) → (∀ p ∈ segs, p.1 ≤ p.2) → segs.Pairwise fun a b => a.2 < b.1
  | [], _, _ => .nil
  | p :: r, hp, hk => by
    have hp : (rngI p.1 p.2 ++ flat r).Pairwise (· < ·) := hp
    rw [List.pairwise_append] at hp
    obtain ⟨_, h2, h3⟩ := hp
    refine .cons (fun q hq => ?_) (segs_lt h2 fun q hq => hk q (.tail _ hq))
    exact h3 p.2 (rngI_mem.mpr ⟨hk p (.head _), Int.le_refl _⟩) q.1 (mem_flat hq (Int.le_refl _) (hk q (.tail _ hq)))
theorem keys_lt {cs : List (Int × Int)} (C : CsOk cs) : (keysOf cs).Pairwise (· < ·) := by
  unfold keysOf; rw [List.pairwise_map]; exact C.asc
theorem segs_lt2 {cs segs : List (Int × Int)} (C : CsOk cs) (G : Segs (keysOf cs) segs) {i j : Nat} {p q : Int × Int} (hi : segs[i]? = some p) (hj : segs[j]? = some q) (h : i < j) : p.2 < q.1 := by
  have hk := segs_lt (by rw [G.flat]; exact keys_lt C) G.ok
  obtain ⟨a1, a2⟩ := List.getElem?_eq_some_iff.mp hi
  obtain ⟨b1, b2⟩ := List.getElem?_eq_some_iff.mp hj
  have := List.pairwise_iff_getElem.mp hk i j a1 b1 h
  rw [a2, b2] at this; exact this
theorem ends_last (segs : List (Int × Int)) : (endsOf segs).getD segs.length 0 = 65535 := by
  unfold endsOf
  rw [List.getD_eq_getElem?_getD, List.getElem?_append_right (by simp)]; simp
theorem starts_last (segs : List (Int × Int)) : (startsOf segs).getD segs.length 0 = 65535 := by
  unfold startsOf
  rw [List.getD_eq_getElem?_getD, List.getElem?_append_right (by simp)]; simp
theorem segs_small {cs segs : List (Int × Int)} (C : CsOk cs) (G : Segs (keysOf cs) segs) : segs.length < 64 := by
  have h1 := segs_len G.ok
  rw [G.flat] at h1
  unfold keysOf at h1
  rw [List.length_map] at h1
  exact Nat.lt_of_le_of_lt h1 C.len
theorem ends_pre {cs segs : List (Int × Int)} (C : CsOk cs) (G : Segs (keysOf cs) segs) : HPre (endsOf segs) (lg (segs.length + 1)) := by
  have hs := segs_small C G
  have hl := endsOf_len segs
  have hp := pow_lg (n := segs.length + 1) (by omega)
  refine ⟨by rw [hl]; exact hp.1, by rw [hl]; exact hp.2, by omega, fun i j hij hj => ?_⟩
  rw [hl] at hj
  obtain ⟨p, hi⟩ : ∃ p, segs[i]? = some p := ⟨_, List.getElem?_eq_getElem (by omega)⟩
  have hpm := List.mem_of_getElem? hi
  have hpp := G.ok p hpm
  have h1 : p.2 ≤ 60000 := (C.key_in (c := p.2) (by rw [← G.flat]; exact mem_flat hpm hpp (Int.le_refl _))).2
  rw [endsOf_get hi]
  rcases Nat.lt_or_ge j segs.length with h | h
  · obtain ⟨q, hq⟩ : ∃ p, segs[j]? = some p := ⟨_, List.getElem?_eq_getElem (by omega)⟩
    have := segs_lt2 C G hi hq hij
    have := G.ok q (List.mem_of_getElem? hq)
    rw [endsOf_get hq]; omega
  · have e : j = segs.length := by omega
    subst e
    rw [ends_last]; omega
theorem valOf_none {cs : List (Int × Int)} {c : Int} (h : c ∉ keysOf cs) : valOf cs c = 0 := by
  unfold valOf
  have : cs.find? (fun p => p.1 = c) = none := by
    rw [List.find?_eq_none]
    intro p hp e
    exact h (List.mem_map.mpr ⟨p, hp, by simpa using e⟩)
  rw [this]; rfl
theorem in_seg {cs segs : List (Int × Int)} (G : Segs (keysOf cs) segs) {c : Int} (h : c ∈ keysOf cs) : ∃ (j : Nat) (q : Int × Int), segs[j]? = some q ∧ q.1 ≤ c ∧ c ≤ q.2 := by
  rw [← G.flat] at h
  obtain ⟨q, hq, hc⟩ := List.mem_flatMap.mp h
  obtain ⟨j, hj, e⟩ := List.getElem_of_mem hq
  exact ⟨j, q, by rw [List.getElem?_eq_getElem hj]; exact congrArg some e, rngI_mem.mp hc⟩
theorem glyph_at {cs segs : List (Int × Int)} (C : CsOk cs) (G : Segs (keysOf cs) segs) {code : Int} {r : Nat} (hp : HPost (endsOf segs) code r) :
    (r = segs.length ∧ code ∉ keysOf cs) ∨ ∃ p, segs[r]? = some p ∧ (code < p.1 → code ∉ keysOf cs) ∧ code ≤ p.2 := by
  obtain ⟨h1, h2, h3⟩ := hp
  rw [endsOf_len] at h1 h3
  by_cases hr : r = segs.length
  · refine .inl ⟨hr, fun hm => ?_⟩
    obtain ⟨j, q, hj, q1, q2⟩ := in_seg G hm
    have hjl := (List.getElem?_eq_some_iff.mp hj).1
    have := h2 j (by omega)
    rw [endsOf_get hj] at this
    omega
  · obtain ⟨p, hi⟩ : ∃ p, segs[r]? = some p := ⟨_, List.getElem?_eq_getElem (by omega)⟩
    refine .inr ⟨p, hi, fun hlt hm => ?_, ?_⟩
    · obtain ⟨j, q, hj, q1, q2⟩ := in_seg G hm
      have hjl := (List.getElem?_eq_some_iff.mp hj).1
      rcases Nat.lt_trichotomy j r with h | h | h
      · have := h2 j h
        rw [endsOf_get hj] at this
        omega
      · subst h; rw [hi] at hj; cases hj; omega
      · have := segs_lt2 C G hi hj h
        have := G.ok p (List.mem_of_getElem? hi)
        omega
    · rw [endsOf_get hi] at h3
      omega
theorem getR {a b : List Int} {k : Nat} : (a ++ b).getD (a.length + k) 0 = b.getD k 0 := by
  rw [List.getD_eq_getElem?_getD, List.getD_eq_getElem?_getD, List.getElem?_append_right (by omega), Nat.add_sub_cancel_left]
theorem getL {a b : List Int} {k : Nat} (h : k < a.length) : (a ++ b).getD k 0 = a.getD k 0 := by
  rw [List.getD_eq_getElem?_getD, List.getD_eq_getElem?_getD, List.getElem?_append_left h]
theorem getZ {b : List Int} {z : Int} {k : Nat} : (z :: b).getD (1 + k) 0 = b.getD k 0 := by rw [Nat.add_comm]; rfl
/-- the places of the words -/
structure Lay (n : Nat) (E S D O gia W : List Int) : Prop where
  e : (W.drop 7).take n = E
  s : ∀ r, r < n → W.getD (8 + n + r) 0 = S.getD r 0
  d : ∀ r, r < n → W.getD (8 + 2 * n + r) 0 = D.getD r 0
  o : ∀ r, r < n → W.getD (8 + 3 * n + r) 0 = O.getD r 0
  g : ∀ k, W.getD (8 + 4 * n + k) 0 = gia.getD k 0
  l : W.length = 8 + 4 * n + gia.length
theorem Lay.of {n : Nat} {h E S D O gia : List Int} (hh : h.length = 7) (hE : E.length = n) (hS : S.length = n) (hD : D.length = n) (hO : O.length = n) : Lay n E S D O gia (h ++ (E ++ (0 :: (S ++ (D ++ (O ++ gia)))))) := by
  refine ⟨?_, fun r hr => ?_, fun r hr => ?_, fun r hr => ?_, fun k => ?_, ?_⟩
  · rw [← hh, List.drop_left', ← hE, List.take_left'] <;> rfl
  · rw [show 8 + n + r = h.length + (E.length + (1 + r)) by omega, getR, getR, getZ, getL (by omega)]
  · rw [show 8 + 2 * n + r = h.length + (E.length + (1 + (S.length + r))) by omega, getR, getR, getZ, getR, getL (by omega)]
  · rw [show 8 + 3 * n + r = h.length + (E.length + (1 + (S.length + (D.length + r)))) by omega, getR, getR, getZ, getR, getR, getL (by omega)]
  · rw [show 8 + 4 * n + k = h.length + (E.length + (1 + (S.length + (D.length + (O.length + k))))) by omega, getR, getR, getZ, getR, getR, getR]
  · simp only [List.length_append, List.length_cons]; omega
theorem glyph_ok {x : Cx} (T : Top x.K x.h₀) {A : Around} {own : Own} {Q : AV → Own → Prop} (hl : Lv 3 A) {cs : List (Int × Int)} {W : List Int} (C : CsOk cs) (F : Fmt4 cs W) {l : Addr} {code : Int} (kn : Kn x own (l, .list (W.map .int))) (h0 : 0 ≤ code) (h1 : code ≤ 65535)
    (q : Q (.int (valOf cs code)) own) : WO x A (callv (.ref 303)) [.val (.ref l), .int code] own Q := by
  obtain ⟨segs, ds, os, gia, hW, G, I⟩ := F.ex
  have hs := segs_small C G
  have hL : Lay (segs.length + 1) (endsOf segs) (startsOf segs) (ds ++ [1]) (os ++ [0]) gia W := by
    rw [hW, show bodyW segs ds os gia = endsOf segs ++ (0 :: (startsOf segs ++ ((ds ++ [1]) ++ ((os ++ [0]) ++ gia)))) by unfold bodyW; simp]
    exact Lay.of rfl (endsOf_len _) (startsOf_len _) (by rw [List.length_append, I.dl]; rfl) (by rw [List.length_append, I.ol]; rfl)
  have w3 : W.getD 3 0 = ((2 * (segs.length + 1) : Nat) : Int) := by rw [hW]; rfl
  have w4 : W.getD 4 0 = ((2 ^ lg (segs.length + 1) * 2 : Nat) : Int) := by rw [hW]; rfl
  have w5 : W.getD 5 0 = ((lg (segs.length + 1) : Nat) : Int) := by rw [hW]; rfl
  have w6 : W.getD 6 0 = max 0 ((((segs.length + 1) * 2 : Nat) : Int) - ((2 ^ lg (segs.length + 1) * 2 : Nat) : Int)) := by rw [hW]; rfl
  have hgl := I.gl
  rw [List.take_length] at hgl
  have hfl : (flat segs).length < 64 := by rw [G.flat]; unfold keysOf; rw [List.length_map]; exact C.len
  have hWl := hL.l
  have hpw := (pow_lg (n := segs.length + 1) (by omega)).1
  clear hW
  refine enter ["words", "code", "many", "ends", "at", "start", "delta", "place", "glyph"] ["_law_halved"] [.val (.ref l), .int code, .any, .any, .any, .any, .any, .any, .any] T.f_glyph hl rfl (by with_unfolding_all rfl) (by decide +kernel) (by decide +kernel) (by decide +kernel) (by decide +kernel) (by decide +kernel) fun env A' H => ?_
  have hh := H.hnd
  have g1 := T.g_halved
  refine SS_cons ?_
  repeat' tb_start
  all_goals (try omega)
  rw [show Int.toNat 3 = 3 from rfl, w3, show ((2 * (segs.length + 1) : Nat) : Int) / 2 = ((segs.length + 1 : Nat) : Int) by omega]
  refine ⟨_, rfl, ?_⟩
  repeat' tb_start
  refine ⟨_, rfl, ?_⟩
  repeat' tb_start
  all_goals (try (first | omega | (rw [List.length_map]; omega)))
  rename_i EN
  have e1 : pickL (W.map AV.int) (some 7) (some (7 + ((segs.length + 1 : Nat) : Int))) = (endsOf segs).map .int := by
    have := pickL_run (W.map AV.int) 7 (7 + (segs.length + 1))
    rw [show (((7 + (segs.length + 1) : Nat)) : Int) = 7 + ((segs.length + 1 : Nat) : Int) by omega] at this
    rw [show (7 : Int) = ((7 : Nat) : Int) from rfl]
    exact this.trans (by rw [← List.map_drop, ← List.map_take, show 7 + (segs.length + 1) - 7 = segs.length + 1 by omega, hL.e])
  rw [e1, show Int.toNat 4 = 4 from rfl, show Int.toNat 5 = 5 from rfl, show Int.toNat 6 = 6 from rfl, w4, w5, w6]
  have hpre := ends_pre C G
  have hel := endsOf_len segs
  rw [show ((2 ^ lg (segs.length + 1) * 2 : Nat) : Int) / 2 = ((2 ^ lg (segs.length + 1) : Nat) : Int) by omega, show max 0 ((((segs.length + 1) * 2 : Nat) : Int) - ((2 ^ lg (segs.length + 1) * 2 : Nat) : Int)) / 2 = (((endsOf segs).length - 2 ^ lg (segs.length + 1) : Nat) : Int) by omega]
  refine halved_ok T (H.lv.le (by omega)) hpre (by tb_rel) fun r hr => ?_
  have hrl := hr.1
  rw [hel] at hrl
  have s1 : W.getD (8 + ((segs.length + 1 : Nat) : Int) + (r : Int)).toNat 0 = (startsOf segs).getD r 0 := by rw [show (8 + ((segs.length + 1 : Nat) : Int) + (r : Int)).toNat = 8 + (segs.length + 1) + r by omega]; exact hL.s r hrl
  have d1 : W.getD (8 + 2 * ((segs.length + 1 : Nat) : Int) + (r : Int)).toNat 0 = (ds ++ [1]).getD r 0 := by rw [show (8 + 2 * ((segs.length + 1 : Nat) : Int) + (r : Int)).toNat = 8 + 2 * (segs.length + 1) + r by omega]; exact hL.d r hrl
  have o1 : W.getD (8 + 3 * ((segs.length + 1 : Nat) : Int) + (r : Int)).toNat 0 = (os ++ [0]).getD r 0 := by rw [show (8 + 3 * ((segs.length + 1 : Nat) : Int) + (r : Int)).toNat = 8 + 3 * (segs.length + 1) + r by omega]; exact hL.o r hrl
  have ern : ((r : Int)).toNat = r := by omega
  rcases glyph_at C G hr with ⟨hrs, hnk⟩ | ⟨p, hp, hnk, hle⟩
  · have v0 := valOf_none hnk
    rw [v0] at q
    subst hrs
    rw [starts_last] at s1
    have d2 : (ds ++ [1]).getD segs.length 0 = 1 := by rw [← I.dl, List.getD_eq_getElem?_getD, List.getElem?_append_right (by omega)]; simp
    have o2 : (os ++ [0]).getD segs.length 0 = 0 := by rw [← I.ol, List.getD_eq_getElem?_getD, List.getElem?_append_right (by omega)]; simp
    rw [d2] at d1
    rw [o2] at o1
    repeat' tb_start
    all_goals (try omega)
    · exact RetQ.r q (by tb_rel)
    · exact RetQ.r q (by tb_rel)
    · rename_i h3 h2 h1x
      rw [ern, ends_last] at h2
      rw [s1] at h3
      refine RetQ.r (o := own) ?_ (by tb_rel)
      rw [d1, show (code + 1) % 65536 = 0 by omega]; exact q
    all_goals (exfalso; omega)
  · have q1 := G.ok p (List.mem_of_getElem? hp)
    have hb := C.key_in (c := p.2) (by rw [← G.flat]; exact mem_flat (List.mem_of_getElem? hp) q1 (Int.le_refl _))
    have ha := C.key_in (c := p.1) (by rw [← G.flat]; exact mem_flat (List.mem_of_getElem? hp) (Int.le_refl _) q1)
    have hrs : r < segs.length := (List.getElem?_eq_some_iff.mp hp).1
    rw [startsOf_get hp] at s1
    rw [getL (by rw [I.dl]; exact hrs)] at d1
    rw [getL (by rw [I.ol]; exact hrs)] at o1
    have hE : (endsOf segs).getD ((r : Int)).toNat 0 = p.2 := by rw [ern, endsOf_get hp]
    have hS := I.each r p hrs hp
    by_cases hin : code < p.1
    · rw [valOf_none (hnk hin)] at q
      repeat' tb_start
      all_goals (try omega)
      exact RetQ.r q (by tb_rel)
    · have hck : code ∈ keysOf cs := by rw [← G.flat]; exact mem_flat (List.mem_of_getElem? hp) (by omega) hle
      have hvv := valOf_in C hck
      rcases hS with ⟨ho, hd0, hd1, hd⟩ | ⟨hd0, bb, ho, hg⟩
      · have hd := hd code (by omega) hle
        repeat' tb_start
        all_goals (try omega)
        refine RetQ.r (o := own) ?_ (by tb_rel)
        rw [d1, hd]; exact q
      · have hg := hg code (by omega) hle
        have hgl := (List.getElem?_eq_some_iff.mp hg).1
        have hgg : W.getD (8 + 4 * (segs.length + 1) + (bb + (code - p.1).toNat)) 0 = valOf cs code := by
          rw [hL.g, List.getD_eq_getElem?_getD, hg]; rfl
        have hidx : (8 + 3 * ((segs.length + 1 : Nat) : Int) + (r : Int) + W.getD (8 + 3 * ((segs.length + 1 : Nat) : Int) + (r : Int)).toNat 0 / 2 + code - W.getD (8 + ((segs.length + 1 : Nat) : Int) + (r : Int)).toNat 0).toNat = 8 + 4 * (segs.length + 1) + (bb + (code - p.1).toNat) := by
          rw [o1, s1, ho]; omega
        repeat' tb_start
        all_goals (try omega)
        · refine RetQ.r (o := own) ?_ (by tb_rel)
          rw [hidx, hgg, d1, hd0, show (valOf cs code + 0) % 65536 = valOf cs code by omega]; exact q
        · rename_i h9
          rw [hidx, hgg] at h9
          omega
end
section
theorem wrdsK_len : ∀ ps : List Pr, (wrdsK ps).length = 3 * ps.length
  | [] => rfl
  | p :: r => by
    have := wrdsK_len r
    show ((wrdsK r).length + 1 + 1 + 1) = _
    rw [this, List.length_cons]; omega
theorem getD_of {l : List Int} {k : Nat} {v : Int} (h : l[k]? = some v) : l.getD k 0 = v := by rw [List.getD_eq_getElem?_getD, h]; rfl
theorem pair_ok {x : Cx} (T : Top x.K x.h₀) {A : Around} {own : Own} {Q : AV → Own → Prop} (hl : Lv 3 A) {ps : List Pr} (O : PrOk ps) {l : Addr} {left right : Int} (kn : Kn x own (l, .list ((headK (dps ps).length ++ wrdsK (srt ps)).map .int))) (h0 : 0 ≤ left ∧ left < 8) (h1 : 0 ≤ right ∧ right < 8)
    (q : Q ((lookK (pairsTo ps) [left, right]).getD (.val .none)) own) : WO x A (callv (.ref 308)) [.val (.ref l), .int left, .int right] own Q := by
  obtain ⟨D, _, hpt, hdl⟩ := dps_ok O
  have S := srt_ok O
  have hnl : (srt ps).length = (dps ps).length := S.perm.length_eq
  rw [hpt] at q
  rw [← hnl] at kn hdl
  generalize srt ps = ts at *
  generalize dps ps = ds at *
  obtain ⟨W, hW⟩ : ∃ W, W = headK ts.length ++ wrdsK ts := ⟨_, rfl⟩
  rw [← hW] at kn
  have hwl : W.length = 4 + 3 * ts.length := by rw [hW, List.length_append, wrdsK_len]; rfl
  have wk : ∀ (k : Nat) (p : Pr), ts[k]? = some p → W.getD (4 + 3 * k) 0 = p.1 ∧ W.getD (5 + 3 * k) 0 = p.2.1 ∧ W.getD (6 + 3 * k) 0 = p.2.2 % 65536 := fun k p hp => by
    obtain ⟨e1, e2, e3⟩ := wrdsK_get hp
    rw [hW]
    refine ⟨?_, ?_, ?_⟩
    · exact (getR (a := headK ts.length) (k := 3 * k)).trans (getD_of e1)
    · rw [show 5 + 3 * k = 4 + (3 * k + 1) by omega]; exact (getR (a := headK ts.length) (k := 3 * k + 1)).trans (getD_of e2)
    · rw [show 6 + 3 * k = 4 + (3 * k + 2) by omega]; exact (getR (a := headK ts.length) (k := 3 * k + 2)).trans (getD_of e3)
  have hcut : pickL (W.map AV.int) none (some 4) = (headK ts.length).map .int := by rw [hW]; exact cut_to (n := 4) rfl
  clear hW
  refine enterC ["left", "right", "many", "size", "halvings", "shift", "keys", "at"] ["range", "_law_halved", "_law_signed"] ["words"] [.int left, .int right, .any, .any, .any, .any, .any, .any] [.val (.ref l)] T.f_pair hl rfl (by with_unfolding_all rfl) (by with_unfolding_all rfl) (by decide +kernel) (by decide +kernel) (by decide +kernel) (by decide +kernel) (by decide +kernel) (by decide +kernel) (by decide +kernel) fun env A' cs2 H ec hcl hce hck => ?_
  obtain ⟨cW, rfl⟩ : ∃ c1, cs2 = [c1] := by
    match cs2, hcl with
    | [c], _ => exact ⟨c, rfl⟩
  show WS x A' _ ((env.locals, .ns ["left", "right", "many", "size", "halvings", "shift", "keys", "at"] [.int left, .int right, .any, .any, .any, .any, .any, .any]) :: (cW, .cell (.val (.ref l))) :: own) _
  have hh := H.hnd
  have kW := hck "words" (.head _)
  have cWl : env.cells.lookup ("words" : Str) = some cW := by rw [hce]; rfl
  have g1 := T.b_range
  have g2 := T.g_halved
  have g3 := T.g_signed
  refine SS_cons ?_
  repeat' tb_start
  refine ⟨_, rfl, ?_⟩
  repeat' tb_start
  all_goals (try (rw [List.length_map]; omega))
  rw [hcut]
  rename_i H4
  refine A_lst H (l := H4) (as := (headK ts.length).map .int) (by tb_rel) ?_ (by with_unfolding_all rfl) rfl
  show WAs x A' env _ [.int (ts.length : Int), .int ((2 ^ lg ts.length * 6 : Nat) : Int), .int (lg ts.length : Nat), .int (max 0 (((ts.length * 6 : Nat) : Int) - ((2 ^ lg ts.length * 6 : Nat) : Int)))] _ _
  repeat' tb_start
  · rename_i h
    have e : ts = [] := List.length_eq_zero_iff.mp (by omega)
    subst e
    have e : ds = [] := List.length_eq_zero_iff.mp (by rw [← hnl]; rfl)
    subst e
    exact RetQ.r (o := own) q (by tb_rel)
  rename_i h
  have hne : ts ≠ [] := fun e => h (by rw [e]; rfl)
  have hpre := keys_pre S hne hdl
  have hkl : (keysT ts).length = ts.length := by unfold keysT; rw [List.length_map]
  have hpw := (pow_lg (n := ts.length) (by omega)).1
  refine S_lmap H [("words", cW)] [] (closure1 (by rfl) cWl) (by rfl) (by decide +kernel) (by decide +kernel) (by decide +kernel) (by decide +kernel) (by simp) (swaps_true H (by tb_rel) rfl rfl) ?_
  repeat' tb_start
  refine ⟨_, _, _, id, onInt fun k => .int (W.getD (4 + 3 * k).toNat 0 * 65536 + W.getD (5 + 3 * k).toNat 0), Itb.range1 (a := 0) (b := (ts.length : Int)) hh (.inl (.head _)) (by omega) (by omega), by rw [List.length_map, List.length_range]; omega, fun b hb => ?_, fun KL => ?_⟩
  · obtain ⟨i, hi, rfl⟩ := List.mem_map.mp hb
    have hi := List.mem_range.mp hi
    refine ⟨trivial, fun cenv hc hf => ?_⟩
    have kW' := hc.cell H.kind (by decide +kernel) kW
    have cW' : cenv.cells.lookup ("words" : Str) = some cW := by rw [hc.cells]; rfl
    have kn' : Kn (wr x x.ro) own _ := kn
    repeat' tb_start
    all_goals (try omega)
    exact ⟨rfl, _, by tb_rel⟩
  have e : ((List.range ((ts.length : Int) - 0).toNat).map fun k : Nat => AV.int (0 + (k : Int))).map (onInt fun k => .int (W.getD (4 + 3 * k).toNat 0 * 65536 + W.getD (5 + 3 * k).toNat 0)) = (keysT ts).map .int := by
    rw [map_onInt]
    apply List.ext_getElem?
    intro k
    rw [show ((ts.length : Int) - 0).toNat = ts.length by omega]
    unfold keysT
    rcases Nat.lt_or_ge k ts.length with hk | hk
    · obtain ⟨p, hp⟩ : ∃ p, ts[k]? = some p := ⟨_, List.getElem?_eq_getElem hk⟩
      rw [List.getElem?_map, List.getElem?_range hk, List.getElem?_map, List.getElem?_map, hp]
      obtain ⟨w1, w2, _⟩ := wk k p hp
      show some (AV.int _) = some (AV.int (pk p))
      rw [show (4 + 3 * (0 + (k : Int))).toNat = 4 + 3 * k by omega, show (5 + 3 * (0 + (k : Int))).toNat = 5 + 3 * k by omega, w1, w2]
      rfl
    · rw [List.getElem?_eq_none (by simpa using hk), List.getElem?_eq_none (by simpa using hk)]
  rw [e]
  dsimp only [id_eq]
  repeat' tb_start
  all_goals (try omega)
  rw [show ((2 ^ lg ts.length * 6 : Nat) : Int) / 6 = ((2 ^ lg ts.length : Nat) : Int) by omega, show max 0 (((ts.length * 6 : Nat) : Int) - ((2 ^ lg ts.length * 6 : Nat) : Int)) / 6 = (((keysT ts).length - 2 ^ lg ts.length : Nat) : Int) by omega]
  refine halved_ok T (H.lv.le (by omega)) hpre (by tb_rel) fun r hr => ?_
  have hrl := hr.1
  rw [hkl] at hrl
  obtain ⟨p, hp, p1, p2⟩ := pair_at S h0 h1 hr
  have hkg := keysT_get hp
  obtain ⟨_, _, w3⟩ := wk r p hp
  have hpb := D.each p (S.perm.mem_iff.mp (List.mem_of_getElem? hp))
  have ern : ((r : Int)).toNat = r := by omega
  have er6 : (6 + 3 * (r : Int)).toNat = 6 + 3 * r := by omega
  repeat' tb_start
  all_goals (try omega)
  · rename_i h9
    rw [ern, hkg] at h9
    rw [p1 h9] at q
    refine signed_ok T (H.lv.le (by omega)) ?_
    rw [er6, w3, signed_mod hpb.2.2]
    exact Nx.r (RetQ.r (o := own) q (by tb_rel))
  · rename_i h9
    rw [ern, hkg] at h9
    rw [p2 h9] at q
    exact RetQ.r (o := own) q (by tb_rel)
end
section
def numR (s : Str) : Int := match lookK revL s with
  | some (.int i) => i
  | _ => 0
theorem numR_gname {k : Int} (h : 0 ≤ k ∧ k < 8) : numR (gname k) = k := by
  unfold numR; rw [revL_look h.1 (by omega)]
def prsOf (ds : List Pr) : List (Str × Str × Int) := ds.map fun p => (gname p.1, gname p.2.1, p.2.2)
theorem prsOf_num {ds : List Pr} (D : DpOk ds) : ((prsOf ds).map fun p => (numR p.1, numR p.2.1, p.2.2)) = ds := by
  unfold prsOf
  rw [List.map_map]
  conv => rhs; rw [← List.map_id ds]
  refine List.map_congr_left fun p hp => ?_
  have := D.each p hp
  show (numR (gname p.1), numR (gname p.2.1), p.2.2) = id p
  rw [numR_gname this.1, numR_gname this.2.1]; rfl
theorem prsOf_enS (ds : List Pr) : ((prsOf ds).map fun p => ([p.1, p.2.1], AV.int p.2.2)) = ds.map enS := by unfold prsOf; rw [List.map_map]; rfl
theorem DpOk.nodup {ds : List Pr} (D : DpOk ds) : ds.Nodup := by
  have h := D.keys
  unfold List.Nodup at h ⊢
  rw [List.pairwise_map] at h
  exact h.imp fun {a b} h e => h (by rw [e])
theorem wrdsK_app : ∀ (a b : List Pr), wrdsK (a ++ b) = wrdsK a ++ wrdsK b := fun a b => by unfold wrdsK; rw [List.flatMap_append]
theorem kcom_ok {x : Cx} (T : Top x.K x.h₀) {P : Addr} (TB : TabOk x 257 P) (B : BiOk x) (hbad : x.bad = []) {A : Around} {Q : AV → Own → Prop} (hl : Lv 4 A) {b : Bool} {ps : List Pr} (O : PrOk ps) {a d f fd kd : Addr} {es : List (Str × AV)} {r : Own} {r' : Addr → Own}
    (RV : RevOk x f r r') (k1 : Kn x r (a, .inst 261 d)) (k2 : Kn x r (d, .attrs (attrsK b (tiK b) (.val (.ref kd))))) (k3 : ∀ D, Kn x (r' D) (a, .inst 261 d)) (k4 : ∀ D, Kn x (r' D) (d, .attrs (attrsK b (tiK b) (.val (.ref kd)))))
    (k5 : Kn x r (f, .inst 127 fd)) (k6 : Kn x r (fd, .attrs es)) (hno : es.lookup ("getReverseGlyphMap" : Str) = none)
    (q : ∀ (D : Addr) (hd : List Int), hd.length = (if b then 8 else 6) → Q (.byt (hd ++ (headK (dps ps).length ++ wrdsK (srt ps)).flatMap be2)) ((kd, .dictTS (kernTo ps)) :: r' D)) :
    WO x A (callv (.ref 258)) [.val (.ref a), .val (.ref f)] ((kd, .dictTS (kernTo ps)) :: r) Q := by
  obtain ⟨DO, hk, _, hdl⟩ := dps_ok O
  have S := srt_ok O
  have hnl : (srt ps).length = (dps ps).length := S.perm.length_eq
  rw [hk] at q ⊢
  refine enterC ["self", "ttFont", "nPairs", "searchRange", "entrySelector", "rangeShift", "data", "kernTable", "left", "right", "value", "version", "length", "header"] ["min", "len", "getSearchRange", "pack", "sorted", "KeyError"] ["reverseOrder", "getGlyphID"] [.val (.ref a), .val (.ref f), .any, .any, .any, .any, .any, .any, .any, .any, .any, .any, .any, .any] [.any, .any] T.f_kcom hl rfl (by with_unfolding_all rfl) (by with_unfolding_all rfl) (by decide +kernel) (by decide +kernel) (by decide +kernel) (by decide +kernel) (by decide +kernel) (by decide +kernel) (by decide +kernel) fun env A' cs2 H ec hcl hce hck => ?_
  obtain ⟨cR, cG, rfl⟩ : ∃ c1 c2, cs2 = [c1, c2] := by
    match cs2, hcl with
    | [c, d], _ => exact ⟨c, d, rfl⟩
  show WS x A' _ ((env.locals, .ns ["self", "ttFont", "nPairs", "searchRange", "entrySelector", "rangeShift", "data", "kernTable", "left", "right", "value", "version", "length", "header"] [.val (.ref a), .val (.ref f), .any, .any, .any, .any, .any, .any, .any, .any, .any, .any, .any, .any]) :: (cR, .cell .any) :: (cG, .cell .any) :: (kd, .dictTS ((dps ps).map enS)) :: r) _
  have hh := H.hnd
  have kR := hck "reverseOrder" (.head _)
  have cRl : env.cells.lookup ("reverseOrder" : Str) = some cR := by rw [hce]; rfl
  have g1 := T.b_min
  have g2 := T.b_len
  have g3 := T.g_gsr
  have g4 := T.g_pack
  have g5 := T.b_sorted
  have cc := T.c_kern
  have cf := T.c_font
  have mr := T.m_rev
  have o1 := T.o_kern "apple" (by tb_rel)
  have o2 := T.o_kern "coverage" (by tb_rel)
  have o3 := T.o_kern "tupleIndex" (by tb_rel)
  have o4 := T.o_kern "kernTable" (by tb_rel)
  have hlg : lg (dps ps).length ≤ 20 := lg_le (by omega)
  have hpw : 2 ^ lg (dps ps).length ≤ 12 := by
    by_cases h0 : (dps ps).length = 0
    · rw [h0]; decide
    · have := (pow_lg h0).1; omega
  refine SS_cons ?_
  repeat' tb_start
  refine H_len (dhS _) (es := (dps ps).map enS) (by show Kn x _ (kd, .dictTS ((dps ps).map enS)); tb_rel) (by rw [List.length_map]; omega) ?_
  rw [List.length_map]
  repeat' tb_start
  rw [show min ((dps ps).length : Int) 65535 = ((dps ps).length : Int) by omega]
  repeat' tb_start
  refine gsr_ok T (H.lv.le (by omega)) (n := (dps ps).length) (m := 6) (by omega) (by omega) ?_
  repeat' tb_start
  rw [and_ffff (by omega), show ((2 ^ lg (dps ps).length * 6 : Nat) : Int) % 65536 = ((2 ^ lg (dps ps).length * 6 : Nat) : Int) by omega, show min ((lg (dps ps).length : Nat) : Int) 65535 = ((lg (dps ps).length : Nat) : Int) by omega,
    show min (max 0 ((((dps ps).length * 6 : Nat) : Int) - ((2 ^ lg (dps ps).length * 6 : Nat) : Int))) 65535 = max 0 ((((dps ps).length * 6 : Nat) : Int) - ((2 ^ lg (dps ps).length * 6 : Nat) : Int)) by omega]
  refine C_pack4H (by omega) (by omega) (by omega) (by omega) ?_
  repeat' tb_start
  refine S_try ?_
  repeat' tb_start
  refine M_at (by tb_rel) (by tb_rel) (by assumption) (by assumption) (Top.k_calls (by assumption) _ (by tb_rel)) hno ?_
  repeat' tb_start
  refine RV x.ro [_, _, _, _] A' _ (H.lv.le (by omega)) fun D => ?_
  dsimp only [List.cons_append, List.nil_append]
  iterate 4 tb_start
  refine WV.frz (p := (D, .dictS revL)) (by tb_rel) trivial ?_
  refine WV.frz (p := (kd, .dictTS ((dps ps).map enS))) (by tb_rel) trivial ?_
  have k3a : Kn (wr (wr x ((D, .dictS revL) :: x.ro)) ((kd, .dictTS ((dps ps).map enS)) :: (D, .dictS revL) :: x.ro)) (r' D) _ := (k3 D).frz.frz
  have k4a : Kn (wr (wr x ((D, .dictS revL) :: x.ro)) ((kd, .dictTS ((dps ps).map enS)) :: (D, .dictS revL) :: x.ro)) (r' D) _ := (k4 D).frz.frz
  refine E_sortgen H B.wr.wr (by exact hbad) TB.wr.wr ec (by tb_rel) g5 (by rfl) (closure1 (by rfl) cRl) (by decide +kernel) (by decide +kernel) (by rfl) (by decide) (by decide) (by decide) (by decide +kernel) (by decide +kernel) (by decide +kernel) (by decide +kernel) (by decide) (by decide) (by decide) (by decide) (by decide) ?_
  repeat' tb_start
  refine and_l (AVTy.dictH (dhS _) (es := (dps ps).map enS) (by show Kn _ _ (kd, .dictTS _); tb_rel)) ?_
  repeat' tb_start
  refine C_items (dhS _) (es := (dps ps).map enS) (by show Kn _ _ (kd, .dictTS _); tb_rel) fun v => ?_
  refine ⟨v, kd, D, prsOf (dps ps), revL, numR, rfl, .head _, by rw [prsOf_enS]; exact .head _, .tail _ (.head _), .tail _ (.tail _ (.head _)), by unfold prsOf; rw [List.length_map]; omega, fun p hp => ?_, by
    rw [prsOf_num DO]
    intro k hk
    have := DO.each k hk
    unfold In3; omega, by rw [prsOf_num DO]; exact DO.nodup, fun L => ?_⟩
  · obtain ⟨e, he, rfl⟩ := List.mem_map.mp hp
    have := DO.each e he
    show lookK revL (gname e.1) = some (.int (numR (gname e.1))) ∧ lookK revL (gname e.2.1) = some (.int (numR (gname e.2.1)))
    rw [numR_gname this.1, numR_gname this.2.1, revL_look this.1.1 (by omega), revL_look this.2.1.1 (by omega)]
    exact ⟨rfl, rfl⟩
  rw [prsOf_num DO]
  show _
  have hSr : sort3 (dps ps) = srt ps := rfl
  rw [hSr]
  generalize hts : srt ps = ts at *
  repeat' tb_start
  have hin : ∀ p ∈ ts, (0 ≤ p.1 ∧ p.1 < 8) ∧ (0 ≤ p.2.1 ∧ p.2.1 < 8) ∧ -200 ≤ p.2.2 ∧ p.2.2 ≤ 200 := fun p hp => DO.each p (S.perm.mem_iff.mp hp)
  have hwl : ∀ i, ((headK (dps ps).length ++ wrdsK (ts.take i)).flatMap be2).length ≤ 8 + 6 * ts.length := fun i => by
    rw [flat_be2_len, List.length_append, wrdsK_len, List.length_take, show (headK (dps ps).length).length = 4 from rfl]; omega
  refine N_forL H ?_
  repeat' tb_start
  refine ⟨L, ts.map tup3, _, fun i o => ∃ (u1 u2 u3 : AV), o = (D, .dictS revL) :: (kd, .dictTS ((dps ps).map enS)) :: (v, .view "dict_items" kd) :: (env.locals, .ns ["self", "ttFont", "nPairs", "searchRange", "entrySelector", "rangeShift", "data", "kernTable", "left", "right", "value", "version", "length", "header"] [.val (.ref a), .val (.ref f), .int (dps ps).length, .int ((2 ^ lg (dps ps).length * 6 : Nat) : Int), .int (lg (dps ps).length : Nat), .int (max 0 ((((dps ps).length * 6 : Nat) : Int) - ((2 ^ lg (dps ps).length * 6 : Nat) : Int))), .byt ((headK (dps ps).length ++ wrdsK (ts.take i)).flatMap be2), .val (.ref L), u1, u2, u3, .any, .any, .any]) :: (cR, .cell (.val (.ref D))) :: (cG, .cell .any) :: r' D, rfl, .s (.s .z), ⟨_, _, _, rfl⟩, ?_, ?_⟩
  · rintro i _ _ hia ⟨u1, u2, u3, rfl⟩
    rw [List.getElem?_map] at hia
    obtain ⟨p, hp, rfl⟩ := Option.map_eq_some_iff.mp hia
    have hpb := hin p (List.mem_of_getElem? hp)
    have hwi := hwl i
    have ee : (headK (dps ps).length ++ wrdsK (ts.take (i + 1))).flatMap be2 = (headK (dps ps).length ++ wrdsK (ts.take i)).flatMap be2 ++ [p.1 / 256, p.1 % 256, p.2.1 / 256, p.2.1 % 256, p.2.2 % 65536 / 256, p.2.2 % 65536 % 256] := by
      rw [List.take_add_one, hp, wrdsK_app, ← List.append_assoc, List.flatMap_append]; rfl
    show WA _ A' env _ (.tup [.int p.1, .int p.2.1, .int p.2.2]) _ _
    repeat' tb_start
    refine C_packHHh (by omega) (by omega) (by omega) ?_
    repeat' tb_start
    · simp only [List.length_cons, List.length_nil]; omega
    · exact ⟨_, _, _, by rw [ee] <;> rfl⟩
  · rintro _ ⟨u1, u2, u3, rfl⟩
    rw [List.length_map, List.take_length]
    have hwi := hwl ts.length
    rw [List.take_length] at hwi
    generalize hDT : (headK (dps ps).length ++ wrdsK ts).flatMap be2 = DT at *
    obtain ⟨tt, hfm⟩ := T.o_kfmt
    have k3b := k3 D
    have k4b := k4 D
    cases b
    · repeat' tb_start
      all_goals (try omega)
      refine W_clsi cc hfm (by tb_rel) (by tb_rel) rfl ?_
      repeat' tb_start
      refine C_packHHBB (by omega) (by omega) (by omega) (by omega) ?_
      repeat' tb_start
      · simp only [List.length_cons, List.length_nil]; omega
      · exact RetQ.r (o := (kd, .dictTS ((dps ps).map enS)) :: r' D) (q D _ rfl) (by tb_rel)
    · repeat' tb_start
      all_goals (try omega)
      refine W_clsi cc hfm (by tb_rel) (by tb_rel) rfl ?_
      repeat' tb_start
      refine C_packLBBH (by omega) (by omega) (by omega) (by omega) ?_
      repeat' tb_start
      · simp only [List.length_cons, List.length_nil]; omega
      · exact RetQ.r (o := (kd, .dictTS ((dps ps).map enS)) :: r' D) (q D _ rfl) (by tb_rel)
end
section
theorem lookI_or (ds : List Pr) (k : List Int) : lookK (ds.map enI) k = none ∨ ∃ v, lookK (ds.map enI) k = some (.int v) := by
  unfold lookK
  cases h : (ds.map enI).find? (fun e => decide (e.1 = k)) with
  | none => exact .inl rfl
  | some e =>
    obtain ⟨p, hp, rfl⟩ := List.mem_map.mp (List.mem_of_find?_eq_some h)
    exact .inr ⟨p.2.2, rfl⟩
theorem law_end {x : Cx} (T : Top x.K x.h₀) {A' : Around} {env : Env} (H : Fm 5 A' env ["script", "state", "font", "code", "k", "glyph", "j", "one", "table", "octets", "words", "near", "again", "row", "left", "right", "value", "apple", "kern"] ["_law_names", "TTFont", "_law_next", "range", "filled", "cmap_format_4", "_law_words", "sorted", "_law_glyph", "_law_sound", "getSearchRange", "KernTable_format_0", "bytes", "len", "all"]) {own : Own} {Q : AV → Own → Prop} {ps : List Pr} (O : PrOk ps) {RL PD cK cP : Addr} {m : List AV}
    (kK : env.kindOf "rest" = some .cell) (cKl : env.cells.lookup ("rest" : Str) = some cK) (kP : env.kindOf "pairs" = some .cell) (cPl : env.cells.lookup ("pairs" : Str) = some cP)
    (k1 : Kn x own (RL, .list ((headK (dps ps).length ++ wrdsK (srt ps)).map .int))) (k2 : Kn x own (PD, .dictTI (pairsTo ps))) (q : Q (.val (.bool true)) []) :
    WS x A' (execs ((bodyOf (stm 25)).drop 22) env) ((env.locals, .ns ["script", "state", "font", "code", "k", "glyph", "j", "one", "table", "octets", "words", "near", "again", "row", "left", "right", "value", "apple", "kern"] m) :: (cK, .cell (.val (.ref RL))) :: (cP, .cell (.val (.ref PD))) :: own) (RetQ Q) := by
  have hh := H.hnd
  have g1 := T.g_sound
  have g2 := T.b_len
  have g3 := T.b_all
  have g4 := T.b_range
  have g5 := T.g_pair
  obtain ⟨DO, _, hpt, hdl⟩ := dps_ok O
  have S := srt_ok O
  have hnl : (srt ps).length = (dps ps).length := S.perm.length_eq
  have hpl : (pairsTo ps).length = (dps ps).length := by rw [hpt, List.length_map]
  have hwl : (headK (dps ps).length ++ wrdsK (srt ps)).length = 4 + 3 * (dps ps).length := by rw [List.length_append, wrdsK_len, hnl]; rfl
  refine SS_cons ?_
  repeat' tb_start
  all_goals (try omega)
  refine sound_ok T (H.lv.le (by omega)) (n := (dps ps).length) (m := 6) (by omega) (by omega) ?_
  repeat' tb_start
  all_goals (try omega)
  rotate_left
  · refine H_len (dhI _) (es := pairsTo ps) (by show Kn x _ (PD, .dictTI _); tb_rel) (by rw [hpl]; omega) ?_
    rw [hpl]
    repeat' tb_start
    · rename_i h9
      exact absurd rfl h9
    refine E_lmap2 H [("rest", cK), ("pairs", cP)] ["range", "_law_pair"] (closure2 (by rfl) cPl cKl) (by rfl) (by decide +kernel) (by decide +kernel) (by decide) (by decide +kernel) (by decide +kernel) (by decide) (by decide) (fun y hy => by
      simp only [List.mem_cons, List.not_mem_nil, or_false] at hy
      rcases hy with rfl | rfl
      · exact ⟨Ce.glo (by decide +kernel), by decide +kernel⟩
      · exact ⟨Ce.glo (by decide +kernel), by decide +kernel⟩) ?_
    repeat' tb_start
    refine ⟨_, _, _, id, 8, fun _ _ => .val (.bool true), Itb.range1 (a := 0) (b := 8) hh (.inl (.head _)) (by omega) (by omega), by rw [List.length_map, List.length_range]; decide, by decide, fun b hb => ?_, fun cenv own2 hc hf => ?_, fun b hb jj hj cenv hc hf => ?_, fun D => ?_⟩
    · obtain ⟨i, hi, rfl⟩ := List.mem_map.mp hb
      trivial
    · repeat' tb_start
      exact ⟨_, rfl, rfl⟩
    · obtain ⟨i, hi, rfl⟩ := List.mem_map.mp hb
      have hi := List.mem_range.mp hi
      have hi : i < 8 := hi
      have kK' := hc.cell H.kind (by decide +kernel) kK
      have cK' : cenv.cells.lookup ("rest" : Str) = some cK := by rw [hc.cells]; rfl
      have kP' := hc.cell H.kind (by decide +kernel) kP
      have cP' : cenv.cells.lookup ("pairs" : Str) = some cP := by rw [hc.cells]; rfl
      have k1' : Kn (wr x x.ro) own _ := k1
      have k2' : Kn (wr x x.ro) own _ := k2
      repeat' tb_start
      refine pair_ok T (hf.lv.le (by omega)) O (by tb_rel) (by omega) (by omega) ?_
      repeat' tb_start
      refine and_l (AVTy.dictH (dhI _) (es := pairsTo ps) (by show Kn _ _ (PD, .dictTI _); tb_rel)) ?_
      repeat' tb_start
      refine H_get1 (dhI _) (es := pairsTo ps) (k := [0 + (i : Int), (jj : Int)]) hf.lv (by show Kn _ _ (PD, .dictTI _); tb_rel) ?_
      rw [hpt]
      rcases lookI_or (dps ps) [0 + (i : Int), (jj : Int)] with e | ⟨v, e⟩
      · rw [e]
        refine C_nn ?_
        exact ⟨rfl, _, by tb_rel⟩
      · rw [e]
        show WC _ _ _ (.int v) (.int v) _ _
        repeat' tb_start
        · exact ⟨rfl, _, by tb_rel⟩
        · rename_i h9
          exact absurd rfl h9
    · dsimp only [id_eq]
      repeat' tb_start
      refine C_all hh (l := D) (bs := List.replicate 64 true) (.inl (.head _)) ?_
      exact Nx.r (RetQ.r (o := []) q (List.nil_sublist _))
end
section
theorem pairsTo_len (ps : List Pr) : (pairsTo ps).length ≤ ps.length := by
  unfold pairsTo
  suffices ∀ es : List (List Int × AV), (ps.foldl (fun es p => putK es [p.1, p.2.1] (.int p.2.2)) es).length ≤ es.length + ps.length by simpa using this []
  induction ps with
  | nil => intro es; simp
  | cons p r ih =>
    intro es
    have h1 := ih (putK es [p.1, p.2.1] (.int p.2.2))
    have h2 := putK_length es [p.1, p.2.1] (.int p.2.2)
    show (r.foldl _ (putK es _ _)).length ≤ _
    simp only [List.length_cons]; omega
theorem kbytes_in {ps : List Pr} (O : PrOk ps) (b : Bool) : ∀ n ∈ hdK b ++ bdK ps, 0 ≤ n ∧ n < 256 := fun n hn => by
  have hl := O.len
  have hr : ∀ n ∈ rowOf ps, 0 ≤ n ∧ n < 256 := fun n hn => by
    obtain ⟨p, hp, hb⟩ := List.mem_flatMap.mp hn
    have := O.each p hp
    simp only [List.mem_cons, List.not_mem_nil, or_false] at hb
    omega
  rcases List.mem_append.mp hn with h | h
  · cases b
    · have h : n ∈ ([0, 0, 0, 0, 0, 1] : List Int) := h
      simp only [List.mem_cons, List.not_mem_nil, or_false] at h
      omega
    · have h : n ∈ ([0, 0, 0, 0, 1, 0, 0, 0] : List Int) := h
      simp only [List.mem_cons, List.not_mem_nil, or_false] at h
      omega
  · rcases List.mem_append.mp h with h | h
    · simp only [List.mem_cons, List.not_mem_nil, or_false] at h
      omega
    · exact hr n h
theorem kbytes_len {ps : List Pr} (O : PrOk ps) (b : Bool) : (hdK b ++ bdK ps).length ≤ 100 := by
  have hl := O.len
  have h1 := rowOf_len ps
  unfold bdK
  rw [List.length_append, List.length_append, h1]
  cases b
  · show 6 + (8 + _) ≤ _; omega
  · show 8 + (8 + _) ≤ _; omega
theorem law_kern {x : Cx} (T : Top x.K x.h₀) {P : Addr} (TB : TabOk x 257 P) (B : BiOk x) (hbad : x.bad = []) {A' : Around} {env : Env} (H : Fm 5 A' env ["script", "state", "font", "code", "k", "glyph", "j", "one", "table", "octets", "words", "near", "again", "row", "left", "right", "value", "apple", "kern"] ["_law_names", "TTFont", "_law_next", "range", "filled", "cmap_format_4", "_law_words", "sorted", "_law_glyph", "_law_sound", "getSearchRange", "KernTable_format_0", "bytes", "len", "all"]) {Q : AV → Own → Prop} {f fd ol sa sx cK cP cC cN : Addr} {es : List (Str × AV)} {xs : List Int} {i : Nat} {r : Own} {r' : Addr → Own} {w0 w3 w4 w5 w6 w7 w8 w9 w10 w11 w12 w13 w14 w15 w16 w17 w18 u2 u3 u4 : AV}
    (hxl : xs.length < 1000) (hi : i < 1000) (kK : env.kindOf "rest" = some .cell) (cKl : env.cells.lookup ("rest" : Str) = some cK) (kP : env.kindOf "pairs" = some .cell) (cPl : env.cells.lookup ("pairs" : Str) = some cP)
    (RV : RevOk x f r r') (k1 : Kn x r (f, .inst 127 fd)) (k2 : Kn x r (fd, .attrs es)) (he : es.lookup ("glyphOrder" : Str) = some (.val (.ref ol))) (hno : es.lookup ("getGlyphOrder" : Str) = none) (hno2 : es.lookup ("getReverseGlyphMap" : Str) = none) (k3 : Kn x r (ol, .list namesL)) (k4 : Kn x r (sx, .list (xs.map .int))) (q : Q (.val (.bool true)) []) :
    WS x A' (execs ((bodyOf (stm 25)).drop 15) env) ((env.locals, .ns ["script", "state", "font", "code", "k", "glyph", "j", "one", "table", "octets", "words", "near", "again", "row", "left", "right", "value", "apple", "kern"] [w0, .val (.ref sa), .val (.ref f), w3, w4, w5, w6, w7, w8, w9, w10, w11, w12, w13, w14, w15, w16, w17, w18]) :: (cK, .cell .any) :: (cP, .cell u2) :: (cC, .cell u3) :: (cN, .cell u4) :: (sa, .list [.val (.ref sx), .int ((i : Nat) : Int)]) :: r) (RetQ Q) := by
  have hh := H.hnd
  have g1 := T.g_next
  have g2 := T.b_range
  have g3 := T.b_bytes
  have g4 := T.b_len
  have g5 := T.g_kern
  have g6 := T.g_words
  have cc := T.c_kern
  have md := T.m_kdec
  have mc := T.m_kcom
  refine SS_cons ?_
  repeat' tb_start
  refine H_new (dhI _) fun PD => ?_
  repeat' tb_start
  refine N_forRp H ?_
  repeat' tb_start
  refine next_ok T (H.lv.le (by omega)) (ax := sx) (xs := xs) (i := i) (lim := 13) (by omega) (by omega) (by omega) (by tb_rel) ?_ (by tb_rel) ?_
  · tb_rel
  have hv := nextVal_in xs i (lim := 13) (by omega)
  generalize nextVal xs i 13 = np at hv
  repeat' tb_start
  rename_i R0
  refine ⟨R0, 0, np, fun k o => ∃ (ps : List Pr) (RW : Addr) (v4 v14 v15 v16 : AV), (∀ p ∈ ps, (0 ≤ p.1 ∧ p.1 < 8) ∧ (0 ≤ p.2.1 ∧ p.2.1 < 8) ∧ -200 ≤ p.2.2 ∧ p.2.2 ≤ 200) ∧ ps.length = k ∧ o = (R0, .rng 0 np 1) :: (RW, .list ((rowOf ps).map .int)) :: (PD, .dictTI (pairsTo ps)) :: (env.locals, .ns ["script", "state", "font", "code", "k", "glyph", "j", "one", "table", "octets", "words", "near", "again", "row", "left", "right", "value", "apple", "kern"] [w0, .val (.ref sa), .val (.ref f), w3, v4, w5, w6, w7, w8, w9, w10, w11, w12, .val (.ref RW), v14, v15, v16, w17, w18]) :: (cK, .cell .any) :: (cP, .cell (.val (.ref PD))) :: (cC, .cell u3) :: (cN, .cell u4) :: (sa, .list [.val (.ref sx), .int ((i + 1 + 3 * k : Nat) : Int)]) :: r, rfl, .inl (.head _), by omega, ⟨[], _, _, _, _, _, fun p hp => (nomatch hp), rfl, rfl⟩, ?_, ?_⟩
  · rintro k _ hk ⟨ps, RW, v4, v14, v15, v16, hb, hlen, rfl⟩
    have hk : k < 13 := by omega
    repeat' tb_start
    refine next_ok T (H.lv.le (by omega)) (ax := sx) (xs := xs) (i := i + 1 + 3 * k) (lim := 8) (by omega) (by omega) (by omega) (by tb_rel) ?_ (by tb_rel) ?_
    · tb_rel
    have hlv := nextVal_in xs (i + 1 + 3 * k) (lim := 8) (by omega)
    generalize nextVal xs (i + 1 + 3 * k) 8 = lv at hlv
    repeat' tb_start
    refine next_ok T (H.lv.le (by omega)) (ax := sx) (xs := xs) (i := i + 1 + 3 * k + 1) (lim := 8) (by omega) (by omega) (by omega) (by tb_rel) ?_ (by tb_rel) ?_
    · tb_rel
    have hrv := nextVal_in xs (i + 1 + 3 * k + 1) (lim := 8) (by omega)
    generalize nextVal xs (i + 1 + 3 * k + 1) 8 = rv at hrv
    repeat' tb_start
    refine next_ok T (H.lv.le (by omega)) (ax := sx) (xs := xs) (i := i + 1 + 3 * k + 1 + 1) (lim := 401) (by omega) (by omega) (by omega) (by tb_rel) ?_ (by tb_rel) ?_
    · tb_rel
    have hvv := nextVal_in xs (i + 1 + 3 * k + 1 + 1) (lim := 401) (by omega)
    generalize nextVal xs (i + 1 + 3 * k + 1 + 1) 401 = vv at hvv
    repeat' tb_start
    have ek : putK (pairsTo ps) [lv, rv] (.int (vv - 200)) = pairsTo (ps ++ [(lv, rv, vv - 200)]) := (pairsTo_snoc ps (lv, rv, vv - 200)).symm
    refine H_set (dhI _) (es := pairsTo ps) (k := [lv, rv]) (a := .int (vv - 200)) H.lv (by have := pairsTo_len ps; omega) (by rw [ek]; show Upd _ (.dictTI _) (.dictTI _) _ _; tb_rel) ?_
    repeat' tb_start
    all_goals (try omega)
    · rw [List.length_map, rowOf_len]; simp only [List.length_cons, List.length_nil]; omega
    · have er : (rowOf ps).map AV.int ++ [.int 0, .int lv, .int 0, .int rv, .int ((vv - 200) % 65536 / 256), .int ((vv - 200) % 256)] = (rowOf (ps ++ [(lv, rv, vv - 200)])).map .int := by unfold rowOf; rw [List.flatMap_append, List.map_append]; rfl
      rw [er]
      exact Gp.mk1 (p := (R0, .rng 0 np 1)) (.s (.s .z)) (.cons_cons _ (.cons_cons _ (.cons _ (.cons _ (List.Sublist.refl _))))) ⟨ps ++ [(lv, rv, vv - 200)], _, _, _, _, _, fun p hp => by
        rcases List.mem_append.mp hp with hp | hp
        · exact hb p hp
        · rw [List.mem_singleton.mp hp]; exact ⟨hlv, hrv, by show -200 ≤ vv - 200 ∧ vv - 200 ≤ 200; omega⟩, by rw [List.length_append, hlen]; rfl, rfl⟩
  · rintro _ ⟨ps, RW, v4, v14, v15, v16, hb, hlen, rfl⟩
    have O : PrOk ps := ⟨hb, by omega⟩
    have hkn : (np - 0).toNat < 13 := by omega
    refine Nx.nx ?_
    refine SS_cons ?_
    refine WS.join (fun o => ∃ b : Bool, o = (R0, .rng 0 np 1) :: (RW, .list ((rowOf ps).map .int)) :: (PD, .dictTI (pairsTo ps)) :: (env.locals, .ns ["script", "state", "font", "code", "k", "glyph", "j", "one", "table", "octets", "words", "near", "again", "row", "left", "right", "value", "apple", "kern"] [w0, .val (.ref sa), .val (.ref f), w3, v4, w5, w6, w7, w8, w9, w10, w11, w12, .val (.ref RW), v14, v15, v16, .val (.bool b), w18]) :: (cK, .cell .any) :: (cP, .cell (.val (.ref PD))) :: (cC, .cell u3) :: (cN, .cell u4) :: (sa, .list [.val (.ref sx), .int ((i + 1 + 3 * (np - 0).toNat + 1 : Nat) : Int)]) :: r) ?_ ?_
    · repeat' tb_start
      refine next_ok T (H.lv.le (by omega)) (ax := sx) (xs := xs) (i := i + 1 + 3 * (np - 0).toNat) (lim := 2) (by omega) (by omega) (by omega) (by tb_rel) ?_ (by tb_rel) ?_
      · tb_rel
      have hav := nextVal_in xs (i + 1 + 3 * (np - 0).toNat) (lim := 2) (by omega)
      generalize nextVal xs (i + 1 + 3 * (np - 0).toNat) 2 = av at hav
      repeat' tb_start
      · exact ⟨true, rfl⟩
      · exact ⟨false, rfl⟩
    · rintro _ ⟨b, rfl⟩
      refine Nx.nx ?_
      refine SS_cons ?_
      repeat' tb_start
      refine kern_make T (H.lv.le (by omega)) fun a d => ?_
      have hrl := rowOf_len ps
      have hlps := O.len
      have hrl2 : ((rowOf ps).map AV.int).length = 6 * ps.length := by rw [List.length_map, hrl]
      have hnl : (srt ps).length = (dps ps).length := (srt_ok O).perm.length_eq
      have hdl := (dps_ok O).2.2.2
      have hwl2 : (headK (dps ps).length ++ wrdsK (srt ps)).length = 4 + 3 * (dps ps).length := by rw [List.length_append, wrdsK_len, hnl]; rfl
      cases b
      · repeat' tb_start
        all_goals (try (first | omega | (simp only [List.length_append, List.length_cons, List.length_nil, List.length_map]; omega)))
        rename_i BL
        have eb : [AV.int 0, AV.int 0, AV.int 0, AV.int 0, AV.int 0, AV.int 1] ++ [AV.int 0, AV.int (((rowOf ps).length : Int) / 6), AV.int 0, AV.int 0, AV.int 0, AV.int 0, AV.int 0, AV.int 0] ++ (rowOf ps).map AV.int = (hdK false ++ bdK ps).map .int := by
          unfold bdK
          rw [show ((rowOf ps).length : Int) / 6 = (ps.length : Int) by omega, List.map_append, List.map_append]
          rfl
        rw [eb]
        refine C_bytes (ns := hdK false ++ bdK ps) hh (by tb_rel) (kbytes_in O _) (by have := kbytes_len O false; omega) ?_
        repeat' tb_start
        refine kdec_ok T (H.lv.le (by omega)) (b := false) O (by tb_rel) (by tb_rel) (by tb_rel) he hno (by tb_rel) (fun D => .s (.s (.s (.s (.s .z))))) fun KD => ?_
        repeat' tb_start
        refine kcom_ok T TB B hbad (H.lv.le (by omega)) (b := false) O (RevOk.pre RV [_, _, _, _, _, _, _, _, _, _, _, _, _, _, _]) (by tb_rel) (by tb_rel) (fun D => .inl (List.mem_append_left _ (by tb_rel))) (fun D => .inl (List.mem_append_left _ (by tb_rel))) (by tb_rel) (by tb_rel) hno2 fun D hdx hhd => ?_
        dsimp only [List.cons_append, List.nil_append]
        repeat' tb_start
        refine ⟨_, rfl, ?_⟩
        repeat' tb_start
        · rw [List.length_append, flat_be2_len, hwl2, hhd]; simp only [Bool.false_eq_true, if_false, if_true]; omega
        rw [pickF _ (by omega), show (hdx ++ (headK (dps ps).length ++ wrdsK (srt ps)).flatMap be2).drop (6 : Int).toNat = (headK (dps ps).length ++ wrdsK (srt ps)).flatMap be2 from List.drop_left' (hhd.trans (by simp))]
        repeat' tb_start
        refine words_ok T (H.lv.le (by omega)) (by rw [flat_be2_len, hwl2]; omega) fun RL => ?_
        rw [words_be2]
        iterate 2 tb_start
        refine WS.pull (p := (cP, .cell (.val (.ref PD)))) (by tb_rel) ?_
        refine WS.pull (p := (cK, .cell (.val (.ref RL)))) (by tb_rel) ?_
        refine WS.pull (p := (env.locals, .ns ["script", "state", "font", "code", "k", "glyph", "j", "one", "table", "octets", "words", "near", "again", "row", "left", "right", "value", "apple", "kern"] _)) (by tb_rel) ?_
        exact law_end T H O kK cKl kP cPl (by tb_rel) (by tb_rel) q
      · repeat' tb_start
        all_goals (try (first | omega | (simp only [List.length_append, List.length_cons, List.length_nil, List.length_map]; omega)))
        rename_i BL
        have eb : [AV.int 0, AV.int 0, AV.int 0, AV.int 0, AV.int 1, AV.int 0, AV.int 0, AV.int 0] ++ [AV.int 0, AV.int (((rowOf ps).length : Int) / 6), AV.int 0, AV.int 0, AV.int 0, AV.int 0, AV.int 0, AV.int 0] ++ (rowOf ps).map AV.int = (hdK true ++ bdK ps).map .int := by
          unfold bdK
          rw [show ((rowOf ps).length : Int) / 6 = (ps.length : Int) by omega, List.map_append, List.map_append]
          rfl
        rw [eb]
        refine C_bytes (ns := hdK true ++ bdK ps) hh (by tb_rel) (kbytes_in O _) (by have := kbytes_len O true; omega) ?_
        repeat' tb_start
        refine kdec_ok T (H.lv.le (by omega)) (b := true) O (by tb_rel) (by tb_rel) (by tb_rel) he hno (by tb_rel) (fun D => .s (.s (.s (.s (.s .z))))) fun KD => ?_
        repeat' tb_start
        refine kcom_ok T TB B hbad (H.lv.le (by omega)) (b := true) O (RevOk.pre RV [_, _, _, _, _, _, _, _, _, _, _, _, _, _, _]) (by tb_rel) (by tb_rel) (fun D => .inl (List.mem_append_left _ (by tb_rel))) (fun D => .inl (List.mem_append_left _ (by tb_rel))) (by tb_rel) (by tb_rel) hno2 fun D hdx hhd => ?_
        dsimp only [List.cons_append, List.nil_append]
        repeat' tb_start
        refine ⟨_, rfl, ?_⟩
        repeat' tb_start
        · rw [List.length_append, flat_be2_len, hwl2, hhd]; simp only [Bool.false_eq_true, if_false, if_true]; omega
        rw [pickF _ (by omega), show (hdx ++ (headK (dps ps).length ++ wrdsK (srt ps)).flatMap be2).drop (8 : Int).toNat = (headK (dps ps).length ++ wrdsK (srt ps)).flatMap be2 from List.drop_left' (hhd.trans (by simp))]
        repeat' tb_start
        refine words_ok T (H.lv.le (by omega)) (by rw [flat_be2_len, hwl2]; omega) fun RL => ?_
        rw [words_be2]
        iterate 2 tb_start
        refine WS.pull (p := (cP, .cell (.val (.ref PD)))) (by tb_rel) ?_
        refine WS.pull (p := (cK, .cell (.val (.ref RL)))) (by tb_rel) ?_
        refine WS.pull (p := (env.locals, .ns ["script", "state", "font", "code", "k", "glyph", "j", "one", "table", "octets", "words", "near", "again", "row", "left", "right", "value", "apple", "kern"] _)) (by tb_rel) ?_
        exact law_end T H O kK cKl kP cPl (by tb_rel) (by tb_rel) q
end
section
theorem get_val {cs : List (Int × Int)} (c : Int) : (lookK (intsOf cs) c).getD (.int 0) = .int (valOf cs c) := by
  unfold intsOf valOf
  rw [look_map fun v => .int v]
  cases cs.find? (fun p => p.1 = c) <;> rfl
theorem W_small {cs : List (Int × Int)} {W : List Int} (C : CsOk cs) (F : Fmt4 cs W) : W.length < 2000 := by
  obtain ⟨segs, ds, os, gia, hW, G, I⟩ := F.ex
  have hs := segs_small C G
  have hgl := I.gl
  rw [List.take_length] at hgl
  have hfl : (flat segs).length < 64 := by rw [G.flat]; unfold keysOf; rw [List.length_map]; exact C.len
  have hb := bodyW_len I
  rw [hW, List.length_append, hb, show (headW (segs.length + 1) _).length = 7 from rfl]
  omega
theorem W_head {cs : List (Int × Int)} {W : List Int} (C : CsOk cs) (F : Fmt4 cs W) : ∃ n : Nat, n < 100 ∧ 7 ≤ W.length ∧ W.getD 3 0 = ((2 * n : Nat) : Int) ∧ W.getD 4 0 = ((2 ^ lg n * 2 : Nat) : Int) ∧ W.getD 5 0 = ((lg n : Nat) : Int) ∧ W.getD 6 0 = max 0 (((n * 2 : Nat) : Int) - ((2 ^ lg n * 2 : Nat) : Int)) := by
  obtain ⟨segs, ds, os, gia, hW, G, I⟩ := F.ex
  have hs := segs_small C G
  refine ⟨segs.length + 1, by omega, ?_, ?_, ?_, ?_, ?_⟩
  · rw [hW, List.length_append, show (headW (segs.length + 1) _).length = 7 from rfl]; omega
  · rw [hW]; rfl
  · rw [hW]; rfl
  · rw [hW]; rfl
  · rw [hW]; rfl
theorem valOf_far {cs : List (Int × Int)} (C : CsOk cs) {c : Int} (h : 60000 < c) : valOf cs c = 0 := valOf_none fun hm => by
  have := (C.key_in hm).2; omega
theorem near3 {c : Int} {k : Nat} {a : AV} (h : ([.int (c - 1), .int c, .int (c + 1)] : List AV)[k]? = some a) : ∃ e, (c - 1 ≤ e ∧ e ≤ c + 1) ∧ a = .int e := by
  have hm := List.mem_of_getElem? h
  simp only [List.mem_cons, List.not_mem_nil, or_false] at hm
  rcases hm with rfl | rfl | rfl
  · exact ⟨_, by omega, rfl⟩
  · exact ⟨_, by omega, rfl⟩
  · exact ⟨_, by omega, rfl⟩
theorem look_self {cs : List (Int × Int)} (C : CsOk cs) {e : Int × Str} (he : e ∈ cs.map fun p => (p.1, gname p.2)) : lookK (cs.map fun p => (p.1, gname p.2)) e.1 = some e.2 := by
  obtain ⟨p, hp, rfl⟩ := List.mem_map.mp he
  unfold lookK
  rw [List.find?_map, Option.map_map]
  show (cs.find? fun q => decide (q.1 = p.1)).map _ = _
  rw [find_of C.nodup hp]; rfl
theorem law_mid {x : Cx} (T : Top x.K x.h₀) {P P2 : Addr} (TB : TabOk x 257 P) (TB2 : TabOk x 213 P2) (B : BiOk x) (hbad : x.bad = []) {A' : Around} {env : Env} (H : Fm 5 A' env ["script", "state", "font", "code", "k", "glyph", "j", "one", "table", "octets", "words", "near", "again", "row", "left", "right", "value", "apple", "kern"] ["_law_names", "TTFont", "_law_next", "range", "filled", "cmap_format_4", "_law_words", "sorted", "_law_glyph", "_law_sound", "getSearchRange", "KernTable_format_0", "bytes", "len", "all"]) {Q : AV → Own → Prop} {f fd ol sa sx cK cP cC cN tb td cm CD : Addr} {es : List (Str × AV)} {cs : List (Int × Int)} {W : List Int} {xs : List Int} {i : Nat} {r : Own} {r' : Addr → Own} {w0 w3 w4 w5 w6 w7 w10 w11 w12 w13 w14 w15 w16 w17 w18 u4 : AV}
    (C : CsOk cs) (F : Fmt4 cs W) (hxl : xs.length < 1000) (hi : i < 1000) (kK : env.kindOf "rest" = some .cell) (cKl : env.cells.lookup ("rest" : Str) = some cK) (kP : env.kindOf "pairs" = some .cell) (cPl : env.cells.lookup ("pairs" : Str) = some cP) (kC : env.kindOf "codes" = some .cell) (cCl : env.cells.lookup ("codes" : Str) = some cC)
    (RV : RevOk x f ((CD, .dictI (intsOf cs)) :: r) r') (k1 : Kn x r (f, .inst 127 fd)) (k2 : Kn x r (fd, .attrs es)) (he : es.lookup ("glyphOrder" : Str) = some (.val (.ref ol))) (hno : es.lookup ("getGlyphOrder" : Str) = none) (hno2 : es.lookup ("getReverseGlyphMap" : Str) = none) (hno3 : es.lookup ("getGlyphNameMany" : Str) = none) (k3 : Kn x r (ol, .list namesL)) (k4 : Kn x r (sx, .list (xs.map .int)))
    (k5 : Kn x r (tb, .inst 222 td)) (k6 : Kn x r (td, .attrs (attrsL 4 (.int 0) (.val (.ref cm)) (.val .none)))) (k7 : Kn x r (cm, .dictI (namesOf cs))) (q : Q (.val (.bool true)) []) :
    WS x A' (execs ((bodyOf (stm 25)).drop 8) env) ((env.locals, .ns ["script", "state", "font", "code", "k", "glyph", "j", "one", "table", "octets", "words", "near", "again", "row", "left", "right", "value", "apple", "kern"] [w0, .val (.ref sa), .val (.ref f), w3, w4, w5, w6, w7, .val (.ref tb), .byt (W.flatMap be2), w10, w11, w12, w13, w14, w15, w16, w17, w18]) :: (cK, .cell .any) :: (cP, .cell .any) :: (cC, .cell (.val (.ref CD))) :: (cN, .cell u4) :: (sa, .list [.val (.ref sx), .int ((i : Nat) : Int)]) :: (CD, .dictI (intsOf cs)) :: r) (RetQ Q) := by
  have hh := H.hnd
  have g1 := T.g_glyph
  have g2 := T.b_sorted
  have g3 := T.g_sound
  have g4 := T.g_gsr
  have g5 := T.g_cmap4
  have g6 := T.g_words
  have g7 := T.g_filled
  have cc := T.c_cmap
  have md := T.m_cdec
  have o1 := T.o_cmap "cmap" (by tb_rel)
  have hWl := W_small C F
  obtain ⟨n, hn, hW7, w3e, w4e, w5e, w6e⟩ := W_head C F
  have hlen := C.len
  refine SS_cons ?_
  repeat' tb_start
  refine words_ok T (H.lv.le (by omega)) (by rw [flat_be2_len]; omega) fun WL => ?_
  rw [words_be2]
  repeat' tb_start
  refine N_forLg H ?_
  repeat' tb_start
  refine D_sorted (es := intsOf cs) hh (by tb_rel) (by unfold intsOf; rw [List.length_map]; exact hlen) fun L => ?_
  have eS : sortI ((intsOf cs).map (·.1)) = keysOf cs := by
    have : (intsOf cs).map (·.1) = keysOf cs := by unfold intsOf keysOf; rw [List.map_map]; rfl
    rw [this]; exact C.sorted
  rw [eS]
  refine ⟨L, (keysOf cs).map .int, _, fun k o => ∃ (v7 v11 : AV), o = (WL, .list (W.map .int)) :: (env.locals, .ns ["script", "state", "font", "code", "k", "glyph", "j", "one", "table", "octets", "words", "near", "again", "row", "left", "right", "value", "apple", "kern"] [w0, .val (.ref sa), .val (.ref f), w3, w4, w5, w6, v7, .val (.ref tb), .byt (W.flatMap be2), .val (.ref WL), v11, w12, w13, w14, w15, w16, w17, w18]) :: (cK, .cell .any) :: (cP, .cell .any) :: (cC, .cell (.val (.ref CD))) :: (cN, .cell u4) :: (sa, .list [.val (.ref sx), .int ((i : Nat) : Int)]) :: (CD, .dictI (intsOf cs)) :: r, rfl, .z, ⟨_, _, rfl⟩, ?_, ?_⟩
  · rintro k _ _ hka ⟨v7, v11, rfl⟩
    rw [List.getElem?_map] at hka
    obtain ⟨c, hc, rfl⟩ := Option.map_eq_some_iff.mp hka
    have hck := C.key_in (List.mem_of_getElem? hc)
    repeat' tb_start
    refine N_forL H ?_
    repeat' tb_start
    rename_i NL
    refine ⟨NL, [.int (c - 1), .int c, .int (c + 1)], _, fun k o => ∃ (v11 : AV), o = (WL, .list (W.map .int)) :: (env.locals, .ns ["script", "state", "font", "code", "k", "glyph", "j", "one", "table", "octets", "words", "near", "again", "row", "left", "right", "value", "apple", "kern"] [w0, .val (.ref sa), .val (.ref f), w3, w4, w5, w6, .int c, .val (.ref tb), .byt (W.flatMap be2), .val (.ref WL), v11, w12, w13, w14, w15, w16, w17, w18]) :: (cK, .cell .any) :: (cP, .cell .any) :: (cC, .cell (.val (.ref CD))) :: (cN, .cell u4) :: (sa, .list [.val (.ref sx), .int ((i : Nat) : Int)]) :: (CD, .dictI (intsOf cs)) :: r, rfl, .z, ⟨_, rfl⟩, ?_, ?_⟩
    · rintro k2 _ _ hkb ⟨v11, rfl⟩
      obtain ⟨e, ⟨he0, he1⟩, rfl⟩ := near3 hkb
      repeat' tb_start
      · have Tw : Top (wr (wr x ((L, .list ((keysOf cs).map .int)) :: x.ro)) ((NL, .list [.int (c - 1), .int c, .int (c + 1)]) :: (L, .list ((keysOf cs).map .int)) :: x.ro)).K (wr (wr x ((L, .list ((keysOf cs).map .int)) :: x.ro)) ((NL, .list [.int (c - 1), .int c, .int (c + 1)]) :: (L, .list ((keysOf cs).map .int)) :: x.ro)).h₀ := T
        refine glyph_ok Tw (H.lv.le (by omega)) C F (by tb_rel) (by omega) (by omega) ?_
        repeat' tb_start
        refine D_get2 (dkI _) (es := intsOf cs) (by show Kn _ _ (CD, .dictI _); tb_rel) ?_
        rw [get_val]
        repeat' tb_start
        · rename_i h9
          exact absurd rfl h9
        · exact ⟨_, rfl⟩
      · exact ⟨_, rfl⟩
    · rintro _ ⟨v11, rfl⟩
      repeat' tb_start
      exact Gb.mk (.cons _ (List.Sublist.refl _)) ⟨_, _, rfl⟩
  · rintro _ ⟨v7, v11, rfl⟩
    repeat' tb_start
    refine glyph_ok T (H.lv.le (by omega)) C F (by tb_rel) (by omega) (by omega) ?_
    repeat' tb_start
    refine D_get2 (dkI _) (es := intsOf cs) (by show Kn _ _ (CD, .dictI _); tb_rel) ?_
    rw [get_val]
    repeat' tb_start
    · rename_i h9
      exact absurd rfl h9
    refine glyph_ok T (H.lv.le (by omega)) C F (by tb_rel) (by omega) (by omega) ?_
    rw [valOf_far C (by omega)]
    repeat' tb_start
    · rename_i h9
      exact absurd rfl h9
    refine glyph_ok T (H.lv.le (by omega)) C F (by tb_rel) (by omega) (by omega) ?_
    rw [valOf_far C (by omega)]
    repeat' tb_start
    · rename_i h9
      exact absurd rfl h9
    all_goals (try omega)
    have hlg : lg n ≤ 20 := lg_le (by omega)
    rw [show Int.toNat 4 = 4 from rfl, show Int.toNat 5 = 5 from rfl, show Int.toNat 6 = 6 from rfl, show Int.toNat 3 = 3 from rfl, w3e, w4e, w5e, w6e, show ((2 * n : Nat) : Int) / 2 = (n : Int) by omega]
    refine sound_ok T (H.lv.le (by omega)) (n := n) (m := 2) (by omega) (by omega) ?_
    repeat' tb_start
    all_goals (try omega)
    rw [show Int.toNat 3 = 3 from rfl, w3e, show ((2 * n : Nat) : Int) / 2 = (n : Int) by omega]
    refine gsr_ok T (H.lv.le (by omega)) (n := n) (m := 2) (by omega) (by omega) ?_
    repeat' tb_start
    all_goals (try omega)
    rw [show Int.toNat 4 = 4 from rfl, show Int.toNat 5 = 5 from rfl, show Int.toNat 6 = 6 from rfl, w4e, w5e, w6e]
    refine C_tne (a := [((2 ^ lg n * 2 : Nat) : Int), (lg n : Nat), max 0 (((n * 2 : Nat) : Int) - ((2 ^ lg n * 2 : Nat) : Int))]) (b := [((2 ^ lg n * 2 : Nat) : Int), (lg n : Nat), max 0 (((n * 2 : Nat) : Int) - ((2 ^ lg n * 2 : Nat) : Int))]) H.lv (fun h9 => absurd rfl h9) (fun _ => ?_)
    repeat' tb_start
    refine cmap_make T (H.lv.le (by omega)) fun ag ad => ?_
    repeat' tb_start
    refine filled_ok T (H.lv.le (by omega)) (cm := .none) trivial (by tb_rel) (by tb_rel) ?_
    repeat' tb_start
    refine cdec_ok T TB2 B (H.lv.le (by omega)) C F (by tb_rel) (by tb_rel) (by tb_rel) he hno hno3 (fun e9 => by
      have h9 : (attrsL 4 (.int 0) (.val .none) (.val .none)).lookup ("glyphOrder" : Str) = none := by with_unfolding_all rfl
      rw [e9, h9] at he; cases he) (by tb_rel) (fun D => .s .z) fun D2 => ?_
    refine Nx.nx ?_
    refine SS_cons ?_
    refine WS.cut ?_
    repeat' tb_start
    have en : ((cs.map fun p => (p.1, gname p.2)).map fun e => (e.1, AV.str e.2)) = namesOf cs := by unfold namesOf; rw [List.map_map]; rfl
    refine C_dne (es := cs.map fun p => (p.1, gname p.2)) (ds := cs.map fun p => (p.1, gname p.2)) H.lv (by rw [en]; tb_rel) (by rw [en]; tb_rel) rfl (fun e he9 => look_self C he9) ?_
    repeat' tb_start
    refine CutQ.i (Nx.nx ?_)
    refine WS.sub (law_kern T TB B hbad H hxl hi kK cKl kP cPl RV k1.tail k2.tail he hno hno2 k3.tail k4.tail q) (by tb_rel)
end
section
def fkI : AV → Int
  | .int k => k
  | _ => 0
def fvI (cs : List (Int × Int)) : AV → AV
  | .int k => .str (gname (valOf cs k))
  | _ => .any
theorem putF_names {cs : List (Int × Int)} (C : CsOk cs) : putF fkI (fvI cs) [] ((intsOf cs).map fun e => .int e.1) = namesOf cs := by
  have e : (intsOf cs).map (fun e => AV.int e.1) = cs.map fun p => .int p.1 := by unfold intsOf; rw [List.map_map]; rfl
  rw [e]
  suffices ∀ n, n ≤ cs.length → putF fkI (fvI cs) [] ((cs.map fun p => AV.int p.1).take n) = namesOf (cs.take n) by
    have h := this cs.length (Nat.le_refl _)
    rw [List.take_length, List.take_of_length_le (by simp)] at h
    exact h
  intro n
  induction n with
  | zero => intro _; rfl
  | succ n ih =>
    intro hn
    obtain ⟨p, hp⟩ : ∃ p, cs[n]? = some p := ⟨_, List.getElem?_eq_getElem (by omega)⟩
    rw [putF_take fkI (fvI cs) [] _ (b := .int p.1) (by rw [List.getElem?_map, hp]; rfl), ih (by omega)]
    show putK (namesOf (cs.take n)) p.1 (.str (gname (valOf cs p.1))) = _
    rw [C.look (List.mem_of_getElem? hp), putK_new, List.take_add_one, hp]
    · unfold namesOf; rw [List.map_append]; rfl
    · unfold namesOf
      rw [List.map_map]
      exact nodup_take C.nodup hp
theorem law_tab {x : Cx} (T : Top x.K x.h₀) {P P2 : Addr} (TB : TabOk x 257 P) (TB2 : TabOk x 213 P2) (B : BiOk x) (hbad : x.bad = []) {A' : Around} {env : Env} (H : Fm 5 A' env ["script", "state", "font", "code", "k", "glyph", "j", "one", "table", "octets", "words", "near", "again", "row", "left", "right", "value", "apple", "kern"] ["_law_names", "TTFont", "_law_next", "range", "filled", "cmap_format_4", "_law_words", "sorted", "_law_glyph", "_law_sound", "getSearchRange", "KernTable_format_0", "bytes", "len", "all"]) {Q : AV → Own → Prop} {f fd ol sa sx cK cP cC cN CD : Addr} {cs : List (Int × Int)} {xs : List Int} {i : Nat} {w0 w3 w4 w5 w6 w7 w8 w9 w10 w11 w12 w13 w14 w15 w16 w17 w18 : AV}
    (C : CsOk cs) (hxl : xs.length < 1000) (hi : i < 1000) (kK : env.kindOf "rest" = some .cell) (cKl : env.cells.lookup ("rest" : Str) = some cK) (kP : env.kindOf "pairs" = some .cell) (cPl : env.cells.lookup ("pairs" : Str) = some cP) (kC : env.kindOf "codes" = some .cell) (cCl : env.cells.lookup ("codes" : Str) = some cC) (kN : env.kindOf "names" = some .cell) (cNl : env.cells.lookup ("names" : Str) = some cN)
    (q : Q (.val (.bool true)) []) :
    WS x A' (execs ((bodyOf (stm 25)).drop 6) env) ((env.locals, .ns ["script", "state", "font", "code", "k", "glyph", "j", "one", "table", "octets", "words", "near", "again", "row", "left", "right", "value", "apple", "kern"] [w0, .val (.ref sa), .val (.ref f), w3, w4, w5, w6, w7, w8, w9, w10, w11, w12, w13, w14, w15, w16, w17, w18]) :: (cK, .cell .any) :: (cP, .cell .any) :: (cC, .cell (.val (.ref CD))) :: (cN, .cell (.val (.ref ol))) :: (sa, .list [.val (.ref sx), .int ((i : Nat) : Int)]) :: (CD, .dictI (intsOf cs)) :: (fd, .attrs (attrsF ol (.val .none))) :: (f, .inst 127 fd) :: (ol, .list namesL) :: (sx, .list (xs.map .int)) :: []) (RetQ Q) := by
  have hh := H.hnd
  have g5 := T.g_cmap4
  have g7 := T.g_filled
  have cc := T.c_cmap
  have md := T.m_ccom
  have hlen := C.len
  have hil : (intsOf cs).length = cs.length := by unfold intsOf; rw [List.length_map]
  refine SS_cons ?_
  repeat' tb_start
  refine cmap_make T (H.lv.le (by omega)) fun tb td => ?_
  repeat' tb_start
  refine E_dmap H (fun x => dkI x) (fun _ _ => rfl) (fun _ _ => rfl) [("names", cN), ("codes", cC)] [] (closure2 (by rfl) cCl cNl) (by rfl) (by decide +kernel) (by decide +kernel) (by decide +kernel) (by decide +kernel) (by simp) ?_
  repeat' tb_start
  refine ⟨_, _, _, _, fkI, fvI cs, Itb.dict (es := intsOf cs) hh (by tb_rel), by rw [List.length_map]; omega, fun b hb => ?_, fun cm => ?_⟩
  · obtain ⟨e, he, rfl⟩ := List.mem_map.mp hb
    refine ⟨trivial, fun cenv hc hf => ?_⟩
    have hke : e.1 ∈ keysOf cs := by
      obtain ⟨p, hp, rfl⟩ := List.mem_map.mp he
      exact List.mem_map_of_mem hp
    have hlook := C.ints hke
    have hvv := valOf_in C hke
    have kN' := hc.cell H.kind (by decide +kernel) kN
    have kC' := hc.cell H.kind (by decide +kernel) kC
    have cN' : cenv.cells.lookup ("names" : Str) = some cN := by rw [hc.cells]; rfl
    have cC' : cenv.cells.lookup ("codes" : Str) = some cC := by rw [hc.cells]; rfl
    repeat' tb_start
    refine ⟨rfl, rfl, ?_⟩
    repeat' tb_start
    refine G_lit (by tb_rel) (by omega) (by omega) (namesL_get (by omega) (by omega)) ?_
    exact ⟨rfl, _, by tb_rel⟩
  · rw [putF_names C]
    repeat' tb_start
    show WO x A' _ _ ((CD, .dictI (intsOf cs)) :: (cm, .dictI (namesOf cs)) :: _) _
    refine filled_ok T (H.lv.le (by omega)) (cm := .ref cm) trivial (by tb_rel) (by tb_rel) ?_
    repeat' tb_start
    by_cases hcs : cs = []
    · have hnm : (cm, AObj.dictI (namesOf cs)) = (cm, AObj.dictI []) := by rw [hcs]; rfl
      refine ccom0_ok T (H.lv.le (by omega)) (cm := cm) (by tb_rel) (by tb_rel) (by rw [← hnm]; tb_rel) fun W F => ?_
      have F : Fmt4 cs W := by rw [hcs]; exact F
      refine N_set H (by tb_rel) (by tb_rel) trivial ?_
      refine Nx.nx ?_
      refine WS.pull (p := (fd, .attrs (attrsF ol (.val .none)))) (by tb_rel) ?_
      refine WS.pull (p := (CD, .dictI (intsOf cs))) (by tb_rel) ?_
      refine WS.pull (p := (sa, .list [.val (.ref sx), .int (i : Int)])) (by tb_rel) ?_
      refine WS.pull (p := (cN, .cell (.val (.ref ol)))) (by tb_rel) ?_
      refine WS.pull (p := (cC, .cell (.val (.ref CD)))) (by tb_rel) ?_
      refine WS.pull (p := (cP, .cell .any)) (by tb_rel) ?_
      refine WS.pull (p := (cK, .cell .any)) (by tb_rel) ?_
      refine WS.pull (p := (env.locals, .ns ["script", "state", "font", "code", "k", "glyph", "j", "one", "table", "octets", "words", "near", "again", "row", "left", "right", "value", "apple", "kern"] _)) (by tb_rel) ?_
      exact law_mid T TB TB2 B hbad H C F hxl hi kK cKl kP cPl kC cCl (RevOk.pre (RevOk.first T (ol := ol) (fd := fd) (by tb_rel) (by tb_rel)) [_]) (es := (attrsF ol (.val .none))) (fd := fd) (ol := ol) (td := td) (cm := cm) (by tb_rel) (by tb_rel) (by with_unfolding_all rfl) (by with_unfolding_all rfl) (by with_unfolding_all rfl) (by with_unfolding_all rfl) (by tb_rel) (by tb_rel) (by tb_rel) (by tb_rel) (by tb_rel) q
    · refine ccom_ok T (H.lv.le (by omega)) C hcs (by tb_rel) (by tb_rel) (by tb_rel) (by tb_rel) (by tb_rel) (fun D => .s (.s (.s (.s (.s (.s (.s (.s (.s (.s .z)))))))))) fun W RD F => ?_
      refine N_set H (by tb_rel) (by tb_rel) trivial ?_
      refine Nx.nx ?_
      refine WS.pull (p := (RD, .dictS revL)) (by tb_rel) ?_
      refine WS.pull (p := (fd, .attrs (attrsF ol (.val (.ref RD))))) (by tb_rel) ?_
      refine WS.pull (p := (CD, .dictI (intsOf cs))) (by tb_rel) ?_
      refine WS.pull (p := (sa, .list [.val (.ref sx), .int (i : Int)])) (by tb_rel) ?_
      refine WS.pull (p := (cN, .cell (.val (.ref ol)))) (by tb_rel) ?_
      refine WS.pull (p := (cC, .cell (.val (.ref CD)))) (by tb_rel) ?_
      refine WS.pull (p := (cP, .cell .any)) (by tb_rel) ?_
      refine WS.pull (p := (cK, .cell .any)) (by tb_rel) ?_
      refine WS.pull (p := (env.locals, .ns ["script", "state", "font", "code", "k", "glyph", "j", "one", "table", "octets", "words", "near", "again", "row", "left", "right", "value", "apple", "kern"] _)) (by tb_rel) ?_
      exact law_mid T TB TB2 B hbad H C F hxl hi kK cKl kP cPl kC cCl (RevOk.pre (RevOk.again T (ol := ol) (fd := fd) (D := RD) (by tb_rel)) [_]) (es := (attrsF ol (.val (.ref RD)))) (fd := fd) (ol := ol) (td := td) (cm := cm) (by tb_rel) (by tb_rel) (by with_unfolding_all rfl) (by with_unfolding_all rfl) (by with_unfolding_all rfl) (by with_unfolding_all rfl) (by tb_rel) (by tb_rel) (by tb_rel) (by tb_rel) (by tb_rel) q
end
section
structure CsI (cs : List (Int × Int)) (cd : Int) (m : Nat) (b : Int) : Prop where
  asc : cs.Pairwise fun a b => a.1 < b.1
  key : ∀ p ∈ cs, 0 ≤ p.1 ∧ p.1 < cd
  val : ∀ p ∈ cs, 1 ≤ p.2 ∧ p.2 < 40
  len : cs.length ≤ m
  c0 : 0 ≤ cd
  cb : cd ≤ b
theorem CsI.put {cs : List (Int × Int)} {cd : Int} {m : Nat} {b v : Int} (I : CsI cs cd m b) (h : 1 ≤ v ∧ v < 40) : putK (intsOf cs) cd (.int v) = intsOf (cs ++ [(cd, v)]) ∧ CsI (cs ++ [(cd, v)]) (cd + 1) (m + 1) (b + 1) := by
  refine ⟨?_, ?_, fun p hp => ?_, fun p hp => ?_, ?_, by have := I.c0; omega, by have := I.cb; omega⟩
  · rw [putK_new]
    · unfold intsOf; rw [List.map_append]; rfl
    · unfold intsOf
      rw [List.map_map]
      intro hm
      obtain ⟨p, hp, e⟩ := List.mem_map.mp hm
      have := I.key p hp
      have e : p.1 = cd := e
      omega
  · rw [List.pairwise_append]
    refine ⟨I.asc, List.pairwise_singleton _ _, fun a ha b hb => ?_⟩
    rw [List.mem_singleton.mp hb]
    exact (I.key a ha).2
  · rcases List.mem_append.mp hp with hp | hp
    · have := I.key p hp; omega
    · rw [List.mem_singleton.mp hp]; have := I.c0; exact ⟨this, by show cd < cd + 1; omega⟩
  · rcases List.mem_append.mp hp with hp | hp
    · exact I.val p hp
    · rw [List.mem_singleton.mp hp]; exact h
  · have := I.len; rw [List.length_append, List.length_singleton]; omega
theorem CsI.skip {cs : List (Int × Int)} {cd s b' : Int} {m m' : Nat} {b : Int} (I : CsI cs cd m b) (h : 0 ≤ s) (hm : m ≤ m') (hb : b + s ≤ b') : CsI cs (cd + s) m' b' :=
  ⟨I.asc, fun p hp => by have := I.key p hp; omega, I.val, by have := I.len; omega, by have := I.c0; omega, by have := I.cb; omega⟩
theorem CsI.up {cs : List (Int × Int)} {cd b' : Int} {m m' : Nat} {b : Int} (I : CsI cs cd m b) (hm : m ≤ m') (hb : b ≤ b') : CsI cs cd m' b' :=
  ⟨I.asc, I.key, I.val, by have := I.len; omega, I.c0, by have := I.cb; omega⟩
theorem pick4 {a b c d : Int} {n : Int} (h : 0 ≤ n ∧ n < 4) : ∃ g : Int, ([.int a, .int b, .int c, .int d] : List AV)[n.toNat]? = some (.int g) ∧ (g = a ∨ g = b ∨ g = c ∨ g = d) := by
  have : n = 0 ∨ n = 1 ∨ n = 2 ∨ n = 3 := by omega
  rcases this with rfl | rfl | rfl | rfl
  · exact ⟨a, rfl, .inl rfl⟩
  · exact ⟨b, rfl, .inr (.inl rfl)⟩
  · exact ⟨c, rfl, .inr (.inr (.inl rfl))⟩
  · exact ⟨d, rfl, .inr (.inr (.inr rfl))⟩
theorem law_ok {x : Cx} (T : Top x.K x.h₀) {P P2 : Addr} (TB : TabOk x 257 P) (TB2 : TabOk x 213 P2) (B : BiOk x) (hbad : x.bad = []) {A : Around} {own : Own} {Q : AV → Own → Prop} (hl : Lv 6 A) {ax : Addr} {zs : List Int} (kx : Kn x own (ax, .list (zs.map .int))) (hz : zs.length < 1000)
    (q : Q (.val (.bool true)) []) : WO x A (callv (.ref 320)) [.val (.ref ax)] own Q := by
  refine enterC ["script", "state", "font", "code", "k", "glyph", "j", "one", "table", "octets", "words", "near", "again", "row", "left", "right", "value", "apple", "kern"] ["_law_names", "TTFont", "_law_next", "range", "filled", "cmap_format_4", "_law_words", "sorted", "_law_glyph", "_law_sound", "getSearchRange", "KernTable_format_0", "bytes", "len", "all"] ["rest", "pairs", "codes", "names"] [.val (.ref ax), .any, .any, .any, .any, .any, .any, .any, .any, .any, .any, .any, .any, .any, .any, .any, .any, .any, .any] [.any, .any, .any, .any] T.f_law hl rfl (by with_unfolding_all rfl) (by with_unfolding_all rfl) (by decide +kernel) (by decide +kernel) (by decide +kernel) (by decide +kernel) (by decide +kernel) (by decide +kernel) (by decide +kernel) fun env A' cs2 H ec hcl hce hck => ?_
  obtain ⟨cK, cP, cC, cN, rfl⟩ : ∃ c1 c2 c3 c4, cs2 = [c1, c2, c3, c4] := by
    match cs2, hcl with
    | [a, b, c, d], _ => exact ⟨a, b, c, d, rfl⟩
  show WS x A' _ ((env.locals, .ns ["script", "state", "font", "code", "k", "glyph", "j", "one", "table", "octets", "words", "near", "again", "row", "left", "right", "value", "apple", "kern"] [.val (.ref ax), .any, .any, .any, .any, .any, .any, .any, .any, .any, .any, .any, .any, .any, .any, .any, .any, .any, .any]) :: (cK, .cell .any) :: (cP, .cell .any) :: (cC, .cell .any) :: (cN, .cell .any) :: own) _
  have hh := H.hnd
  have kK := hck "rest" (.head _)
  have kP := hck "pairs" (.tail _ (.head _))
  have kC := hck "codes" (.tail _ (.tail _ (.head _)))
  have kN := hck "names" (.tail _ (.tail _ (.tail _ (.head _))))
  have cKl : env.cells.lookup ("rest" : Str) = some cK := by rw [hce]; rfl
  have cPl : env.cells.lookup ("pairs" : Str) = some cP := by rw [hce]; rfl
  have cCl : env.cells.lookup ("codes" : Str) = some cC := by rw [hce]; rfl
  have cNl : env.cells.lookup ("names" : Str) = some cN := by rw [hce]; rfl
  have g1 := T.g_names
  have g2 := T.g_font
  have g3 := T.g_next
  have g4 := T.b_range
  refine SS_cons ?_
  repeat' tb_start
  refine ⟨_, rfl, ?_⟩
  repeat' tb_start
  all_goals (try (rw [List.length_map]; omega))
  rename_i sx sa
  have ex : pickL (zs.map AV.int) none (some 60) = (zs.take 60).map .int := by
    rw [pickN _ (by omega), ← List.map_take]; rfl
  rw [ex]
  have hxl : (zs.take 60).length < 1000 := by rw [List.length_take]; omega
  generalize zs.take 60 = xs at hxl
  refine names_ok T (H.lv.le (by omega)) fun ol => ?_
  repeat' tb_start
  refine font_make T (H.lv.le (by omega)) fun f fd => ?_
  repeat' tb_start
  refine D_new (dkI _) fun CD => ?_
  repeat' tb_start
  show WO x A' _ _ ((CD, .dictI (intsOf [])) :: (f, .inst 127 fd) :: (fd, .attrs (attrsF ol (.val .none))) :: (ol, .list namesL) :: (sa, .list [.val (.ref sx), .int ((0 : Nat) : Int)]) :: (sx, .list (xs.map .int)) :: (env.locals, .ns ["script", "state", "font", "code", "k", "glyph", "j", "one", "table", "octets", "words", "near", "again", "row", "left", "right", "value", "apple", "kern"] [.val (.ref ax), .val (.ref sa), .val (.ref f), .any, .any, .any, .any, .any, .any, .any, .any, .any, .any, .any, .any, .any, .any, .any, .any]) :: (cK, .cell .any) :: (cP, .cell .any) :: (cC, .cell (.val (.ref CD))) :: (cN, .cell (.val (.ref ol))) :: own) _
  refine next_ok T (H.lv.le (by omega)) (ax := sx) (xs := xs) (i := 0) (lim := 200) (by omega) (by omega) (by omega) (by tb_rel) ?_ (by tb_rel) ?_
  · tb_rel
  have hcd0 := nextVal_in xs (0) (lim := 200) (by omega)
  generalize nextVal xs (0) 200 = cd0 at hcd0
  repeat' tb_start
  refine N_forRg H ?_
  repeat' tb_start
  refine next_ok T (H.lv.le (by omega)) (ax := sx) (xs := xs) (i := 0 + 1) (lim := 5) (by omega) (by omega) (by omega) (by tb_rel) ?_ (by tb_rel) ?_
  · tb_rel
  have hnp := nextVal_in xs (0 + 1) (lim := 5) (by omega)
  generalize nextVal xs (0 + 1) 5 = np at hnp
  repeat' tb_start
  rename_i R0
  refine ⟨R0, 0, np, fun k o => ∃ (cs : List (Int × Int)) (cd : Int) (i : Nat) (v4 v5 v6 : AV), CsI cs cd (9 * k) (200 + 400 * (k : Int)) ∧ i ≤ 2 + 30 * k ∧ o = (R0, .rng 0 np 1) :: (CD, .dictI (intsOf cs)) :: (f, .inst 127 fd) :: (fd, .attrs (attrsF ol (.val .none))) :: (ol, .list namesL) :: (sa, .list [.val (.ref sx), .int ((i : Nat) : Int)]) :: (sx, .list (xs.map .int)) :: (env.locals, .ns ["script", "state", "font", "code", "k", "glyph", "j", "one", "table", "octets", "words", "near", "again", "row", "left", "right", "value", "apple", "kern"] [.val (.ref ax), .val (.ref sa), .val (.ref f), .int cd, v4, v5, v6, .any, .any, .any, .any, .any, .any, .any, .any, .any, .any, .any, .any]) :: (cK, .cell .any) :: (cP, .cell .any) :: (cC, .cell (.val (.ref CD))) :: (cN, .cell (.val (.ref ol))) :: own, rfl, .inl (.head _), by omega, ⟨[], cd0, 2, _, _, _, ⟨.nil, fun p hp => (nomatch hp), fun p hp => (nomatch hp), Nat.zero_le _, hcd0.1, by omega⟩, by omega, rfl⟩, ?_, ?_⟩
  · rintro k _ hk ⟨cs, cd, i, v4, v5, v6, I, hi, rfl⟩
    have hk : k < 5 := by omega
    repeat' tb_start
    refine next_ok T (H.lv.le (by omega)) (ax := sx) (xs := xs) (i := i) (lim := 39) (by omega) (by omega) (by omega) (by tb_rel) ?_ (by tb_rel) ?_
    · tb_rel
    have hgl0 := nextVal_in xs (i) (lim := 39) (by omega)
    generalize nextVal xs (i) 39 = gl0 at hgl0
    repeat' tb_start
    refine N_forRg H ?_
    repeat' tb_start
    refine next_ok T (H.lv.le (by omega)) (ax := sx) (xs := xs) (i := i + 1) (lim := 9) (by omega) (by omega) (by omega) (by tb_rel) ?_ (by tb_rel) ?_
    · tb_rel
    have hnj := nextVal_in xs (i + 1) (lim := 9) (by omega)
    generalize nextVal xs (i + 1) 9 = nj at hnj
    repeat' tb_start
    rename_i R1
    refine ⟨R1, 0, 1 + nj, fun j o => ∃ (cs : List (Int × Int)) (cd gl : Int) (i' : Nat) (v6 : AV), CsI cs cd (9 * k + j) (200 + 400 * (k : Int) + (j : Int)) ∧ i' ≤ i + 2 + j ∧ o = (R1, .rng 0 (1 + nj) 1) :: (R0, .rng 0 np 1) :: (CD, .dictI (intsOf cs)) :: (f, .inst 127 fd) :: (fd, .attrs (attrsF ol (.val .none))) :: (ol, .list namesL) :: (sa, .list [.val (.ref sx), .int ((i' : Nat) : Int)]) :: (sx, .list (xs.map .int)) :: (env.locals, .ns ["script", "state", "font", "code", "k", "glyph", "j", "one", "table", "octets", "words", "near", "again", "row", "left", "right", "value", "apple", "kern"] [.val (.ref ax), .val (.ref sa), .val (.ref f), .int cd, .int (0 + (k : Int)), .int gl, v6, .any, .any, .any, .any, .any, .any, .any, .any, .any, .any, .any, .any]) :: (cK, .cell .any) :: (cP, .cell .any) :: (cC, .cell (.val (.ref CD))) :: (cN, .cell (.val (.ref ol))) :: own, rfl, .inl (.head _), by omega, ⟨cs, cd, gl0, i + 2, _, I.up (Nat.le_refl _) (by omega), by omega, rfl⟩, ?_, ?_⟩
    · rintro j _ hj ⟨cs, cd, gl, i', v6, I, hi', rfl⟩
      have hj : j < 9 := by omega
      obtain ⟨ep, I2⟩ := I.put (v := 1 + gl % 39) (by omega)
      have hil : (intsOf cs).length = cs.length := by unfold intsOf; rw [List.length_map]
      have hcl2 := I.len
      repeat' tb_start
      all_goals (try omega)
      refine D_setI (es := intsOf cs) (k := cd) (a := .int (1 + gl % 39)) (by omega) (by rw [ep]; tb_rel) ?_
      repeat' tb_start
      all_goals (try omega)
      · refine next_ok T (H.lv.le (by omega)) (ax := sx) (xs := xs) (i := i') (lim := 4) (by omega) (by omega) (by omega) (by tb_rel) ?_ (by tb_rel) ?_
        · tb_rel
        have hnv := nextVal_in xs (i') (lim := 4) (by omega)
        generalize nextVal xs (i') 4 = nv at hnv
        repeat' tb_start
        obtain ⟨g, hg, _⟩ := pick4 (a := 1) (b := 1) (c := 0) (d := 3) hnv
        refine G_lit (by tb_rel) (by omega) (by omega) hg ?_
        repeat' tb_start
        exact Gb.mk (.cons _ (List.Sublist.refl _)) ⟨_, _, _, _, _, I2.up (by omega) (by omega), by omega, rfl⟩
      · exact Gb.mk (.cons _ (List.Sublist.refl _)) ⟨_, _, _, _, _, I2.up (by omega) (by omega), by omega, rfl⟩
    · rintro _ ⟨cs, cd, gl, i', v6, I, hi', rfl⟩
      repeat' tb_start
      all_goals (try omega)
      refine next_ok T (H.lv.le (by omega)) (ax := sx) (xs := xs) (i := i') (lim := 4) (by omega) (by omega) (by omega) (by tb_rel) ?_ (by tb_rel) ?_
      · tb_rel
      have hnv := nextVal_in xs (i') (lim := 4) (by omega)
      generalize nextVal xs (i') 4 = nv at hnv
      repeat' tb_start
      obtain ⟨g, hg, hg2⟩ := pick4 (a := 0) (b := 1) (c := 5) (d := 300) hnv
      refine G_lit (by tb_rel) (by omega) (by omega) hg ?_
      repeat' tb_start
      exact Gb.mk (.cons _ (.cons _ (List.Sublist.refl _))) ⟨cs, _, _, _, _, _, I.skip (s := 1 + g) (by omega) (by omega) (by omega), by omega, rfl⟩
  · rintro _ ⟨cs, cd, i, v4, v5, v6, I, hi, rfl⟩
    refine Nx.nx ?_
    have C : CsOk cs := ⟨I.asc, fun p hp => by have := I.key p hp; have := I.cb; omega, I.val, by have := I.len; omega⟩
    refine WS.pull (p := (sx, .list (xs.map .int))) (by tb_rel) ?_
    refine WS.pull (p := (ol, .list namesL)) (by tb_rel) ?_
    refine WS.pull (p := (f, .inst 127 fd)) (by tb_rel) ?_
    refine WS.pull (p := (fd, .attrs (attrsF ol (.val .none)))) (by tb_rel) ?_
    refine WS.pull (p := (CD, .dictI (intsOf cs))) (by tb_rel) ?_
    refine WS.pull (p := (sa, .list [.val (.ref sx), .int (i : Int)])) (by tb_rel) ?_
    refine WS.pull (p := (cN, .cell (.val (.ref ol)))) (by tb_rel) ?_
    refine WS.pull (p := (cC, .cell (.val (.ref CD)))) (by tb_rel) ?_
    refine WS.pull (p := (cP, .cell .any)) (by tb_rel) ?_
    refine WS.pull (p := (cK, .cell .any)) (by tb_rel) ?_
    refine WS.pull (p := (env.locals, .ns ["script", "state", "font", "code", "k", "glyph", "j", "one", "table", "octets", "words", "near", "again", "row", "left", "right", "value", "apple", "kern"] _)) (by tb_rel) ?_
    refine WS.sub (law_tab T TB TB2 B hbad H (sx := sx) (xs := xs) (i := i) C hxl (by omega) kK cKl kP cPl kC cCl kN cNl q) (.cons_cons _ (.cons_cons _ (.cons_cons _ (.cons_cons _ (.cons_cons _ (.cons_cons _ (.cons_cons _ (.cons_cons _ (.cons_cons _ (.cons_cons _ (.cons_cons _ (List.nil_sublist _))))))))))))
end
section
theorem all_mem {α : Type} {p : α → Bool} {l : List α} (h : l.all p = true) : ∀ a ∈ l, p a = true := fun a ha => List.all_eq_true.mp h a ha
theorem own_take {K : Frag} {C : Addr} {y : Str} (h1 : (clsIn K C).any (·.hasDict) = true) (h2 : findIn K (.ref C) y = some none) : OwnA K C y ∧ TakeA K C y := by
  constructor
  · intro od v h
    obtain ⟨cd, hc, hd⟩ : ∃ cd, clsIn K C = some cd ∧ cd.hasDict = true := by
      cases hc : clsIn K C with
      | none => rw [hc] at h1; cases h1
      | some cd => rw [hc] at h1; exact ⟨cd, rfl, h1⟩
    unfold findObj PySem.W.ownOf
    rw [hc, h2]
    simp [hd, h]
  · unfold TakeA takerIn
    rw [h2]; rfl
theorem clsA_of {K : Frag} {C : Addr} {y : Str} {v : Value} {cd : ClassData} (h1 : clsIn K C = some cd) (hd : cd.hasDict = true) (h2 : findIn K (.ref C) y = some (some v)) (h3 : specialIn K v "__get__" = some none) (h4 : copiedNames.contains y = false) (h5 : handedIn v = true) : ClsA K C y v := by
  intro od h
  unfold findObj PySem.W.ownOf
  rw [h1, h2]
  simp [h, h3, h5]
  intro hm
  simp at h4
  exact absurd hm h4
theorem glob_g {p : Program} {loose : List Str} {mean : ExcName → Option Value} {mg mb : Str → Option Value} {h : Heap} {K : Frag} (T0 : PyProof.Rows.Top p loose mean mg mb h) (KX : K.In h) {o : Obj} {es : Array DictEntry} {ep : Nat} (e : K.lookup mainGlobals = some o) (hd : o.data = .dict es ep) (hc : ∃ n, o.cls = .type n)
    {ob : Obj} (eb : K.lookup builtinsNs = some ob) (hcb : ∃ n, ob.cls = .type n) {y : Str} {v : Value} (hv : nsFind es y = some v) : Glob h y v := by
  refine ⟨mg, mb, ⟨T0.g, fun o' e' => ?_, T0.b, fun o' e' => ?_⟩, .inl ?_⟩
  · rw [KX _ _ e] at e'; cases e'; obtain ⟨n, hc⟩ := hc; rw [hc]; simp
  · rw [KX _ _ eb] at e'; cases e'; obtain ⟨n, hcb⟩ := hcb; rw [hcb]; simp
  · obtain ⟨o', es', ep', e', d', _, hf⟩ := T0.g
    rw [KX _ _ e] at e'; cases e'
    rw [hd] at d'; cases d'
    rw [← hf, hv]
theorem glob_b {p : Program} {loose : List Str} {mean : ExcName → Option Value} {mg mb : Str → Option Value} {h : Heap} {K : Frag} (T0 : PyProof.Rows.Top p loose mean mg mb h) (KX : K.In h) {o : Obj} {es : Array DictEntry} {ep : Nat} (e : K.lookup mainGlobals = some o) (hd : o.data = .dict es ep) (hc : ∃ n, o.cls = .type n)
    {ob : Obj} (eb : K.lookup builtinsNs = some ob) (hcb : ∃ n, ob.cls = .type n) {y : Str} {v : Value} (hn : nsFind es y = none) (hv : bootBuiltins y = some v) (hne : y ≠ "__name__") : Glob h y v := by
  refine ⟨mg, mb, ⟨T0.g, fun o' e' => ?_, T0.b, fun o' e' => ?_⟩, .inr ⟨?_, ?_⟩⟩
  · rw [KX _ _ e] at e'; cases e'; obtain ⟨n, hc⟩ := hc; rw [hc]; simp
  · rw [KX _ _ eb] at e'; cases e'; obtain ⟨n, hcb⟩ := hcb; rw [hcb]; simp
  · obtain ⟨o', es', ep', e', d', _, hf⟩ := T0.g
    rw [KX _ _ e] at e'; cases e'
    rw [hd] at d'; cases d'
    rw [← hf, hn]
  · rw [T0.builtins y hne]; exact hv
def cutK (K : Frag) : Frag := K.filter fun p => !(p.1 == 211 || p.1 == 253)
end
section
theorem cutK_look (K : Frag) (a : Addr) : (cutK K).lookup a = if (a == 211 || a == 253) = true then none else K.lookup a := by
  unfold cutK
  induction K with
  | nil => simp
  | cons p K ih =>
    obtain ⟨b, o⟩ := p
    rw [List.filter_cons]
    by_cases h : (b == 211 || b == 253) = true
    · have e : (!((b, o).1 == 211 || (b, o).1 == 253)) = false := by show (!(b == 211 || b == 253)) = false; rw [h]; rfl
      rw [e]
      simp only [Bool.false_eq_true, if_false]
      rw [ih]
      by_cases ha : (a == 211 || a == 253) = true
      · rw [if_pos ha, if_pos ha]
      · rw [if_neg ha, if_neg ha, List.lookup_cons]
        have : (a == b) = false := by
          cases hab : a == b with
          | false => rfl
          | true => rw [eq_of_beq hab] at ha; exact absurd h ha
        rw [this]
    · have e : (!((b, o).1 == 211 || (b, o).1 == 253)) = true := by
        show (!(b == 211 || b == 253)) = true
        rw [Bool.eq_false_iff.mpr h]; rfl
      rw [e]
      simp only [if_true]
      rw [List.lookup_cons, List.lookup_cons]
      cases hab : a == b with
      | false => exact ih
      | true =>
        rw [eq_of_beq hab, if_neg h]
theorem cutK_in {K : Frag} {h : Heap} (KX : K.In h) : (cutK K).In h := fun a o e => by
  rw [cutK_look] at e
  split at e
  · cases e
  · exact KX a o e
theorem ints_reps0 {B : List Addr} {h : Heap} {vs : List Value} {ns : List Int} (x : IntsAre vs ns) : Reps B h (ns.map .int) vs := by
  induction x with
  | nil => exact .nil
  | cons n t _ ih => exact Reps.cons rep_mk_int ih
/-- a code object and its table, in the text's own objects -/
structure TabF (h : Heap) (c P : Addr) : Prop where
  ok : ∃ ps, h.IsCode c P ps ∧ h.TableAt c P ps
  ne : P ≠ cStatics
theorem join {p prog : Program} {loose : List Str} {mean : ExcName → Option Value} {mg mb : Str → Option Value} {w : World} {s₁ : Shared} {K0 : Frag} (T0 : PyProof.Rows.Top p loose mean mg mb s₁.heap) (KX : K0.In s₁.heap) (hg : s₁.gens = #[])
    (TP : Mine.Top (cutK K0) s₁.heap) (t1 : TabF s₁.heap 213 211) (t2 : TabF s₁.heap 257 253) (hcs : ∃ o, s₁.heap.get? cStatics = some o) (hgc : ∀ o, s₁.heap.get? mainGlobals = some o → o.cls ≠ .none)
    {ax : Addr} {vs : Array Value} {k : Nat} {zs : List Int} (hL : s₁.heap.get? ax = some { cls := .type "list", data := .seq vs k }) (hI : IntsAre vs.toList zs) (hz : zs.length < 1000) :
    wpAny (model prog w) callerA (call (.ref 320) [.ref ax]) (fun v s' => v = .bool true ∧ OldK s₁.heap s'.heap ∧ s'.os = s₁.os ∧ AllBare s'.gens) (fun _ _ => False) s₁ := by
  let x : Cx := { prog := prog, w := w, h₀ := s₁.heap, os := s₁.os, ro := [(ax, .list (zs.map .int))], bad := [], K := cutK K0, tabs := [(213, 211), (257, 253)] }
  have hTab : ∀ c P, TabF s₁.heap c P → (∃ o, s₁.heap.get? c = some o) ∧ (∃ o, s₁.heap.get? P = some o) ∧ Tab s₁.heap c P := fun c P t => by
    obtain ⟨ps, h1, h2⟩ := t.ok
    refine ⟨?_, ⟨_, h2.2⟩, Tab.of h1 h2⟩
    obtain ⟨⟨o, _, e, _⟩, _⟩ := h2
    exact ⟨o, e⟩
  have R : Rel x [] s₁ := by
    refine ⟨OldK.refl _, T0.nolimit, rfl, .of_eq hg, List.nodup_nil, fun p hp => (nomatch hp), fun p hp => (nomatch hp), hcs, fun p hp => ?_, fun a ha => (nomatch ha), cutK_in KX, cutK_in KX, fun p hp => ?_⟩
    · rw [List.mem_singleton.mp hp]
      exact ⟨⟨vs, ⟨k, hL⟩, ints_reps0 hI⟩, by simp [addrs], _, hL, by simp⟩
    · have hp : p ∈ [((213 : Addr), (211 : Addr)), (257, 253)] := hp
      simp only [List.mem_cons, List.not_mem_nil, or_false] at hp
      rcases hp with rfl | rfl
      · exact hTab _ _ t1
      · exact hTab _ _ t2
  have TB : TabOk x 257 253 := ⟨.tail _ (.head _), by show (cutK K0).lookup 253 = none; rw [cutK_look]; rfl, let ⟨ps, _, h⟩ := t2.ok; ⟨_, ps, h⟩, t2.ne⟩
  have TB2 : TabOk x 213 211 := ⟨.head _, by show (cutK K0).lookup 211 = none; rw [cutK_look]; rfl, let ⟨ps, _, h⟩ := t1.ok; ⟨_, ps, h⟩, t1.ne⟩
  have B : BiOk x := by
    obtain ⟨bm, ob, hb⟩ := bmod_of_top T0
    exact ⟨mg, bm, ob, hb, hgc⟩
  have hl : Lv 6 callerA := ⟨rfl, by decide, by decide⟩
  refine wpAny_mono (law_ok (x := x) TP TB TB2 B rfl hl (own := []) (Q := fun v _ => v = .val (.bool true)) (.inr (.head _)) hz rfl [.ref ax] s₁ R (Reps.cons rep_mk_val .nil)) (fun v s' ⟨own', S, av, ra, e⟩ => ?_) fun _ _ f => f
  subst e
  exact ⟨rep_val ra, S.rel.old, S.rel.os, S.rel.gens⟩
theorem mg_at {p : Program} {loose : List Str} {mean : ExcName → Option Value} {mg mb : Str → Option Value} {h : Heap} {K : Frag} (T0 : PyProof.Rows.Top p loose mean mg mb h) (KX : K.In h) {o : Obj} {es : Array DictEntry} {ep : Nat} (e : K.lookup mainGlobals = some o) (hd : o.data = .dict es ep) {y : Str} {v : Value} (hv : nsFind es y = some v) : mg y = some v := by
  obtain ⟨o', es', ep', e', d', _, hf⟩ := T0.g
  rw [KX _ _ e] at e'; cases e'
  rw [hd] at d'; cases d'
  rw [← hf, hv]
theorem gc_of {h : Heap} {K : Frag} (KX : K.In h) {o : Obj} (e : K.lookup mainGlobals = some o) (hc : ∃ n, o.cls = .type n) : ∀ o', h.get? mainGlobals = some o' → o'.cls ≠ .none := fun o' e' => by
  rw [KX _ _ e] at e'
  cases e'
  obtain ⟨n, hc⟩ := hc
  rw [hc]; simp
end
end Mine
open PySem.W.X Mine
set_option maxRecDepth 100000 in
set_option maxHeartbeats 0 in
theorem PySem.Challenge.cw_er0016_01_holds : PySem.Challenge.rw_er0016_01.Holds := by
  w_on
  o_law
  z_head
  (case hw => w_witness2)
  k_fill
  intro w s₀ s₁ mg mb G y fa o pm cd doc dV kV ho hd hcd hD hmg hg args vals as L hpre hlay hrd hwl hlo
  z_open y L KX ZH ZN ZT
  refine Ground.open G ?_
  intro T B D TE TW
  wrow_args hpre hlay hrd hwl hlo
  rename_i zs hs hlay0 hL1 hr1 hl2 as1 as2 ax vs as3 hL ra w1 r0 hI hr hc63 hctr
  have hLo := script_obj L hL
  have e320 := mg_at T KX rfl rfl (y := "law") (v := .ref 320) (by kernel_rfl)
  have hfa : fa = 320 := by
    have h9 := hmg.symm.trans e320
    simpa using h9
  subst hfa
  have hI2 : IntsAre vs.toArray.toList zs := by simpa using hI
  refine wpAny_mono (Mine.join (w := w) (prog := PySem.Challenge.rw_er0016_01.row.prog) T KX hg ?TP ?t1 ?t2 ⟨_, KX _ _ rfl⟩ (fun o e => ?gc) hLo hI2 (by omega)) (fun v s' ⟨e, h1, h2, h3⟩ => ?_) fun _ _ f => f.elim
  case TP => exact {
      f_init := ⟨_, ⟨rfl, rfl, ⟨_, _, _, _, rfl, rfl, rfl, rfl⟩, fun vals h => BindsTo.of (by
          match vals, h with
          | [a, b], _ => rfl), rfl, rfl, rfl, rfl, rfl, rfl⟩, rfl, rfl⟩
      f_order := ⟨_, ⟨rfl, rfl, ⟨_, _, _, _, rfl, rfl, rfl, rfl⟩, fun vals h => BindsTo.of (by
          match vals, h with
          | [a], _ => rfl), rfl, rfl, rfl, rfl, rfl, rfl⟩, rfl, rfl⟩
      f_many := ⟨_, ⟨rfl, rfl, ⟨_, _, _, _, rfl, rfl, rfl, rfl⟩, fun vals h => BindsTo.of (by
          match vals, h with
          | [a, b], _ => rfl), rfl, rfl, rfl, rfl, rfl, rfl⟩, rfl, rfl⟩
      f_rev := ⟨_, ⟨rfl, rfl, ⟨_, _, _, _, rfl, rfl, rfl, rfl⟩, fun vals h => by
          match vals, h with
          | [a], _ =>
            intro prog w A Q E s KI q
            refine wpAny_bind (m := seqItems? (.ref _)) (wpAny_seqItems (KI _ _ rfl) rfl ?_)
            exact wpAny_pure q, rfl, rfl, rfl, rfl, rfl, rfl⟩, rfl, rfl⟩
      f_build := ⟨_, ⟨rfl, rfl, ⟨_, _, _, _, rfl, rfl, rfl, rfl⟩, fun vals h => BindsTo.of (by
          match vals, h with
          | [a], _ => rfl), rfl, rfl, rfl, rfl, rfl, rfl⟩, rfl, rfl⟩
      f_mp2 := ⟨_, ⟨rfl, rfl, ⟨_, _, _, _, rfl, rfl, rfl, rfl⟩, fun vals h => BindsTo.of (by
          match vals, h with
          | [a], _ => rfl), rfl, rfl, rfl, rfl, rfl, rfl⟩, rfl, rfl⟩
      f_gsr := ⟨_, ⟨rfl, rfl, ⟨_, _, _, _, rfl, rfl, rfl, rfl⟩, fun vals h => by
          match vals, h with
          | [a, b], _ =>
            intro prog w A Q E s KI q
            refine wpAny_bind (m := seqItems? (.ref _)) (wpAny_seqItems (KI _ _ rfl) rfl ?_)
            exact wpAny_pure q, rfl, rfl, rfl, rfl, rfl, rfl⟩, rfl, rfl⟩
      f_mkmap := ⟨_, ⟨rfl, rfl, ⟨_, _, _, _, rfl, rfl, rfl, rfl⟩, fun vals h => BindsTo.of (by
          match vals, h with
          | [a, b, c], _ => rfl), rfl, rfl, rfl, rfl, rfl, rfl⟩, rfl, rfl⟩
      f_cinit := ⟨_, ⟨rfl, rfl, ⟨_, _, _, _, rfl, rfl, rfl, rfl⟩, fun vals h => BindsTo.of (by
          match vals, h with
          | [a, b], _ => rfl), rfl, rfl, rfl, rfl, rfl, rfl⟩, rfl, rfl⟩
      f_header := ⟨_, ⟨rfl, rfl, ⟨_, _, _, _, rfl, rfl, rfl, rfl⟩, fun vals h => BindsTo.of (by
          match vals, h with
          | [a, b, c], _ => rfl), rfl, rfl, rfl, rfl, rfl, rfl⟩, rfl, rfl⟩
      f_split := ⟨_, ⟨rfl, rfl, ⟨_, _, _, _, rfl, rfl, rfl, rfl⟩, fun vals h => BindsTo.of (by
          match vals, h with
          | [a, b, c], _ => rfl), rfl, rfl, rfl, rfl, rfl, rfl⟩, rfl, rfl⟩
      f_cdec := ⟨_, ⟨rfl, rfl, ⟨_, _, _, _, rfl, rfl, rfl, rfl⟩, fun vals h => BindsTo.of (by
          match vals, h with
          | [a, b, c], _ => rfl), rfl, rfl, rfl, rfl, rfl, rfl⟩, rfl, rfl⟩
      f_ccom := ⟨_, ⟨rfl, rfl, ⟨_, _, _, _, rfl, rfl, rfl, rfl⟩, fun vals h => BindsTo.of (by
          match vals, h with
          | [a, b], _ => rfl), rfl, rfl, rfl, rfl, rfl, rfl⟩, rfl, rfl⟩
      f_filled := ⟨_, ⟨rfl, rfl, ⟨_, _, _, _, rfl, rfl, rfl, rfl⟩, fun vals h => BindsTo.of (by
          match vals, h with
          | [a, b, c, d], _ => rfl), rfl, rfl, rfl, rfl, rfl, rfl⟩, rfl, rfl⟩
      f_kinit := ⟨_, ⟨rfl, rfl, ⟨_, _, _, _, rfl, rfl, rfl, rfl⟩, fun vals h => by
          match vals, h with
          | [a, b], _ =>
            intro prog w A Q E s KI q
            refine wpAny_bind (m := seqItems? (.ref _)) (wpAny_seqItems (KI _ _ rfl) rfl ?_)
            exact wpAny_pure q, rfl, rfl, rfl, rfl, rfl, rfl⟩, rfl, rfl⟩
      f_kdec := ⟨_, ⟨rfl, rfl, ⟨_, _, _, _, rfl, rfl, rfl, rfl⟩, fun vals h => BindsTo.of (by
          match vals, h with
          | [a, b, c], _ => rfl), rfl, rfl, rfl, rfl, rfl, rfl⟩, rfl, rfl⟩
      f_kcom := ⟨_, ⟨rfl, rfl, ⟨_, _, _, _, rfl, rfl, rfl, rfl⟩, fun vals h => BindsTo.of (by
          match vals, h with
          | [a, b], _ => rfl), rfl, rfl, rfl, rfl, rfl, rfl⟩, rfl, rfl⟩
      f_next := ⟨_, ⟨rfl, rfl, ⟨_, _, _, _, rfl, rfl, rfl, rfl⟩, fun vals h => BindsTo.of (by
          match vals, h with
          | [a, b], _ => rfl), rfl, rfl, rfl, rfl, rfl, rfl⟩, rfl, rfl⟩
      f_names := ⟨_, ⟨rfl, rfl, ⟨_, _, _, _, rfl, rfl, rfl, rfl⟩, fun vals h => BindsTo.of (by
          match vals, h with
          | [], _ => rfl), rfl, rfl, rfl, rfl, rfl, rfl⟩, rfl, rfl⟩
      f_words := ⟨_, ⟨rfl, rfl, ⟨_, _, _, _, rfl, rfl, rfl, rfl⟩, fun vals h => BindsTo.of (by
          match vals, h with
          | [a], _ => rfl), rfl, rfl, rfl, rfl, rfl, rfl⟩, rfl, rfl⟩
      f_signed := ⟨_, ⟨rfl, rfl, ⟨_, _, _, _, rfl, rfl, rfl, rfl⟩, fun vals h => BindsTo.of (by
          match vals, h with
          | [a], _ => rfl), rfl, rfl, rfl, rfl, rfl, rfl⟩, rfl, rfl⟩
      f_halved := ⟨_, ⟨rfl, rfl, ⟨_, _, _, _, rfl, rfl, rfl, rfl⟩, fun vals h => BindsTo.of (by
          match vals, h with
          | [a, b, c, d, e], _ => rfl), rfl, rfl, rfl, rfl, rfl, rfl⟩, rfl, rfl⟩
      f_glyph := ⟨_, ⟨rfl, rfl, ⟨_, _, _, _, rfl, rfl, rfl, rfl⟩, fun vals h => BindsTo.of (by
          match vals, h with
          | [a, b], _ => rfl), rfl, rfl, rfl, rfl, rfl, rfl⟩, rfl, rfl⟩
      f_pair := ⟨_, ⟨rfl, rfl, ⟨_, _, _, _, rfl, rfl, rfl, rfl⟩, fun vals h => BindsTo.of (by
          match vals, h with
          | [a, b, c], _ => rfl), rfl, rfl, rfl, rfl, rfl, rfl⟩, rfl, rfl⟩
      f_sound := ⟨_, ⟨rfl, rfl, ⟨_, _, _, _, rfl, rfl, rfl, rfl⟩, fun vals h => BindsTo.of (by
          match vals, h with
          | [a, b, c], _ => rfl), rfl, rfl, rfl, rfl, rfl, rfl⟩, rfl, rfl⟩
      f_law := ⟨_, ⟨rfl, rfl, ⟨_, _, _, _, rfl, rfl, rfl, rfl⟩, fun vals h => BindsTo.of (by
          match vals, h with
          | [a], _ => rfl), rfl, rfl, rfl, rfl, rfl, rfl⟩, rfl, rfl⟩
      b_len := glob_b T KX rfl rfl ⟨_, rfl⟩ rfl ⟨_, rfl⟩ (by kernel_rfl) (by kernel_rfl) (by decide)
      b_range := glob_b T KX rfl rfl ⟨_, rfl⟩ rfl ⟨_, rfl⟩ (by kernel_rfl) (by kernel_rfl) (by decide)
      b_zip := glob_b T KX rfl rfl ⟨_, rfl⟩ rfl ⟨_, rfl⟩ (by kernel_rfl) (by kernel_rfl) (by decide)
      b_enum := glob_b T KX rfl rfl ⟨_, rfl⟩ rfl ⟨_, rfl⟩ (by kernel_rfl) (by kernel_rfl) (by decide)
      b_min := glob_b T KX rfl rfl ⟨_, rfl⟩ rfl ⟨_, rfl⟩ (by kernel_rfl) (by kernel_rfl) (by decide)
      b_max := glob_b T KX rfl rfl ⟨_, rfl⟩ rfl ⟨_, rfl⟩ (by kernel_rfl) (by kernel_rfl) (by decide)
      b_sorted := glob_b T KX rfl rfl ⟨_, rfl⟩ rfl ⟨_, rfl⟩ (by kernel_rfl) (by kernel_rfl) (by decide)
      b_iter := glob_b T KX rfl rfl ⟨_, rfl⟩ rfl ⟨_, rfl⟩ (by kernel_rfl) (by kernel_rfl) (by decide)
      b_next := glob_b T KX rfl rfl ⟨_, rfl⟩ rfl ⟨_, rfl⟩ (by kernel_rfl) (by kernel_rfl) (by decide)
      b_all := glob_b T KX rfl rfl ⟨_, rfl⟩ rfl ⟨_, rfl⟩ (by kernel_rfl) (by kernel_rfl) (by decide)
      b_list := glob_b T KX rfl rfl ⟨_, rfl⟩ rfl ⟨_, rfl⟩ (by kernel_rfl) (by kernel_rfl) (by decide)
      b_int := glob_b T KX rfl rfl ⟨_, rfl⟩ rfl ⟨_, rfl⟩ (by kernel_rfl) (by kernel_rfl) (by decide)
      b_bytes := glob_b T KX rfl rfl ⟨_, rfl⟩ rfl ⟨_, rfl⟩ (by kernel_rfl) (by kernel_rfl) (by decide)
      g_pack := glob_g T KX rfl rfl ⟨_, rfl⟩ rfl ⟨_, rfl⟩ (by kernel_rfl)
      g_unpack := glob_g T KX rfl rfl ⟨_, rfl⟩ rfl ⟨_, rfl⟩ (by kernel_rfl)
      g_font := glob_g T KX rfl rfl ⟨_, rfl⟩ rfl ⟨_, rfl⟩ (by kernel_rfl)
      g_mp2 := glob_g T KX rfl rfl ⟨_, rfl⟩ rfl ⟨_, rfl⟩ (by kernel_rfl)
      g_gsr := glob_g T KX rfl rfl ⟨_, rfl⟩ rfl ⟨_, rfl⟩ (by kernel_rfl)
      g_mkmap := glob_g T KX rfl rfl ⟨_, rfl⟩ rfl ⟨_, rfl⟩ (by kernel_rfl)
      g_split := glob_g T KX rfl rfl ⟨_, rfl⟩ rfl ⟨_, rfl⟩ (by kernel_rfl)
      g_cmap4 := glob_g T KX rfl rfl ⟨_, rfl⟩ rfl ⟨_, rfl⟩ (by kernel_rfl)
      g_filled := glob_g T KX rfl rfl ⟨_, rfl⟩ rfl ⟨_, rfl⟩ (by kernel_rfl)
      g_kern := glob_g T KX rfl rfl ⟨_, rfl⟩ rfl ⟨_, rfl⟩ (by kernel_rfl)
      g_next := glob_g T KX rfl rfl ⟨_, rfl⟩ rfl ⟨_, rfl⟩ (by kernel_rfl)
      g_names := glob_g T KX rfl rfl ⟨_, rfl⟩ rfl ⟨_, rfl⟩ (by kernel_rfl)
      g_words := glob_g T KX rfl rfl ⟨_, rfl⟩ rfl ⟨_, rfl⟩ (by kernel_rfl)
      g_signed := glob_g T KX rfl rfl ⟨_, rfl⟩ rfl ⟨_, rfl⟩ (by kernel_rfl)
      g_halved := glob_g T KX rfl rfl ⟨_, rfl⟩ rfl ⟨_, rfl⟩ (by kernel_rfl)
      g_glyph := glob_g T KX rfl rfl ⟨_, rfl⟩ rfl ⟨_, rfl⟩ (by kernel_rfl)
      g_pair := glob_g T KX rfl rfl ⟨_, rfl⟩ rfl ⟨_, rfl⟩ (by kernel_rfl)
      g_sound := glob_g T KX rfl rfl ⟨_, rfl⟩ rfl ⟨_, rfl⟩ (by kernel_rfl)
      k_calls := all_mem (by kernel_rfl)
      c_font := ⟨by kernel_rfl, by kernel_rfl, by kernel_rfl, by kernel_rfl, by kernel_rfl, by kernel_rfl⟩
      c_cmap := ⟨by kernel_rfl, by kernel_rfl, by kernel_rfl, by kernel_rfl, by kernel_rfl, by kernel_rfl⟩
      c_kern := ⟨by kernel_rfl, by kernel_rfl, by kernel_rfl, by kernel_rfl, by kernel_rfl, by kernel_rfl⟩
      o_font := fun y hy => by
        simp only [List.mem_cons, List.not_mem_nil, or_false] at hy
        rcases hy with rfl | rfl
        · exact own_take (by kernel_rfl) (by kernel_rfl)
        · exact own_take (by kernel_rfl) (by kernel_rfl)
      o_cmap := fun y hy => by
        simp only [List.mem_cons, List.not_mem_nil, or_false] at hy
        rcases hy with rfl | rfl | rfl | rfl | rfl | rfl | rfl | rfl | rfl
        · exact own_take (by kernel_rfl) (by kernel_rfl)
        · exact own_take (by kernel_rfl) (by kernel_rfl)
        · exact own_take (by kernel_rfl) (by kernel_rfl)
        · exact own_take (by kernel_rfl) (by kernel_rfl)
        · exact own_take (by kernel_rfl) (by kernel_rfl)
        · exact own_take (by kernel_rfl) (by kernel_rfl)
        · exact own_take (by kernel_rfl) (by kernel_rfl)
        · exact own_take (by kernel_rfl) (by kernel_rfl)
        · exact own_take (by kernel_rfl) (by kernel_rfl)
      o_kern := fun y hy => by
        simp only [List.mem_cons, List.not_mem_nil, or_false] at hy
        rcases hy with rfl | rfl | rfl | rfl
        · exact own_take (by kernel_rfl) (by kernel_rfl)
        · exact own_take (by kernel_rfl) (by kernel_rfl)
        · exact own_take (by kernel_rfl) (by kernel_rfl)
        · exact own_take (by kernel_rfl) (by kernel_rfl)
      o_kfmt := ⟨_, clsA_of rfl (by kernel_rfl) (by with_unfolding_all rfl) (by kernel_rfl) (by kernel_rfl) (by kernel_rfl)⟩
      m_init := ⟨by kernel_rfl, by kernel_rfl⟩
      m_order := ⟨by kernel_rfl, by kernel_rfl⟩
      m_many := ⟨by kernel_rfl, by kernel_rfl⟩
      m_rev := ⟨by kernel_rfl, by kernel_rfl⟩
      m_build := ⟨by kernel_rfl, by kernel_rfl⟩
      m_cinit := ⟨by kernel_rfl, by kernel_rfl⟩
      m_header := ⟨by kernel_rfl, by kernel_rfl⟩
      m_cdec := ⟨by kernel_rfl, by kernel_rfl⟩
      m_ccom := ⟨by kernel_rfl, by kernel_rfl⟩
      m_kinit := ⟨by kernel_rfl, by kernel_rfl⟩
      m_kdec := ⟨by kernel_rfl, by kernel_rfl⟩
      m_kcom := ⟨by kernel_rfl, by kernel_rfl⟩ }
  case t1 => exact ⟨⟨_, ⟨_, _, _, _, _, _, _, _, _, _, KX _ _ rfl, rfl, rfl, rfl, rfl, rfl, rfl, KX _ _ rfl, rfl, trivial, by decide⟩, ⟨⟨_, _, KX _ _ rfl, rfl, rfl, rfl⟩, KX _ _ rfl⟩⟩, by decide⟩
  case t2 => exact ⟨⟨_, ⟨_, _, _, _, _, _, _, _, _, _, KX _ _ rfl, rfl, rfl, rfl, rfl, rfl, rfl, KX _ _ rfl, rfl, trivial, by decide⟩, ⟨⟨_, _, KX _ _ rfl, rfl, rfl, rfl⟩, KX _ _ rfl⟩⟩, by decide⟩
  case gc => exact gc_of KX rfl ⟨_, rfl⟩ o e
  subst e
  exact ⟨.inl ⟨_, .bool true, [], rfl, fun _ => rfl, ReadsW.bool true, by first | rfl | wrow_post, fun _ => ⟨List.nodup_nil, fun _ hm => (nomatch hm)⟩⟩, h1, h2, h3⟩
