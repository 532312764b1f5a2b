import PyProof.Rows.All
import Wide.All
import OpenK.AllK
import Wide.FinOn
import Lean
import PySem.Challenge.RW_ny0336_02
set_option Elab.async false
set_option linter.all false
set_option maxRecDepth 100000
set_option maxHeartbeats 4000000
set_option genSizeOf false
set_option genInjectivity false
set_option compiler.extract_closed false
open PySem PySem.W PySem.Calls PyProof.Rows PySem.Spec
noncomputable section
namespace Mine
inductive RSeq (h : Heap) (P : Addr → Prop) (T : String) (R : List Value → Prop) (v : Value) : Prop
  | mk (a : Addr) (vs : Array Value) (n : Nat) (e : v = .ref a) (p : P a) (g : h.get? a = some { cls := .type T, data := .seq vs n }) (r : R vs.toList)
inductive RDict (h : Heap) (P : Addr → Prop) (R : List DictEntry → Prop) (v : Value) : Prop
  | mk (a : Addr) (es : Array DictEntry) (n : Nat) (e : v = .ref a) (p : P a) (ns : a ≠ sysModules) (g : h.get? a = some { cls := .type "dict", data := .dict es n }) (r : R es.toList)
inductive RCons (R : Value → Prop) (S : List Value → Prop) (vs : List Value) : Prop
  | mk (v : Value) (vs' : List Value) (e : vs = v :: vs') (r : R v) (s : S vs')
inductive RPair (k : PyData) (R : Value → Prop) (S : List DictEntry → Prop) (es : List DictEntry) : Prop
  | mk (e : DictEntry) (es' : List DictEntry) (i : Int) (t : Tok) (e1 : es = e :: es') (e2 : k = .int i) (e3 : e.key = .int i t) (e4 : e.hash = hashInt i) (r : R e.val) (s : S es')
mutual
noncomputable def Rl (h : Heap) (P : Addr → Prop) : PyData → Value → Prop
  | .none, v => v = .none
  | .bool b, v => v = .bool b
  | .int i, v => ∃ t, v = .int i t
  | .str x, v => ∃ t, v = .str x t
  | .list xs, v => RSeq h P "list" (fun vs => RlAll h P xs vs) v
  | .tuple xs, v => RSeq h P "tuple" (fun vs => RlAll h P xs vs) v
  | .dict kvs, v => RDict h P (fun es => RlKv h P kvs es) v
noncomputable def RlAll (h : Heap) (P : Addr → Prop) : List PyData → List Value → Prop
  | [], vs => vs = []
  | x :: xs, vs => RCons (fun v => Rl h P x v) (fun vs => RlAll h P xs vs) vs
noncomputable def RlKv (h : Heap) (P : Addr → Prop) : List (PyData × PyData) → List DictEntry → Prop
  | [], es => es = []
  | (k, d) :: r, es => RPair k (fun v => Rl h P d v) (fun es => RlKv h P r es) es
end
section
variable {h h' : Heap} {P P' : Addr → Prop}
mutual
theorem Rl.mono (k : ∀ a o, P a → h.get? a = some o → h'.get? a = some o ∧ P' a) : ∀ (d : PyData) (v : Value), Rl h P d v → Rl h' P' d v
  | .none, _, r => r
  | .bool _, _, r => r
  | .int _, _, r => r
  | .str _, _, r => r
  | .list xs, _, ⟨a, vs, n, e, p, g, r⟩ => ⟨a, vs, n, e, (k a _ p g).2, (k a _ p g).1, RlAll.mono k xs _ r⟩
  | .tuple xs, _, ⟨a, vs, n, e, p, g, r⟩ => ⟨a, vs, n, e, (k a _ p g).2, (k a _ p g).1, RlAll.mono k xs _ r⟩
  | .dict kvs, _, ⟨a, vs, n, e, p, ns, g, r⟩ => ⟨a, vs, n, e, (k a _ p g).2, ns, (k a _ p g).1, RlKv.mono k kvs _ r⟩
theorem RlAll.mono (k : ∀ a o, P a → h.get? a = some o → h'.get? a = some o ∧ P' a) : ∀ (xs : List PyData) (vs : List Value), RlAll h P xs vs → RlAll h' P' xs vs
  | [], _, r => r
  | x :: xs, _, ⟨v, vs', e, r, rs⟩ => ⟨v, vs', e, Rl.mono k x v r, RlAll.mono k xs vs' rs⟩
theorem RlKv.mono (k : ∀ a o, P a → h.get? a = some o → h'.get? a = some o ∧ P' a) : ∀ (kvs : List (PyData × PyData)) (es : List DictEntry), RlKv h P kvs es → RlKv h' P' kvs es
  | [], _, r => r
  | (_, d) :: kvs, _, ⟨e, es', i, t, e1, e2, e3, e4, r, rs⟩ => ⟨e, es', i, t, e1, e2, e3, e4, Rl.mono k d _ r, RlKv.mono k kvs es' rs⟩
end
mutual
theorem Rl.reads : ∀ (d : PyData) (v : Value), Rl h P d v → ∃ as, Reads h v d as ∧ ∀ a ∈ as, P a
  | .none, _, r => by subst r; exact ⟨[], .none, by simp⟩
  | .bool _, _, r => by subst r; exact ⟨[], .bool _, by simp⟩
  | .int _, _, ⟨t, r⟩ => by subst r; exact ⟨[], .int _ t, by simp⟩
  | .str _, _, ⟨t, r⟩ => by subst r; exact ⟨[], .str _ t, by simp⟩
  | .list xs, _, ⟨a, vs, n, e, p, g, r⟩ => by
    subst e
    obtain ⟨as, ra, pa⟩ := RlAll.reads xs _ r
    exact ⟨_, .list g rfl rfl ra, fun b hb => (List.mem_cons.mp hb).elim (fun e => e ▸ p) (pa b)⟩
  | .tuple xs, _, ⟨a, vs, n, e, p, g, r⟩ => by
    subst e
    obtain ⟨as, ra, pa⟩ := RlAll.reads xs _ r
    exact ⟨_, .tuple g rfl rfl ra, pa⟩
  | .dict kvs, _, ⟨a, es, n, e, p, _, g, r⟩ => by
    subst e
    obtain ⟨as, bs, ra, rb, pb⟩ := RlKv.reads kvs _ r
    exact ⟨_, .dict g rfl rfl ra rb, fun b hb => (List.mem_append.mp hb).elim (fun q => (List.mem_cons.mp q).elim (fun e => e ▸ p) (fun q => pb b (.inl q))) (fun q => pb b (.inr q))⟩
theorem RlAll.reads : ∀ (xs : List PyData) (vs : List Value), RlAll h P xs vs → ∃ as, ReadsAll h vs xs as ∧ ∀ a ∈ as, P a
  | [], _, r => by cases r; exact ⟨[], .nil, by simp⟩
  | x :: xs, _, ⟨v, vs', e, r, rs⟩ => by
    subst e
    obtain ⟨as, ra, pa⟩ := Rl.reads x v r
    obtain ⟨bs, rb, pb⟩ := RlAll.reads xs vs' rs
    exact ⟨_, .cons ra rb, fun b hb => (List.mem_append.mp hb).elim (pa b) (pb b)⟩
theorem RlKv.reads : ∀ (kvs : List (PyData × PyData)) (es : List DictEntry), RlKv h P kvs es →
    ∃ as bs, ReadsAll h (es.map (·.key)) (kvs.map (·.1)) as ∧ ReadsAll h (es.map (·.val)) (kvs.map (·.2)) bs ∧ ∀ a, a ∈ as ∨ a ∈ bs → P a
  | [], _, r => by cases r; exact ⟨[], [], .nil, .nil, by simp⟩
  | (k, d) :: kvs, _, ⟨e, es', i, t, e1, e2, e3, e4, r, rs⟩ => by
    subst e1 e2
    obtain ⟨as, ra, pa⟩ := Rl.reads d _ r
    obtain ⟨bs, cs, rb, rc, pb⟩ := RlKv.reads kvs es' rs
    refine ⟨_, _, (by show ReadsAll h (e.key :: _) (PyData.int i :: _) _; rw [e3]; exact .cons (.int i t) rb), .cons ra rc, fun b hb => ?_⟩
    rcases hb with hb | hb
    · exact pb b (.inl (by simpa using hb))
    · rcases List.mem_append.mp hb with hb | hb
      · exact pa b hb
      · exact pb b (.inr hb)
end
theorem RlAll.length : ∀ {xs : List PyData} {vs : List Value}, RlAll h P xs vs → vs.length = xs.length
  | [], _, r => by cases r; rfl
  | _ :: xs, _, ⟨v, vs', e, _, rs⟩ => by subst e; simp [RlAll.length rs]
theorem RlAll.get : ∀ {xs : List PyData} {vs : List Value}, RlAll h P xs vs → ∀ {i : Nat} {d : PyData}, xs[i]? = some d → ∃ v, vs[i]? = some v ∧ Rl h P d v
  | [], _, _, i, d, e => by simp at e
  | x :: xs, _, ⟨v, vs', e, r, rs⟩, i, d, q => by
    subst e
    cases i with
    | zero => simp at q; subst q; exact ⟨v, rfl, r⟩
    | succ i => simp at q ⊢; exact RlAll.get rs q
theorem RlAll.get' : ∀ {xs : List PyData} {vs : List Value}, RlAll h P xs vs → ∀ {i : Nat} {v : Value}, vs[i]? = some v → ∃ d, xs[i]? = some d ∧ Rl h P d v
  | [], _, r, i, d, e => by cases r; simp at e
  | x :: xs, _, ⟨v, vs', e, r, rs⟩, i, d, q => by
    subst e
    cases i with
    | zero => simp at q; subst q; exact ⟨x, rfl, r⟩
    | succ i => simp at q ⊢; exact RlAll.get' rs q
theorem RlAll.append : ∀ {xs ys : List PyData} {vs ws : List Value}, RlAll h P xs vs → RlAll h P ys ws → RlAll h P (xs ++ ys) (vs ++ ws)
  | [], _, _, _, r, r' => by cases r; exact r'
  | _ :: xs, _, _, _, ⟨v, vs', e, r, rs⟩, r' => by subst e; exact ⟨v, _, rfl, r, RlAll.append rs r'⟩
theorem RlAll.one {d : PyData} {v : Value} (r : Rl h P d v) : RlAll h P [d] [v] := ⟨v, [], rfl, r, rfl⟩
theorem RlAll.set : ∀ {xs : List PyData} {vs : List Value}, RlAll h P xs vs → ∀ {i : Nat} {d : PyData} {v : Value}, Rl h P d v → RlAll h P (xs.set i d) (vs.set i v)
  | [], _, r, _, _, _, _ => by cases r; rfl
  | x :: xs, _, ⟨v, vs', e, r, rs⟩, i, d, u, q => by
    subst e
    cases i with
    | zero => exact ⟨u, vs', rfl, q, rs⟩
    | succ i => exact ⟨v, _, rfl, r, RlAll.set rs q⟩
theorem RlAll.of_get : ∀ {xs : List PyData} {vs : List Value}, vs.length = xs.length → (∀ (i : Nat) d v, xs[i]? = some d → vs[i]? = some v → Rl h P d v) → RlAll h P xs vs
  | [], [], _, _ => rfl
  | [], _ :: _, e, _ => by simp at e
  | _ :: _, [], e, _ => by simp at e
  | x :: xs, v :: vs, e, k => ⟨v, vs, rfl, k 0 x v rfl rfl, RlAll.of_get (by simpa using e) fun i d u h1 h2 => k (i + 1) d u (by simpa using h1) (by simpa using h2)⟩
end
noncomputable def flat : PyData → Bool
  | .none | .bool _ | .int _ | .str _ => true
  | _ => false
theorem Rl.flat {h h' : Heap} {P P' : Addr → Prop} {d : PyData} {v : Value} (f : flat d = true) (r : Rl h P d v) : Rl h' P' d v := by
  cases d <;> first | exact r | contradiction
inductive Own where
  | sh | no | fo | fr | it | ob
  | va (x : Str)
noncomputable abbrev Reg := Addr → Own
noncomputable def Sh (reg : Reg) (a : Addr) : Prop := reg a = .sh
structure OwnRel where
  rel : (Addr → Prop) → (Addr → Prop) → Heap → Value → Prop
  mono : ∀ {O O' P P' : Addr → Prop} {h h' : Heap} {v : Value}, (∀ a o, O a → h.get? a = some o → h'.get? a = some o ∧ O' a) → (∀ a o, P a → h.get? a = some o → h'.get? a = some o ∧ P' a) → rel O P h v → rel O' P' h' v
inductive B where
  | sh (d : PyData)
  | l1 (xs : List PyData)
  | l2 (xss : List (List PyData))
  | d1 (kvs : List (Int × PyData))
  | ob (a : Addr)
  | ow (R : OwnRel)
  | un
noncomputable abbrev Vars := List (Str × B)
noncomputable abbrev Obs := Addr → Prop
noncomputable def kvData (kvs : List (Int × PyData)) : List (PyData × PyData) := kvs.map fun p => (.int p.1, p.2)
inductive BL1 (reg : Reg) (h : Heap) (x : Str) (xs : List PyData) (v : Value) : Prop
  | mk (a : Addr) (vs : Array Value) (e : v = .ref a) (ra : reg a = .va x) (g : h.PlainList a vs) (r : RlAll h (Sh reg) xs vs.toList)
inductive BL2 (reg : Reg) (h : Heap) (x : Str) (xss : List (List PyData)) (v : Value) : Prop
  | mk (a : Addr) (bs : List Addr) (e : v = .ref a) (ra : reg a = .va x) (g : h.PlainList a (bs.map Value.ref).toArray) (l : bs.length = xss.length) (nd : bs.Nodup) (o : ∀ b ∈ bs, b ≠ a ∧ reg b = .va x)
      (r : ∀ (i : Nat) b xs, bs[i]? = some b → xss[i]? = some xs → ∃ vs, h.PlainList b vs ∧ RlAll h (Sh reg) xs vs.toList)
inductive BD1 (reg : Reg) (h : Heap) (x : Str) (kvs : List (Int × PyData)) (v : Value) : Prop
  | mk (a : Addr) (es : Array DictEntry) (n : Nat) (e : v = .ref a) (ra : reg a = .va x) (ns : a ≠ sysModules) (g : h.get? a = some { cls := .type "dict", data := .dict es n }) (nd : (kvs.map (·.1)).Nodup) (r : RlKv h (Sh reg) (kvData kvs) es.toList)
noncomputable def BRel (reg : Reg) (h : Heap) (x : Str) : B → Value → Prop
  | .sh d, v => Rl h (Sh reg) d v
  | .l1 xs, v => BL1 reg h x xs v
  | .l2 xss, v => BL2 reg h x xss v
  | .d1 kvs, v => BD1 reg h x kvs v
  | .ob a, v => v = .ref a
  | .ow R, v => R.rel (fun a => reg a = .va x) (Sh reg) h v
  | .un, _ => True
theorem BRel.mono {reg reg' : Reg} {h h' : Heap} {x : Str} (ks : ∀ a o, reg a = .sh → h.get? a = some o → h'.get? a = some o ∧ reg' a = .sh)
    (kv : ∀ a o, reg a = .va x → h.get? a = some o → h'.get? a = some o ∧ reg' a = .va x) : ∀ {b : B} {v : Value}, BRel reg h x b v → BRel reg' h' x b v
  | .sh d, v, r => Rl.mono ks d v r
  | .l1 xs, v, ⟨a, vs, e, ra, ⟨n, pl⟩, r⟩ => ⟨a, vs, e, (kv a _ ra pl).2, ⟨n, (kv a _ ra pl).1⟩, RlAll.mono ks _ _ r⟩
  | .l2 xss, v, ⟨a, bs, e, ra, ⟨n, pl⟩, hl, nd, hb, r⟩ => by
    refine ⟨a, bs, e, (kv a _ ra pl).2, ⟨n, (kv a _ ra pl).1⟩, hl, nd, fun b hm => ?_, fun i b xs h1 h2 => ?_⟩
    · obtain ⟨i, hi⟩ := List.getElem?_of_mem hm
      have hlt : i < xss.length := by
        have := (List.getElem?_eq_some_iff.mp hi).1; (lia -abstractProof)
      obtain ⟨vs, ⟨n', pl'⟩, _⟩ := r i b xss[i] hi (by simp [hlt])
      exact ⟨(hb b hm).1, (kv b _ (hb b hm).2 pl').2⟩
    · obtain ⟨vs, ⟨n', pl'⟩, r'⟩ := r i b xs h1 h2
      exact ⟨vs, ⟨n', (kv b _ (hb b (List.mem_of_getElem? h1)).2 pl').1⟩, RlAll.mono ks _ _ r'⟩
  | .d1 kvs, v, ⟨a, es, n, e, ra, ns, g, nd, r⟩ => ⟨a, es, n, e, (kv a _ ra g).2, ns, (kv a _ ra g).1, nd, RlKv.mono ks _ _ r⟩
  | .ob a, v, r => r
  | .ow R, v, r => R.mono kv ks r
  | .un, v, r => r
noncomputable def Slk (D : Addr → Prop) (h h' : Heap) : Prop := ∀ a o, h.get? a = some o → ∃ sl, h'.get? a = some { o with slots := sl } ∧ (¬ D a → sl = o.slots)
theorem Slk.exact {D : Addr → Prop} {h h' : Heap} {a : Addr} {o : Obj} (x : Slk D h h') (n : ¬ D a) (g : h.get? a = some o) : h'.get? a = some o := by
  obtain ⟨sl, e, q⟩ := x a o g
  rw [q n] at e; exact e
theorem Slk.none {D : Addr → Prop} {h h' : Heap} {a : Addr} (x : Slk D h h') (g : h'.get? a = none) : h.get? a = none := by
  cases q : h.get? a with
  | none => rfl
  | some o => obtain ⟨sl, e, _⟩ := x a o q; rw [g] at e; contradiction
theorem Slk.of {D : Addr → Prop} {h h' : Heap} (k : h.StaysIn h') : Slk D h h' := fun a o g => ⟨o.slots, k a o g, fun _ => rfl⟩
theorem Slk.refl {D : Addr → Prop} (h : Heap) : Slk D h h := Slk.of fun _ _ e => e
theorem Slk.trans {D : Addr → Prop} {h₁ h₂ h₃ : Heap} (x : Slk D h₁ h₂) (y : Slk D h₂ h₃) : Slk D h₁ h₃ := fun a o g => by
  obtain ⟨sl, e, q⟩ := x a o g
  obtain ⟨sl', e', q'⟩ := y a _ e
  exact ⟨sl', e', fun n => (q' n).trans (q n)⟩
theorem Slk.mono {D D' : Addr → Prop} {h h' : Heap} (x : Slk D h h') (k : ∀ a, D a → D' a) : Slk D' h h' := fun a o g => by
  obtain ⟨sl, e, q⟩ := x a o g
  exact ⟨sl, e, fun n => q fun m => n (k a m)⟩
theorem Slk.data {D : Addr → Prop} {h h' : Heap} {a : Addr} {o : Obj} (x : Slk D h h') (g : h.get? a = some o) : ∃ o', h'.get? a = some o' ∧ o'.data = o.data :=
  let ⟨_, e, _⟩ := x a o g; ⟨_, e, rfl⟩
theorem Slk.ns {D : Addr → Prop} {h h' : Heap} {a : Addr} {m : Str → Option Value} (x : Slk D h h') (n : h.Ns a m) : h'.Ns a m := by
  obtain ⟨o, es, ep, g, d, r⟩ := n
  obtain ⟨o', g', d'⟩ := x.data g
  exact ⟨o', es, ep, g', d'.trans d, r⟩
theorem Slk.cell {D : Addr → Prop} {h h' : Heap} {a : Addr} {v : Option Value} (x : Slk D h h') (n : h.IsCell a v) : h'.IsCell a v := by
  obtain ⟨o, g, d⟩ := n
  obtain ⟨o', g', d'⟩ := x.data g
  exact ⟨o', g', d'.trans d⟩
noncomputable def Loose (reg : Reg) (a : Addr) : Prop := reg a = .fr ∨ reg a = .fo
theorem not_loose {reg : Reg} {a : Addr} {w : Own} (e : reg a = w) (h1 : w ≠ .fr := by intro z; contradiction) (h2 : w ≠ .fo := by intro z; contradiction) : ¬ Loose reg a := fun q => q.elim (fun q => h1 (e.symm.trans q)) fun q => h2 (e.symm.trans q)
noncomputable def VarAt (env : Env) (h : Heap) (x : Str) (v : Value) : Prop :=
  (env.kindOf x = some .local ∧ ∃ m, h.Ns env.locals m ∧ m x = some v) ∨
  ((env.kindOf x = some .cell ∨ env.kindOf x = some .free) ∧ ∃ c, env.cells.lookup x = some c ∧ h.IsCell c (some v))
theorem VarAt.slk {D : Addr → Prop} {env : Env} {h h' : Heap} {x : Str} {v : Value} (k : Slk D h h') : VarAt env h x v → VarAt env h' x v
  | .inl ⟨e, m, n, q⟩ => .inl ⟨e, m, k.ns n, q⟩
  | .inr ⟨e, c, l, q⟩ => .inr ⟨e, c, l, k.cell q⟩
noncomputable def VarOk (env : Env) (reg : Reg) (h : Heap) (x : Str) (b : B) : Prop := b = .un ∨ ∃ v, VarAt env h x v ∧ BRel reg h x b v
inductive Upd : Vars → Str → B → Vars → Prop
  | head {x : Str} {c b : B} {r : Vars} : Upd ((x, c) :: r) x b ((x, b) :: r)
  | tail {p : Str × B} {r r' : Vars} {x : Str} {b : B} : Upd r x b r' → Upd (p :: r) x b (p :: r')
theorem mt0 {p : Str × B} {r : Vars} : p ∈ p :: r := .head _
theorem mt1 {a p : Str × B} {r : Vars} : p ∈ a :: p :: r := .tail _ (.head _)
theorem mt2 {a b p : Str × B} {r : Vars} : p ∈ a :: b :: p :: r := .tail _ (.tail _ (.head _))
theorem mt3 {a b c p : Str × B} {r : Vars} : p ∈ a :: b :: c :: p :: r := .tail _ (.tail _ (.tail _ (.head _)))
theorem mt4 {a b c d p : Str × B} {r : Vars} : p ∈ a :: b :: c :: d :: p :: r := .tail _ (.tail _ (.tail _ (.tail _ (.head _))))
theorem mt5 {a b c d e p : Str × B} {r : Vars} : p ∈ a :: b :: c :: d :: e :: p :: r := .tail _ (.tail _ (.tail _ (.tail _ (.tail _ (.head _)))))
theorem mt6 {a b c d e f p : Str × B} {r : Vars} : p ∈ a :: b :: c :: d :: e :: f :: p :: r := .tail _ (.tail _ (.tail _ (.tail _ (.tail _ (.tail _ (.head _))))))
theorem mt7 {a b c d e f g p : Str × B} {r : Vars} : p ∈ a :: b :: c :: d :: e :: f :: g :: p :: r := .tail _ (.tail _ (.tail _ (.tail _ (.tail _ (.tail _ (.tail _ (.head _)))))))
theorem mt8 {a b c d e f g h p : Str × B} {r : Vars} : p ∈ a :: b :: c :: d :: e :: f :: g :: h :: p :: r := .tail _ (.tail _ (.tail _ (.tail _ (.tail _ (.tail _ (.tail _ (.tail _ (.head _))))))))
theorem mt9 {a b c d e f g h i p : Str × B} {r : Vars} : p ∈ a :: b :: c :: d :: e :: f :: g :: h :: i :: p :: r := .tail _ (.tail _ (.tail _ (.tail _ (.tail _ (.tail _ (.tail _ (.tail _ (.tail _ (.head _)))))))))
theorem mt10 {a b c d e f g h i j p : Str × B} {r : Vars} : p ∈ a :: b :: c :: d :: e :: f :: g :: h :: i :: j :: p :: r := .tail _ (.tail _ (.tail _ (.tail _ (.tail _ (.tail _ (.tail _ (.tail _ (.tail _ (.tail _ (.head _))))))))))
theorem ut0 {x : Str} {c' b' : B} {r : Vars} : Upd ((x, c') :: r) x b' ((x, b') :: r) := .head
theorem ut1 {a : Str × B} {x : Str} {c' b' : B} {r : Vars} : Upd (a :: (x, c') :: r) x b' (a :: (x, b') :: r) := .tail (.head)
theorem ut2 {a b : Str × B} {x : Str} {c' b' : B} {r : Vars} : Upd (a :: b :: (x, c') :: r) x b' (a :: b :: (x, b') :: r) := .tail (.tail (.head))
theorem ut3 {a b c : Str × B} {x : Str} {c' b' : B} {r : Vars} : Upd (a :: b :: c :: (x, c') :: r) x b' (a :: b :: c :: (x, b') :: r) := .tail (.tail (.tail (.head)))
theorem ut4 {a b c d : Str × B} {x : Str} {c' b' : B} {r : Vars} : Upd (a :: b :: c :: d :: (x, c') :: r) x b' (a :: b :: c :: d :: (x, b') :: r) := .tail (.tail (.tail (.tail (.head))))
theorem ut5 {a b c d e : Str × B} {x : Str} {c' b' : B} {r : Vars} : Upd (a :: b :: c :: d :: e :: (x, c') :: r) x b' (a :: b :: c :: d :: e :: (x, b') :: r) := .tail (.tail (.tail (.tail (.tail (.head)))))
theorem ut6 {a b c d e f : Str × B} {x : Str} {c' b' : B} {r : Vars} : Upd (a :: b :: c :: d :: e :: f :: (x, c') :: r) x b' (a :: b :: c :: d :: e :: f :: (x, b') :: r) := .tail (.tail (.tail (.tail (.tail (.tail (.head))))))
theorem ut7 {a b c d e f g : Str × B} {x : Str} {c' b' : B} {r : Vars} : Upd (a :: b :: c :: d :: e :: f :: g :: (x, c') :: r) x b' (a :: b :: c :: d :: e :: f :: g :: (x, b') :: r) := .tail (.tail (.tail (.tail (.tail (.tail (.tail (.head)))))))
theorem ut8 {a b c d e f g h : Str × B} {x : Str} {c' b' : B} {r : Vars} : Upd (a :: b :: c :: d :: e :: f :: g :: h :: (x, c') :: r) x b' (a :: b :: c :: d :: e :: f :: g :: h :: (x, b') :: r) := .tail (.tail (.tail (.tail (.tail (.tail (.tail (.tail (.head))))))))
theorem ut9 {a b c d e f g h i : Str × B} {x : Str} {c' b' : B} {r : Vars} : Upd (a :: b :: c :: d :: e :: f :: g :: h :: i :: (x, c') :: r) x b' (a :: b :: c :: d :: e :: f :: g :: h :: i :: (x, b') :: r) := .tail (.tail (.tail (.tail (.tail (.tail (.tail (.tail (.tail (.head)))))))))
theorem ut10 {a b c d e f g h i j : Str × B} {x : Str} {c' b' : B} {r : Vars} : Upd (a :: b :: c :: d :: e :: f :: g :: h :: i :: j :: (x, c') :: r) x b' (a :: b :: c :: d :: e :: f :: g :: h :: i :: j :: (x, b') :: r) := .tail (.tail (.tail (.tail (.tail (.tail (.tail (.tail (.tail (.tail (.head))))))))))
theorem Upd.keys {ρ ρ' : Vars} {x : Str} {b : B} (u : Upd ρ x b ρ') : ρ'.map (·.1) = ρ.map (·.1) := by
  induction u with
  | head => rfl
  | tail _ ih => simp [ih]
theorem Upd.has {ρ ρ' : Vars} {x : Str} {b : B} (u : Upd ρ x b ρ') : (x, b) ∈ ρ' := by
  induction u with
  | head => exact .head _
  | tail _ ih => exact .tail _ ih
theorem Upd.key {ρ ρ' : Vars} {x : Str} {b : B} (u : Upd ρ x b ρ') : x ∈ ρ.map (·.1) := by
  rw [← u.keys]; exact List.mem_map.mpr ⟨(x, b), u.has, rfl⟩
theorem Upd.mem {ρ ρ' : Vars} {x : Str} {b : B} (u : Upd ρ x b ρ') (nd : (ρ.map (·.1)).Nodup) : ∀ y c, (y, c) ∈ ρ' → (y = x ∧ c = b) ∨ (y ≠ x ∧ (y, c) ∈ ρ) := by
  induction u with
  | @head x c b r =>
    intro y c' hm
    simp only [List.map_cons, List.nodup_cons] at nd
    rcases List.mem_cons.mp hm with e | hm'
    · cases e; exact .inl ⟨rfl, rfl⟩
    · refine .inr ⟨?_, .tail _ hm'⟩
      rintro rfl
      exact nd.1 (List.mem_map.mpr ⟨(y, c'), hm', rfl⟩)
  | @tail p r r' x b u ih =>
    intro y c hm
    simp only [List.map_cons, List.nodup_cons] at nd
    rcases List.mem_cons.mp hm with e | hm
    · subst e
      refine .inr ⟨?_, .head _⟩
      rintro rfl
      exact nd.1 u.key
    · rcases ih nd.2 y c hm with q | ⟨q1, q2⟩
      · exact .inl q
      · exact .inr ⟨q1, .tail _ q2⟩
structure Sta (base : Heap) (env : Env) (ρ : Vars) (obs : Obs) (reg : Reg) (h : Heap) : Prop where
  keep : ∀ a o, base.get? a = some o → ¬ obs a → ∃ sl, h.get? a = some { o with slots := sl } ∧ (reg a ≠ .fo → sl = o.slots)
  low : ∀ a o, base.get? a = some o → ¬ obs a → reg a = .sh ∨ reg a = .no ∨ reg a = .fo
  high : ∀ a, h.get? a = none → reg a = .sh
  locs : reg env.locals = .fr
  cels : ∀ n c, env.cells.lookup n = some c → reg c = .fr ∧ c ≠ env.locals ∧ ∃ v, h.IsCell c v
  inj : ∀ n n' c, env.cells.lookup n = some c → env.cells.lookup n' = some c → n = n'
  allc : ∀ n, (env.kindOf n = some .cell ∨ env.kindOf n = some .free) → ∃ c, env.cells.lookup n = some c
  ns : ∃ m, h.Ns env.locals m
  keys : (ρ.map (·.1)).Nodup
  vars : ∀ x b, (x, b) ∈ ρ → VarOk env reg h x b
  frm : ∃ L o, env.frame = some L ∧ reg L = .fr ∧ base.get? L = none ∧ h.get? L = some o ∧ ∀ vs, o.data ≠ .fields vs
theorem Sta.ext {base : Heap} {env : Env} {ρ : Vars} {obs : Obs} {reg : Reg} {h h' : Heap} (S : Sta base env ρ obs reg h) (k : Slk (Loose reg) h h') : Sta base env ρ obs reg h' where
  keep := fun a o e n => by
    obtain ⟨sl, g, q⟩ := S.keep a o e n
    obtain ⟨sl', g', q'⟩ := k a _ g
    refine ⟨sl', g', fun f => ?_⟩
    rcases S.low a o e n with z | z | z
    · exact (q' (not_loose z)).trans (q f)
    · exact (q' (not_loose z)).trans (q f)
    · exact absurd z f
  low := S.low
  high := fun a e => S.high a (k.none e)
  locs := S.locs
  cels := fun n c e => let ⟨a, b, v, q⟩ := S.cels n c e; ⟨a, b, v, k.cell q⟩
  inj := S.inj
  allc := S.allc
  ns := let ⟨m, q⟩ := S.ns; ⟨m, k.ns q⟩
  keys := S.keys
  vars := fun x b e => (S.vars x b e).imp id fun ⟨v, q, r⟩ => ⟨v, q.slk k, r.mono (fun a o p g => ⟨k.exact (not_loose p) g, p⟩) (fun a o p g => ⟨k.exact (not_loose p) g, p⟩)⟩
  frm := let ⟨L, o, e1, e0, e2, e3, e4⟩ := S.frm; let ⟨o', g, d⟩ := k.data e3; ⟨L, o', e1, e0, e2, g, fun vs => d ▸ e4 vs⟩
inductive Ext (D : Addr → Prop) (s s' : Shared) : Prop
  | mk (h' : Heap) (tk : Nat) (e : s' = { s with heap := h', toks := tk }) (k : Slk D s.heap h')
section
variable {D : Addr → Prop}
theorem Ext.refl (s : Shared) : Ext D s s := ⟨s.heap, s.toks, rfl, Slk.refl _⟩
theorem Ext.tok (s : Shared) (t : Nat) : Ext D s { s with toks := t } := ⟨s.heap, t, rfl, Slk.refl _⟩
theorem Ext.trans {s₁ s₂ s₃ : Shared} (x : Ext D s₁ s₂) (y : Ext D s₂ s₃) : Ext D s₁ s₃ := by
  obtain ⟨h, tk, rfl, k⟩ := x
  obtain ⟨h', tk', rfl, k'⟩ := y
  exact ⟨h', tk', rfl, k.trans k'⟩
theorem Ext.slk {s s' : Shared} (x : Ext D s s') : Slk D s.heap s'.heap := by obtain ⟨h, tk, rfl, k⟩ := x; exact k
theorem Ext.exact {s s' : Shared} {a : Addr} {o : Obj} (x : Ext D s s') (n : ¬ D a) (g : s.heap.get? a = some o) : s'.heap.get? a = some o := x.slk.exact n g
theorem Ext.none {s s' : Shared} {a : Addr} (x : Ext D s s') (g : s'.heap.get? a = none) : s.heap.get? a = none := x.slk.none g
theorem Ext.push (s : Shared) (o : Obj) (t : Nat) : Ext D s { s with heap := s.heap.push o, toks := t } := ⟨_, _, rfl, Slk.of fun _ _ e => Heap.get?_push_of_some _ e⟩
theorem Ext.of {s : Shared} {h' : Heap} {t : Nat} (k : s.heap.StaysIn h') : Ext D s { s with heap := h', toks := t } := ⟨_, _, rfl, Slk.of k⟩
theorem Ext.mono {D' : Addr → Prop} {s s' : Shared} (x : Ext D s s') (k : ∀ a, D a → D' a) : Ext D' s s' := by
  obtain ⟨h, tk, rfl, q⟩ := x
  exact ⟨h, tk, rfl, q.mono k⟩
end
structure Wrld where
  prog : Program
  w : World
  K : Frag
  G : Str → Option Value
  base : Heap
  calm : Bool
  nest : Option Value := none
noncomputable abbrev Wrld.M (W : Wrld) : Model := model W.prog W.w
structure Wrld.Good (W : Wrld) : Prop where
  k : W.K.In W.base
  g : W.base.Ns mainGlobals W.G
  b : ∃ mb, W.base.Ns builtinsNs mb ∧ ∀ x : Str, x ≠ "__name__" → mb x = bootBuiltins x
  nolim : W.base.NoLimit
  nodig : ∃ mc, W.base.Ns cStatics mc ∧ mc "sys.int_max_str_digits" = none
structure Wrld.Ok (W : Wrld) (h : Heap) : Prop where
  good : W.Good
  stays : W.base.StaysIn h
section
variable {W : Wrld} {h : Heap}
theorem Wrld.Ok.k (x : W.Ok h) : W.K.In h := x.good.k.keeps x.stays
theorem Wrld.Ok.g (x : W.Ok h) : h.Ns mainGlobals W.G := x.good.g.keeps x.stays
theorem Wrld.Ok.b (x : W.Ok h) : ∃ mb, h.Ns builtinsNs mb ∧ ∀ x : Str, x ≠ "__name__" → mb x = bootBuiltins x := let ⟨mb, a, b⟩ := x.good.b; ⟨mb, a.keeps x.stays, b⟩
theorem Wrld.Ok.nolim (x : W.Ok h) : h.NoLimit := x.good.nolim.keeps x.stays
end
noncomputable def inFrames (A : Around) (a : Addr) : Prop := ∃ l, A.frames = some l ∧ a ∈ l.filterMap (·.frame)
structure AmbC (W : Wrld) (ht : Nat) (A : Around) (h : Heap) : Prop where
  ok : W.Ok h
  handled : W.calm = true → A.handled = none
  depth : A.depth + ht < recursionLimit
  units : A.units + 100 * ht + 200 < cLine
  frames : ∃ outer, A.frames = some outer ∧ h.FunFrames W.base outer
theorem AmbC.less {W : Wrld} {n m : Nat} {A : Around} {h : Heap} (x : AmbC W n A h) (e : m ≤ n) : AmbC W m A h :=
  ⟨x.ok, x.handled, by have := x.depth; lia, by have := x.units; lia, x.frames⟩
theorem AmbC.fresh {W : Wrld} {n : Nat} {A : Around} {h : Heap} (x : AmbC W n A h) {a : Addr} (e : inFrames A a) : W.base.get? a = none ∧ ∃ o, h.get? a = some o ∧ ∀ vs, o.data ≠ .fields vs := by
  obtain ⟨l, e1, e2⟩ := e
  obtain ⟨l', e3, f⟩ := x.frames
  rw [e1] at e3; cases e3
  exact f.mem e2
structure Amb (W : Wrld) (ht : Nat) (A : Around) (env : Env) (base : Heap) : Prop where
  ok : W.Ok base
  handled : W.calm = true → A.handled = none
  depth : A.depth + ht < recursionLimit
  units : A.units + 100 * ht + 200 < cLine
  frames : ∃ fenv outer, A.frames = some (fenv :: outer) ∧ fenv.frame = env.frame ∧ fenv.scope.kind ≠ .module ∧ base.FunFrames W.base outer
structure EnvOk (env : Env) : Prop where
  kind : env.scope.kind = .function
  glob : env.globals = mainGlobals
  bi : env.builtins = builtinsNs
inductive Exc (reg : Reg) (h : Heap) (c : Value) (e : Addr) : Prop
  | mk (oe : Obj) (vs : Array Value) (a0 : Value) (T : Addr) (oT : Obj) (ts : Array Value) (fl : Value) (h1 : reg e = .ob) (h2 : h.get? e = some oe) (h3 : oe.cls = c) (h4 : oe.data = .fields vs) (h5 : vs[0]? = some a0) (h6 : vs[2]? = some .none)
      (h7 : vs[1]? = some (.ref T)) (h8 : reg T = .ob) (h9 : T ≠ e) (h10 : h.get? T = some oT) (h11 : oT.data = .fields ts) (h12 : ts[3]? = some fl)
theorem Exc.mono {reg reg' : Reg} {h h' : Heap} {c : Value} {e : Addr} (x : Exc reg h c e) (k : ∀ a o, reg a = .ob → h.get? a = some o → h'.get? a = some o ∧ reg' a = .ob) : Exc reg' h' c e := by
  obtain ⟨oe, vs, a0, T, oT, ts, fl, h1, h2, h3, h4, h5, h6, h7, h8, h9, h10, h11, h12⟩ := x
  exact ⟨oe, vs, a0, T, oT, ts, fl, (k _ _ h1 h2).2, (k _ _ h1 h2).1, h3, h4, h5, h6, h7, (k _ _ h8 h10).2, h9, (k _ _ h8 h10).1, h11, h12⟩
noncomputable def Hnd (c : Value) (A : Around) (reg : Reg) (h : Heap) : Prop := ∃ e, A.handled = some (.ref e) ∧ Exc reg h c e
theorem Hnd.mono {c : Value} {A : Around} {reg reg' : Reg} {h h' : Heap} (x : Hnd c A reg h) (k : ∀ a o, reg a = .ob → h.get? a = some o → h'.get? a = some o ∧ reg' a = .ob) : Hnd c A reg' h' := by
  obtain ⟨e, h1, h2⟩ := x
  exact ⟨e, h1, h2.mono k⟩
structure Here (W : Wrld) (ht : Nat) (sc : Scope) (ρ : Vars) (obs : Obs) (A : Around) (env : Env) (base : Heap) (reg : Reg) (s : Shared) : Prop where
  sc : env.scope = sc
  eok : EnvOk env
  amb : Amb W ht A env base
  sta : Sta base env ρ obs reg s.heap
  ksh : ∀ a o, W.base.get? a = some o → reg a = .sh ∧ ¬ obs a
  fos : ∀ a, inFrames A a → env.frame = some a ∨ (reg a = .fo ∧ ¬ obs a)
  hnd : ∀ c, W.nest = some c → Hnd c A reg s.heap
section
variable {W : Wrld} {ht : Nat} {sc : Scope} {ρ : Vars} {obs : Obs} {A : Around} {env : Env} {base : Heap} {reg : Reg} {s s' : Shared}
theorem Here.ext (H : Here W ht sc ρ obs A env base reg s) (x : Ext (Loose reg) s s') : Here W ht sc ρ obs A env base reg s' := ⟨H.sc, H.eok, H.amb, H.sta.ext x.slk, H.ksh, H.fos, fun c e => (H.hnd c e).mono fun a o q g => ⟨x.exact (not_loose q) g, q⟩⟩
theorem Here.ok (H : Here W ht sc ρ obs A env base reg s) : W.Ok s.heap := ⟨H.amb.ok.good, fun a o e => by
  obtain ⟨q1, q2⟩ := H.ksh a o e
  obtain ⟨sl, g, q⟩ := H.sta.keep a o (H.amb.ok.stays a o e) q2
  rw [q (by rw [q1]; intro z; contradiction)] at g; exact g⟩
theorem Here.kat {a : Addr} {o : Obj} (H : Here W ht sc ρ obs A env base reg s) (e : W.K.lookup a = some o) : s.heap.get? a = some o := H.ok.k _ _ e
theorem Here.kreg {a : Addr} {o : Obj} (H : Here W ht sc ρ obs A env base reg s) (e : W.K.lookup a = some o) : reg a = .sh := (H.ksh a o (H.amb.ok.good.k _ _ e)).1
theorem Here.pok (H : Here W ht sc ρ obs A env base reg s) : ∀ a, (s.heap.get? a = none ∨ ∃ o, W.base.get? a = some o) → Sh reg a := fun a q => q.elim (H.sta.high a) fun ⟨o, e⟩ => (H.ksh a o e).1
theorem Here.loose (H : Here W ht sc ρ obs A env base reg s) {a : Addr} (e : inFrames A a) : Loose reg a := by
  rcases H.fos a e with q | q
  · obtain ⟨L, o, f1, f0, _⟩ := H.sta.frm
    rw [f1] at q; cases q; exact .inl f0
  · exact .inr q.1
theorem Here.pno (H : Here W ht sc ρ obs A env base reg s) : ∀ a, inFrames A a → ¬ Sh reg a := fun a e q => by
  rcases H.loose e with z | z <;> rw [show reg a = .sh from q] at z <;> contradiction
theorem Here.call (H : Here W ht sc ρ obs A env base reg s) : AmbC W ht A s.heap := by
  obtain ⟨fenv, outer, e1, e2, e3, e4⟩ := H.amb.frames
  obtain ⟨L, o, f1, f0, f2, f3, f4⟩ := H.sta.frm
  refine ⟨H.ok, H.amb.handled, H.amb.depth, H.amb.units, fenv :: outer, e1, e3, ⟨L, o, e2.trans f1, ?_, f3, f4⟩, ?_⟩
  · cases q : W.base.get? L with
    | none => rfl
    | some o' => rw [H.amb.ok.stays L o' q] at f2; contradiction
  · have key : ∀ l : List Env, (∀ a ∈ l.filterMap (·.frame), inFrames A a) → base.FunFrames W.base l → s.heap.FunFrames W.base l := by
      intro l
      induction l with
      | nil => intro _ _; trivial
      | cons e r ih =>
        rintro hin ⟨k1, ⟨L', o', g1, g2, g3, g4⟩, k3⟩
        refine ⟨k1, ?_, ih (fun a ha => hin a (by rw [List.filterMap_cons, g1]; exact List.mem_cons_of_mem _ ha)) k3⟩
        rcases H.fos L' (hin L' (by rw [List.filterMap_cons, g1]; exact List.mem_cons_self)) with z | z
        · rw [f1] at z; cases z; rw [f2] at g3; contradiction
        · obtain ⟨sl, g5, _⟩ := H.sta.keep L' o' g3 z.2
          exact ⟨L', _, g1, g2, g5, g4⟩
    refine key outer (fun a ha => ⟨fenv :: outer, e1, ?_⟩) e4
    rw [List.filterMap_cons]
    split
    · exact ha
    · exact List.mem_cons_of_mem _ ha
theorem Here.kindOf (H : Here W ht sc ρ obs A env base reg s) (x : Str) : env.kindOf x = sc.names.lookup x := by rw [← H.sc]; rfl
end
noncomputable def Ev (W : Wrld) (ht : Nat) (sc : Scope) (ρ : Vars) (obs : Obs) (e : Expr) (d : PyData) : Prop :=
  ∀ ⦃A : Around⦄ ⦃env : Env⦄ ⦃base : Heap⦄ ⦃reg : Reg⦄ ⦃s : Shared⦄ ⦃Q : Value → Shared → Prop⦄ ⦃E : Value → Shared → Prop⦄, Here W ht sc ρ obs A env base reg s →
    (∀ s' v, Ext (Loose reg) s s' → Rl s'.heap (Sh reg) d v → Q v s') → wpAny W.M A (eval e env) Q E s
noncomputable def EvT (W : Wrld) (ht : Nat) (sc : Scope) (ρ : Vars) (obs : Obs) (e : Expr) (b : Bool) : Prop :=
  ∀ ⦃A : Around⦄ ⦃env : Env⦄ ⦃base : Heap⦄ ⦃reg : Reg⦄ ⦃s : Shared⦄ ⦃Q : Bool → Shared → Prop⦄ ⦃E : Value → Shared → Prop⦄, Here W ht sc ρ obs A env base reg s →
    (∀ s', Ext (Loose reg) s s' → Q b s') → wpAny W.M A (isTrue e env (eval e env)) Q E s
theorem Rl.ext {reg : Reg} {s s' : Shared} {d : PyData} {v : Value} (x : Ext (Loose reg) s s') (r : Rl s.heap (Sh reg) d v) : Rl s'.heap (Sh reg) d v := Rl.mono (fun a o p g => ⟨x.exact (not_loose p) g, p⟩) d v r
theorem RlAll.ext {reg : Reg} {s s' : Shared} {d : List PyData} {v : List Value} (x : Ext (Loose reg) s s') (r : RlAll s.heap (Sh reg) d v) : RlAll s'.heap (Sh reg) d v := RlAll.mono (fun a o p g => ⟨x.exact (not_loose p) g, p⟩) d v r
section
variable {W : Wrld} {ht : Nat} {sc : Scope} {ρ : Vars} {obs : Obs}
theorem Ev.const_int {i : Int} {k : Nat} {pos : Pos} : Ev W ht sc ρ obs (.Constant (.int i) k pos) (.int i) := fun _ _ _ _ _ _ _ _ hQ => wpAny_Constant_int (hQ _ _ (Ext.tok _ _) ⟨_, rfl⟩)
theorem Ev.const_bool {i : Bool} {k : Nat} {pos : Pos} : Ev W ht sc ρ obs (.Constant (.bool i) k pos) (.bool i) := fun _ _ _ _ _ _ _ _ hQ => wpAny_Constant_bool (hQ _ _ (Ext.refl _) rfl)
theorem Ev.const_none {k : Nat} {pos : Pos} : Ev W ht sc ρ obs (.Constant .none k pos) .none := fun _ _ _ _ _ _ _ _ hQ => wpAny_Constant_none (hQ _ _ (Ext.refl _) rfl)
theorem Ev.const_str {x : Str} {k : Nat} {pos : Pos} : Ev W ht sc ρ obs (.Constant (.str x) k pos) (.str x) := fun _ _ _ _ _ _ _ _ hQ => wpAny_Constant_str (hQ _ _ (Ext.tok _ _) ⟨_, rfl⟩)
theorem VarAt.load {M : Model} {A : Around} {env : Env} {s : Shared} {x : Str} {v : Value} {Q : Value → Shared → Prop} {E : Value → Shared → Prop} (hk : env.scope.kind = .function) (V : VarAt env s.heap x v)
    (h : Q v s) (hn : (x == ("__classdict__" : Str)) = false) : wpAny M A (loadName env x) Q E s := by
  rcases V with ⟨e, m, n, q⟩ | ⟨e | e, c, l, q⟩
  · exact wpAny_loadName_local hk e n q h
  · exact wpAny_loadName_cell hk e l q h
  · exact wpAny_loadName_free hk e l q h hn
theorem Ev.name {x : Str} {pos : Pos} {d : PyData} (hx : (x, .sh d) ∈ ρ) (hn : (x == ("__classdict__" : Str)) = false := by decide) (hd : (x == ("__debug__" : Str)) = false := by decide) :
    Ev W ht sc ρ obs (.Name x pos) d := by
  intro A env base reg s Q E H hQ
  obtain ⟨v, V, r⟩ := (H.sta.vars x _ hx).resolve_left (fun e => nomatch e)
  exact wpAny_Name (V.load H.eok.kind (hQ s v (Ext.refl s) r) hn) hd
theorem Ev.add {l r : Expr} {pos : Pos} {a b : Int} (hl : Ev W ht sc ρ obs l (.int a)) (hr : Ev W ht sc ρ obs r (.int b)) : Ev W ht sc ρ obs (.BinOp l .Add r pos) (.int (a + b)) := by
  intro A env base reg s Q E H hQ
  refine wpAny_BinOp (hl H fun s₁ v₁ x₁ r₁ => hr (H.ext x₁) fun s₂ v₂ x₂ r₂ => ?_)
  obtain ⟨t₁, rfl⟩ := r₁
  obtain ⟨t₂, rfl⟩ := r₂
  exact add_int (hQ _ _ ((x₁.trans x₂).trans (Ext.tok _ _)) ⟨_, rfl⟩)
end
section
variable {W : Wrld} {ht : Nat} {sc : Scope} {ρ : Vars} {obs : Obs}
theorem Ev.bin {l r : Expr} {op : Operator} {pos : Pos} {d₁ d₂ d : PyData} (hl : Ev W ht sc ρ obs l d₁) (hr : Ev W ht sc ρ obs r d₂)
    (h : ∀ {A : Around} {s : Shared} {Q : Value → Shared → Prop} {E : Value → Shared → Prop} {P D : Addr → Prop} {v₁ v₂ : Value}, AmbC W ht A s.heap → (∀ a, s.heap.get? a = none → P a) → Rl s.heap P d₁ v₁ → Rl s.heap P d₂ v₂ →
      (∀ s' v, Ext D s s' → Rl s'.heap P d v → Q v s') → wpAny W.M A (binaryOp op v₁ v₂) Q E s) : Ev W ht sc ρ obs (.BinOp l op r pos) d := by
  intro A env base reg s Q E H hQ
  refine wpAny_BinOp (hl H fun s₁ v₁ x₁ r₁ => hr (H.ext x₁) fun s₂ v₂ x₂ r₂ => ?_)
  exact h ((H.ext x₁).ext x₂).call ((H.ext x₁).ext x₂).sta.high (r₁.ext x₂) r₂ fun s' v x r => hQ s' v ((x₁.trans x₂).trans x) r
theorem Ev.sub {l r : Expr} {pos : Pos} {a b : Int} (hl : Ev W ht sc ρ obs l (.int a)) (hr : Ev W ht sc ρ obs r (.int b)) : Ev W ht sc ρ obs (.BinOp l .Sub r pos) (.int (a - b)) := by
  refine hl.bin hr fun _ _ r₁ r₂ hQ => ?_
  obtain ⟨t₁, rfl⟩ := r₁; obtain ⟨t₂, rfl⟩ := r₂
  exact sub_int (hQ _ _ (Ext.tok _ _) ⟨_, rfl⟩)
theorem Ev.mul {l r : Expr} {pos : Pos} {a b : Int} (hl : Ev W ht sc ρ obs l (.int a)) (hr : Ev W ht sc ρ obs r (.int b)) (hm : IntMulOk a b) : Ev W ht sc ρ obs (.BinOp l .Mult r pos) (.int (a * b)) := by
  refine hl.bin hr fun _ _ r₁ r₂ hQ => ?_
  obtain ⟨t₁, rfl⟩ := r₁; obtain ⟨t₂, rfl⟩ := r₂
  exact mul_int (hQ _ _ (Ext.tok _ _) ⟨_, rfl⟩) hm
theorem Ev.mod {l r : Expr} {pos : Pos} {a b : Int} (hl : Ev W ht sc ρ obs l (.int a)) (hr : Ev W ht sc ρ obs r (.int b)) (hb : b ≠ 0 := by decide) : Ev W ht sc ρ obs (.BinOp l .Mod r pos) (.int (a.fmod b)) := by
  refine hl.bin hr fun _ _ r₁ r₂ hQ => ?_
  obtain ⟨t₁, rfl⟩ := r₁; obtain ⟨t₂, rfl⟩ := r₂
  exact mod_int hb (hQ _ _ (Ext.tok _ _) ⟨_, rfl⟩)
theorem Ev.fdiv {l r : Expr} {pos : Pos} {a b : Int} (hl : Ev W ht sc ρ obs l (.int a)) (hr : Ev W ht sc ρ obs r (.int b)) (hb : b ≠ 0 := by decide) (hn : b.natAbs < 1073741824 := by decide) :
    Ev W ht sc ρ obs (.BinOp l .FloorDiv r pos) (.int (a.fdiv b)) := by
  refine hl.bin hr fun _ _ r₁ r₂ hQ => ?_
  obtain ⟨t₁, rfl⟩ := r₁; obtain ⟨t₂, rfl⟩ := r₂
  exact floordiv_int hb (hQ _ _ (Ext.tok _ _) ⟨_, rfl⟩) (.inl (PyProof.noPylong_small hn))
theorem Ev.band {l r : Expr} {pos : Pos} {a b : Int} (hl : Ev W ht sc ρ obs l (.int a)) (hr : Ev W ht sc ρ obs r (.int b)) : Ev W ht sc ρ obs (.BinOp l .BitAnd r pos) (.int (Builtin.bitAnd a b)) := by
  refine hl.bin hr fun _ _ r₁ r₂ hQ => ?_
  obtain ⟨t₁, rfl⟩ := r₁; obtain ⟨t₂, rfl⟩ := r₂
  exact and_int (hQ _ _ (Ext.tok _ _) ⟨_, rfl⟩)
theorem Ev.bxor {l r : Expr} {pos : Pos} {a b : Int} (hl : Ev W ht sc ρ obs l (.int a)) (hr : Ev W ht sc ρ obs r (.int b)) : Ev W ht sc ρ obs (.BinOp l .BitXor r pos) (.int (Builtin.bitXor a b)) := by
  refine hl.bin hr fun _ _ r₁ r₂ hQ => ?_
  obtain ⟨t₁, rfl⟩ := r₁; obtain ⟨t₂, rfl⟩ := r₂
  exact xor_int (hQ _ _ (Ext.tok _ _) ⟨_, rfl⟩)
theorem Ev.pow {l r : Expr} {pos : Pos} {a b : Int} (hl : Ev W ht sc ρ obs l (.int a)) (hr : Ev W ht sc ρ obs r (.int b)) (h1 : 0 ≤ b) (h2 : b ≤ 1000000) (h3 : a.natAbs < 2 ^ 64) :
    Ev W ht sc ρ obs (.BinOp l .Pow r pos) (.int (a ^ b.toNat)) := by
  refine hl.bin hr fun _ _ r₁ r₂ hQ => ?_
  obtain ⟨t₁, rfl⟩ := r₁; obtain ⟨t₂, rfl⟩ := r₂
  exact pow_int_small h1 h2 h3 (hQ _ _ (Ext.tok _ _) ⟨_, rfl⟩)
theorem strlen_beq {x : Str} (h : (x.length == 0) = true) : x = ⟨#[]⟩ := by
  obtain ⟨c⟩ := x
  have : c.size = 0 := by simpa [Str.length] using h
  rw [Array.eq_empty_of_size_eq_zero this]
theorem Ev.add_str {l r : Expr} {pos : Pos} {a b : Str} (hl : Ev W ht sc ρ obs l (.str a)) (hr : Ev W ht sc ρ obs r (.str b)) (hz : (a ++ b).length ≤ sizeLine) : Ev W ht sc ρ obs (.BinOp l .Add r pos) (.str (a ++ b)) := by
  refine hl.bin hr fun _ _ r₁ r₂ hQ => ?_
  obtain ⟨t₁, rfl⟩ := r₁; obtain ⟨t₂, rfl⟩ := r₂
  refine PySem.P.add_str ?_
  split
  · rename_i e; rw [strlen_beq e] at hQ
    exact hQ _ _ (Ext.refl _) ⟨_, by rw [show (⟨#[]⟩ : Str) ++ b = b from by obtain ⟨c⟩ := b; show Str.mk (#[] ++ c) = _; simp]⟩
  · split
    · rename_i e; rw [strlen_beq e] at hQ
      exact hQ _ _ (Ext.refl _) ⟨_, by rw [show a ++ (⟨#[]⟩ : Str) = a from by obtain ⟨c⟩ := a; show Str.mk (c ++ #[]) = _; simp]⟩
    · exact ⟨hz, hQ _ _ (Ext.tok _ _) ⟨_, rfl⟩⟩
theorem Ev.cmp {l r : Expr} {op : CmpOp} {pos : Pos} {d₁ d₂ : PyData} {b : Bool} (hl : Ev W ht sc ρ obs l d₁) (hr : Ev W ht sc ρ obs r d₂)
    (h : ∀ {A : Around} {s : Shared} {Q : Value → Shared → Prop} {E : Value → Shared → Prop} {P D : Addr → Prop} {v₁ v₂ : Value}, AmbC W ht A s.heap → Rl s.heap P d₁ v₁ → Rl s.heap P d₂ v₂ →
      (∀ s', Ext D s s' → Q (.bool b) s') → wpAny W.M A (compareOp op v₁ v₂) Q E s) (hm : behindInMarks op r = false) : Ev W ht sc ρ obs (.Compare l [op] [r] pos) (.bool b) := by
  intro A env base reg s Q E H hQ
  refine wpAny_Compare1 (hl H fun s₁ v₁ x₁ r₁ => hr (H.ext x₁) fun s₂ v₂ x₂ r₂ => ?_) hm
  exact h ((H.ext x₁).ext x₂).call (r₁.ext x₂) r₂ fun s' x => hQ s' _ ((x₁.trans x₂).trans x) rfl
theorem Ev.eq_int {l r : Expr} {pos : Pos} {a b : Int} (hl : Ev W ht sc ρ obs l (.int a)) (hr : Ev W ht sc ρ obs r (.int b)) (hm : behindInMarks .Eq r = false := by with_unfolding_all rfl) : Ev W ht sc ρ obs (.Compare l [.Eq] [r] pos) (.bool (a == b)) :=
  hl.cmp hr (fun _ r₁ r₂ hQ => by obtain ⟨t₁, rfl⟩ := r₁; obtain ⟨t₂, rfl⟩ := r₂; exact PyProof.Rows.eq_int (hQ _ (Ext.refl _))) hm
theorem Ev.ne_int {l r : Expr} {pos : Pos} {a b : Int} (hl : Ev W ht sc ρ obs l (.int a)) (hr : Ev W ht sc ρ obs r (.int b)) (hm : behindInMarks .NotEq r = false := by with_unfolding_all rfl) : Ev W ht sc ρ obs (.Compare l [.NotEq] [r] pos) (.bool (a != b)) :=
  hl.cmp hr (fun _ r₁ r₂ hQ => by obtain ⟨t₁, rfl⟩ := r₁; obtain ⟨t₂, rfl⟩ := r₂; exact PyProof.Rows.ne_int (hQ _ (Ext.refl _))) hm
theorem Ev.lt_int {l r : Expr} {pos : Pos} {a b : Int} (hl : Ev W ht sc ρ obs l (.int a)) (hr : Ev W ht sc ρ obs r (.int b)) (hm : behindInMarks .Lt r = false := by with_unfolding_all rfl) : Ev W ht sc ρ obs (.Compare l [.Lt] [r] pos) (.bool (decide (a < b))) :=
  hl.cmp hr (fun _ r₁ r₂ hQ => by obtain ⟨t₁, rfl⟩ := r₁; obtain ⟨t₂, rfl⟩ := r₂; exact PyProof.Rows.lt_int (hQ _ (Ext.refl _))) hm
theorem Ev.gt_int {l r : Expr} {pos : Pos} {a b : Int} (hl : Ev W ht sc ρ obs l (.int a)) (hr : Ev W ht sc ρ obs r (.int b)) (hm : behindInMarks .Gt r = false := by with_unfolding_all rfl) : Ev W ht sc ρ obs (.Compare l [.Gt] [r] pos) (.bool (decide (b < a))) :=
  hl.cmp hr (fun _ r₁ r₂ hQ => by obtain ⟨t₁, rfl⟩ := r₁; obtain ⟨t₂, rfl⟩ := r₂; exact PyProof.Rows.gt_int (hQ _ (Ext.refl _))) hm
theorem Ev.eq_any {l r : Expr} {pos : Pos} {a b : PyData} (hl : Ev W ht sc ρ obs l a) (hr : Ev W ht sc ρ obs r b) (ha : SeqAt.shaped a = true) (hb : SeqAt.shaped b = true) (hm : behindInMarks .Eq r = false := by with_unfolding_all rfl) :
    Ev W ht sc ρ obs (.Compare l [.Eq] [r] pos) (.bool (PyData.eqv a b)) :=
  hl.cmp hr (fun m r₁ r₂ hQ => by
    obtain ⟨_, q₁, _⟩ := r₁.reads; obtain ⟨_, q₂, _⟩ := r₂.reads
    exact SeqAt.compareEq_shaped q₁ q₂ ha hb (by have := m.units; (lia -abstractProof)) (hQ _ (Ext.refl _))) hm
theorem Ev.ne_any {l r : Expr} {pos : Pos} {a b : PyData} (hl : Ev W ht sc ρ obs l a) (hr : Ev W ht sc ρ obs r b) (ha : SeqAt.shaped a = true) (hb : SeqAt.shaped b = true) (hm : behindInMarks .NotEq r = false := by with_unfolding_all rfl) :
    Ev W ht sc ρ obs (.Compare l [.NotEq] [r] pos) (.bool (!PyData.eqv a b)) :=
  hl.cmp hr (fun m r₁ r₂ hQ => by
    obtain ⟨_, q₁, _⟩ := r₁.reads; obtain ⟨_, q₂, _⟩ := r₂.reads
    exact SeqAt.compareNe_shaped q₁ q₂ ha hb (by have := m.units; (lia -abstractProof)) (hQ _ (Ext.refl _))) hm
theorem Ev.in_list {l r : Expr} {pos : Pos} {d : PyData} {xs : List PyData} (hl : Ev W ht sc ρ obs l d) (hr : Ev W ht sc ρ obs r (.list xs)) (hx : SeqAt.shaped (.list xs) = true) (hd : SeqAt.shaped d = true) (hm : behindInMarks .In r = false := by with_unfolding_all rfl) :
    Ev W ht sc ρ obs (.Compare l [.In] [r] pos) (.bool (xs.any fun y => PyData.eqv y d)) :=
  hl.cmp hr (fun m r₁ r₂ hQ => by
    obtain ⟨_, q₁, _⟩ := r₁.reads; obtain ⟨_, q₂, _⟩ := r₂.reads
    exact SeqAt.in_list_reads q₂ q₁ (SeqAt.canLay_of_shaped hx) (SeqAt.canLay_of_shaped hd) (by have := m.units; have := SeqAt.depth_of_shaped hd; (lia -abstractProof)) (hQ _ (Ext.refl _))) hm
theorem Ev.notin_list {l r : Expr} {pos : Pos} {d : PyData} {xs : List PyData} (hl : Ev W ht sc ρ obs l d) (hr : Ev W ht sc ρ obs r (.list xs)) (hx : SeqAt.shaped (.list xs) = true) (hd : SeqAt.shaped d = true) (hm : behindInMarks .NotIn r = false := by with_unfolding_all rfl) :
    Ev W ht sc ρ obs (.Compare l [.NotIn] [r] pos) (.bool (!xs.any fun y => PyData.eqv y d)) :=
  hl.cmp hr (fun m r₁ r₂ hQ => by
    obtain ⟨_, q₁, _⟩ := r₁.reads; obtain ⟨_, q₂, _⟩ := r₂.reads
    exact SeqAt.notIn_list_reads q₂ q₁ (SeqAt.canLay_of_shaped hx) (SeqAt.canLay_of_shaped hd) (by have := m.units; have := SeqAt.depth_of_shaped hd; (lia -abstractProof)) (hQ _ (Ext.refl _))) hm
theorem Ev.in_tuple {l r : Expr} {pos : Pos} {d : PyData} {xs : List PyData} (hl : Ev W ht sc ρ obs l d) (hr : Ev W ht sc ρ obs r (.tuple xs)) (hx : SeqAt.shaped (.tuple xs) = true) (hd : SeqAt.shaped d = true) (hm : behindInMarks .In r = false := by with_unfolding_all rfl) :
    Ev W ht sc ρ obs (.Compare l [.In] [r] pos) (.bool (xs.any fun y => PyData.eqv y d)) :=
  hl.cmp hr (fun m r₁ r₂ hQ => by
    obtain ⟨_, q₁, _⟩ := r₁.reads; obtain ⟨_, q₂, _⟩ := r₂.reads
    exact SeqAt.in_tuple_reads q₂ q₁ (SeqAt.canLay_of_shaped hx) (SeqAt.canLay_of_shaped hd) (by have := m.units; have := SeqAt.depth_of_shaped hd; (lia -abstractProof)) (hQ _ (Ext.refl _))) hm
end
section
variable {W : Wrld} {ht : Nat} {sc : Scope} {ρ : Vars} {obs : Obs}
noncomputable def truth : PyData → Option Bool
  | .none => some false
  | .bool b => some b
  | .int i => some (i != 0)
  | .list xs => if xs.length < 2 ^ 24 then some (!xs.isEmpty) else none
  | _ => none
theorem truthy_of {A : Around} {s : Shared} {P D : Addr → Prop} {d : PyData} {v : Value} {b : Bool} {Q : Bool → Shared → Prop} {E : Value → Shared → Prop} (r : Rl s.heap P d v) (hb : truth d = some b)
    (hQ : ∀ s', Ext D s s' → Q b s') : wpAny W.M A (truthy v) Q E s := by
  cases d with
  | none => cases r; cases hb; exact truthy_none (hQ _ (Ext.refl _))
  | bool c => cases r; cases hb; exact wpAny_truthy_bool (hQ _ (Ext.refl _))
  | int i => obtain ⟨t, rfl⟩ := r; cases hb; exact PySem.P.truthy_int (hQ _ (Ext.refl _))
  | str x => contradiction
  | tuple xs => contradiction
  | dict xs => contradiction
  | list xs =>
    obtain ⟨a, vs, n, rfl, p, g, r⟩ := r
    have hl := r.length
    simp only [truth] at hb
    split at hb
    · rename_i hz
      cases hb
      have e : (!vs.isEmpty) = !xs.isEmpty := by
        cases xs <;> simp_all [Array.isEmpty]
      refine wpAny_truthy_list ⟨_, g, rfl, n, rfl⟩ ?_ (e ▸ hQ _ (Ext.tok _ _))
      have : vs.size = xs.length := by simpa using hl
      (lia -abstractProof)
    · contradiction
theorem EvT.plain {e : Expr} {d : PyData} {b : Bool} (he : Ev W ht sc ρ obs e d) (hb : truth d = some b)
    (hp : ∀ (env : Env) whole, isTrue e env whole = (do let v ← whole; standAt e.pos; holding [v] (truthy v)) := by intro _ _; rfl) : EvT W ht sc ρ obs e b := by
  intro A env base reg s Q E H hQ
  exact isTrue_plain (he H fun s₁ v x r => truthy_of r hb fun s' x' => hQ s' (x.trans x')) (hp env _)
theorem EvT.cmp {l r : Expr} {op : CmpOp} {pos : Pos} {b : Bool} (he : Ev W ht sc ρ obs (.Compare l [op] [r] pos) (.bool b)) : EvT W ht sc ρ obs (.Compare l [op] [r] pos) b := by
  intro A env base reg s Q E H hQ
  have key := he (Q := fun v s' => v = .bool b ∧ Ext (Loose reg) s s') (E := E) H fun s' v x r => ⟨r, x⟩
  have e : ∀ whole, isTrue (.Compare l [op] [r] pos) env whole = (eval (.Compare l [op] [r] pos) env >>= fun c => holding [c] (truthy c)) := by
    intro whole
    rw [isTrue_Compare1, eval_Compare1]
    simp only [bind_assoc]
  rw [e]
  refine wpAny_bind (wpAny_mono key (fun v s' h => ?_) fun _ _ e => e)
  obtain ⟨rfl, x⟩ := h
  exact wpAny_holding (wpAny_truthy_bool (hQ _ x))
theorem EvT.not {x : Expr} {pos : Pos} {b : Bool} (hx : EvT W ht sc ρ obs x b) : EvT W ht sc ρ obs (.UnaryOp .Not x pos) (!b) := by
  intro A env base reg s Q E H hQ
  exact isTrue_not (hx H fun s' x => hQ s' x)
noncomputable def EvAnd (W : Wrld) (ht : Nat) (sc : Scope) (ρ : Vars) (obs : Obs) (op : BoolOp) (es : List Expr) (b : Bool) : Prop :=
  ∀ ⦃A : Around⦄ ⦃env : Env⦄ ⦃base : Heap⦄ ⦃reg : Reg⦄ ⦃s : Shared⦄ ⦃Q : Bool → Shared → Prop⦄ ⦃E : Value → Shared → Prop⦄, Here W ht sc ρ obs A env base reg s →
    (∀ s', Ext (Loose reg) s s' → Q b s') → wpAny W.M A (allTrue op es env) Q E s
theorem EvAnd.nilA : EvAnd W ht sc ρ obs .And [] true := fun _ _ _ _ _ _ _ _ hQ => wpAny_allTrue_And_nil (hQ _ (Ext.refl _))
theorem EvAnd.nilO : EvAnd W ht sc ρ obs .Or [] false := fun _ _ _ _ _ _ _ _ hQ => wpAny_allTrue_Or_nil (hQ _ (Ext.refl _))
theorem EvAnd.consA {x : Expr} {es : List Expr} {b c : Bool} (hx : EvT W ht sc ρ obs x b) (hr : b = true → EvAnd W ht sc ρ obs .And es c) : EvAnd W ht sc ρ obs .And (x :: es) (b && c) := by
  intro A env base reg s Q E H hQ
  refine wpAny_allTrue_And_cons (hx H fun s₁ x₁ => ?_)
  cases b with
  | true => simp only [if_true]; exact hr rfl (H.ext x₁) fun s' x => hQ s' (x₁.trans x)
  | false => simp only [Bool.false_eq_true, if_false]; exact hQ s₁ x₁
theorem EvAnd.consO {x : Expr} {es : List Expr} {b c : Bool} (hx : EvT W ht sc ρ obs x b) (hr : b = false → EvAnd W ht sc ρ obs .Or es c) : EvAnd W ht sc ρ obs .Or (x :: es) (b || c) := by
  intro A env base reg s Q E H hQ
  refine wpAny_allTrue_Or_cons (hx H fun s₁ x₁ => ?_)
  cases b with
  | true => simp only [if_true]; exact hQ s₁ x₁
  | false => simp only [Bool.false_eq_true, if_false]; exact hr rfl (H.ext x₁) fun s' x => hQ s' (x₁.trans x)
theorem EvT.boolop {op : BoolOp} {es : List Expr} {pos : Pos} {b : Bool} (h : EvAnd W ht sc ρ obs op es b) : EvT W ht sc ρ obs (.BoolOp op es pos) b :=
  fun _ _ _ _ _ _ _ H hQ => wpAny_isTrue_BoolOp (h H hQ)
theorem EvT.and2 {x y : Expr} {pos : Pos} {b c : Bool} (hx : EvT W ht sc ρ obs x b) (hy : b = true → EvT W ht sc ρ obs y c) : EvT W ht sc ρ obs (.BoolOp .And [x, y] pos) (b && c) := by
  have := EvT.boolop (pos := pos) (EvAnd.consA hx (c := c && true) fun e => EvAnd.consA (hy e) fun _ => EvAnd.nilA)
  simpa using this
theorem EvT.or2 {x y : Expr} {pos : Pos} {b c : Bool} (hx : EvT W ht sc ρ obs x b) (hy : b = false → EvT W ht sc ρ obs y c) : EvT W ht sc ρ obs (.BoolOp .Or [x, y] pos) (b || c) := by
  have := EvT.boolop (pos := pos) (EvAnd.consO hx (c := c || false) fun e => EvAnd.consO (hy e) fun _ => EvAnd.nilO)
  simpa using this
theorem EvT.of_eq {e : Expr} {b c : Bool} (h : EvT W ht sc ρ obs e b) (q : b = c) : EvT W ht sc ρ obs e c := q ▸ h
theorem Ev.of_eq {e : Expr} {b c : PyData} (h : Ev W ht sc ρ obs e b) (q : b = c) : Ev W ht sc ρ obs e c := q ▸ h
theorem Ev.or2 {x y : Expr} {pos : Pos} {b c : Bool} (hx : Ev W ht sc ρ obs x (.bool b)) (hy : b = false → Ev W ht sc ρ obs y (.bool c)) : Ev W ht sc ρ obs (.BoolOp .Or [x, y] pos) (.bool (b || c)) := by
  intro A env base reg s Q E H hQ
  refine wpAny_Or2 (hx H fun s₁ v x₁ r => ?_)
  cases r
  refine wpAny_truthy_bool ?_
  cases b with
  | true => simp only [if_true]; exact hQ s₁ _ x₁ rfl
  | false => simp only [Bool.false_eq_true, if_false]; exact hy rfl (H.ext x₁) fun s' v x r => hQ s' v (x₁.trans x) r
theorem Ev.ifexp {t x y : Expr} {pos : Pos} {b : Bool} {d : PyData} (hb : EvT W ht sc ρ obs t b) (hx : b = true → Ev W ht sc ρ obs x d) (hy : b = false → Ev W ht sc ρ obs y d) : Ev W ht sc ρ obs (.IfExp t x y pos) d := by
  intro A env base reg s Q E H hQ
  refine wpAny_IfExp (hb H fun s₁ x₁ => ?_)
  cases b with
  | true => simp only [if_true]; exact hx rfl (H.ext x₁) fun s' v x r => hQ s' v (x₁.trans x) r
  | false => simp only [Bool.false_eq_true, if_false]; exact hy rfl (H.ext x₁) fun s' v x r => hQ s' v (x₁.trans x) r
theorem Ev.neg {x : Expr} {pos : Pos} {i : Int} (hx : Ev W ht sc ρ obs x (.int i)) : Ev W ht sc ρ obs (.UnaryOp .USub x pos) (.int (-i)) := by
  intro A env base reg s Q E H hQ
  refine wpAny_UnaryOp (hx H fun s₁ v x₁ r => ?_)
  obtain ⟨t, rfl⟩ := r
  exact PySem.P.neg_int (hQ _ _ (x₁.trans (Ext.tok _ _)) ⟨_, rfl⟩)
noncomputable def Plain (e : Expr) : Prop := ∀ (env : Env) rest, starEach (e :: rest) env = (false, eval e env) :: starEach rest env
noncomputable def EvAll (W : Wrld) (ht : Nat) (sc : Scope) (ρ : Vars) (obs : Obs) (es : List Expr) (ds : List PyData) : Prop :=
  (∀ (env : Env) (pos : Pos), (backTo pos (starEach es env)).any (·.1) = false ∧ (es ≠ [] → ∃ x r, backTo pos (starEach es env) = (false, x) :: r)) ∧
  ∀ ⦃A : Around⦄ ⦃env : Env⦄ ⦃base : Heap⦄ ⦃reg : Reg⦄ ⦃s : Shared⦄ ⦃Q : List Value → Shared → Prop⦄ ⦃E : Value → Shared → Prop⦄ (pos : Pos), Here W ht sc ρ obs A env base reg s →
    (∀ s' vs, Ext (Loose reg) s s' → RlAll s'.heap (Sh reg) ds vs → Q vs s') → wpAny W.M A (spliced (backTo pos (starEach es env))) Q E s
theorem EvAll.nil : EvAll W ht sc ρ obs [] [] := ⟨fun _ _ => ⟨rfl, fun h => absurd rfl h⟩, fun _ _ _ _ _ _ _ _ _ hQ => spliced_nil (hQ _ _ (Ext.refl _) rfl)⟩
theorem EvAll.cons {e : Expr} {es : List Expr} {d : PyData} {ds : List PyData} (he : Ev W ht sc ρ obs e d) (hes : EvAll W ht sc ρ obs es ds) (hp : Plain e := by intro _ _; rfl) : EvAll W ht sc ρ obs (e :: es) (d :: ds) := by
  have e1 : ∀ (env : Env) (pos : Pos), backTo pos (starEach (e :: es) env) = (false, eval e env) :: backTo pos (starEach es env) := fun env pos => by rw [hp env es]; rfl
  refine ⟨fun env pos => ⟨?_, fun _ => ⟨_, _, e1 env pos⟩⟩, ?_⟩
  · rw [e1, List.any_cons, (hes.1 env pos).1]; rfl
  · intro A env base reg s Q E pos H hQ
    rw [e1]
    exact spliced_cons (he H fun s₁ v x₁ r₁ => hes.2 pos (H.ext x₁) fun s₂ vs x₂ r₂ => hQ _ _ (x₁.trans x₂) ⟨v, vs, rfl, r₁.ext x₂, r₂⟩)
theorem Ev.tuple {es : List Expr} {k : Nat} {pos : Pos} {ds : List PyData} (h : EvAll W ht sc ρ obs es ds) (hz : ds.length ≤ sizeLine := by decide) : Ev W ht sc ρ obs (.Tuple es k pos) (.tuple ds) := by
  intro A env base reg s Q E H hQ
  refine Tuple_ (h.2 pos H fun s₁ vs x₁ r => wpAny_newTuple ?_ (r.length ▸ hz))
  refine hQ _ _ (x₁.trans (Ext.push _ _ _)) ⟨_, vs.toArray, 0, rfl, (H.ext x₁).sta.high _ ?_, Heap.get?_push_size _ rfl, ?_⟩
  · cases q : s₁.heap.get? s₁.heap.objs.size with
    | none => rfl
    | some o => exact absurd (Heap.lt_size q) (Nat.lt_irrefl _)
  · exact RlAll.ext (s := s₁) (Ext.push s₁ _ s₁.toks) r
theorem Ev.list {es : List Expr} {pos : Pos} {ds : List PyData} (h : EvAll W ht sc ρ obs es ds) (hz : ds.length ≤ sizeLine := by decide) : Ev W ht sc ρ obs (.List es pos) (.list ds) := by
  intro A env base reg s Q E H hQ
  refine List_ (h.2 pos H fun s₁ vs x₁ r => wpAny_newList ?_ (r.length ▸ hz))
  refine hQ _ _ (x₁.trans (Ext.push _ _ _)) ⟨_, vs.toArray, 0, rfl, (H.ext x₁).sta.high _ ?_, Heap.get?_push_size _ rfl, ?_⟩
  · cases q : s₁.heap.get? s₁.heap.objs.size with
    | none => rfl
    | some o => exact absurd (Heap.lt_size q) (Nat.lt_irrefl _)
  · exact RlAll.ext (s := s₁) (Ext.push s₁ _ s₁.toks) r
noncomputable def NoSlice (i : Expr) : Prop := ∀ o v, subscripted i false o v = operate [o, v] (getItem o v)
theorem Ev.item_list {v i : Expr} {pos : Pos} {xs : List PyData} {k : Int} {d : PyData} (hv : Ev W ht sc ρ obs v (.list xs)) (hi : Ev W ht sc ρ obs i (.int k)) (h0 : 0 ≤ k) (hfit : k < 2 ^ 63) (hd : xs[k.toNat]? = some d)
    (hs : NoSlice i := by intro _ _; rfl) : Ev W ht sc ρ obs (.Subscript v i pos) d := by
  intro A env base reg s Q E H hQ
  refine Subscript_ (hv H fun s₁ v₁ x₁ r₁ => hi (H.ext x₁) fun s₂ v₂ x₂ r₂ => ?_)
  obtain ⟨t, rfl⟩ := r₂
  obtain ⟨a, vs, n, rfl, p, g, r⟩ := Rl.ext x₂ r₁
  obtain ⟨u, hu, ru⟩ := r.get hd
  have hl : s₂.heap.IsList a vs := ⟨_, g, rfl, n, rfl⟩
  exact tail_any hl.typeIs slot_list_getitem.lookup (wpAny_getItem_list hl h0 hfit (by simpa using hu) (hQ _ _ (x₁.trans x₂) ru)) (hs _ _)
theorem Ev.item_tuple {v i : Expr} {pos : Pos} {xs : List PyData} {k : Int} {d : PyData} (hv : Ev W ht sc ρ obs v (.tuple xs)) (hi : Ev W ht sc ρ obs i (.int k)) (h0 : 0 ≤ k) (hfit : k < 2 ^ 63) (hd : xs[k.toNat]? = some d)
    (hs : NoSlice i := by intro _ _; rfl) : Ev W ht sc ρ obs (.Subscript v i pos) d := by
  intro A env base reg s Q E H hQ
  refine Subscript_ (hv H fun s₁ v₁ x₁ r₁ => hi (H.ext x₁) fun s₂ v₂ x₂ r₂ => ?_)
  obtain ⟨t, rfl⟩ := r₂
  obtain ⟨a, vs, n, rfl, p, g, r⟩ := Rl.ext x₂ r₁
  obtain ⟨u, hu, ru⟩ := r.get hd
  have hl : IsTup s₂.heap a vs := ⟨_, g, rfl, n, rfl⟩
  have hz : vs.size = xs.length := by simpa using r.length
  have hlt : k.toNat < xs.length := (List.getElem?_eq_some_iff.mp hd).1
  refine tail_any hl.typeIs slot_tuple_getitem.lookup (getItem_tuple hl (by (lia -abstractProof)) hfit (j := k.toNat) ?_ (by simpa using hu) (hQ _ _ (x₁.trans x₂) ru)) (hs _ _)
  unfold seqIndex?
  rw [hz]
  simp only [show ¬ k < 0 by (lia -abstractProof), if_false]
  rw [if_pos (by simp; (lia -abstractProof))]
theorem Ev.item_str {v i : Expr} {pos : Pos} {x : Str} {k : Int} {c : Nat} (hv : Ev W ht sc ρ obs v (.str x)) (hi : Ev W ht sc ρ obs i (.int k)) (h0 : 0 ≤ k) (hfit : k < 2 ^ 63) (hd : x.cps[k.toNat]? = some c)
    (hs : NoSlice i := by intro _ _; rfl) : Ev W ht sc ρ obs (.Subscript v i pos) (.str ⟨#[c]⟩) := by
  intro A env base reg s Q E H hQ
  refine Subscript_ (hv H fun s₁ v₁ x₁ r₁ => hi (H.ext x₁) fun s₂ v₂ x₂ r₂ => ?_)
  obtain ⟨t, rfl⟩ := r₂
  obtain ⟨t', rfl⟩ := r₁
  have hlt : k.toNat < x.cps.size := (Array.getElem?_eq_some_iff.mp hd).1
  refine tail_any (typeIs_str _ _ _) PySem.F.slot_str_getitem.lookup (PySem.P.getItem_str ?_ ?_ (hQ _ _ ((x₁.trans x₂).trans (Ext.tok _ _)) ⟨_, rfl⟩)) (hs _ _)
  · simp; lia
  · unfold seqIndex?
    simp only [show ¬ k < 0 by lia, if_false]
    rw [if_pos (by simp only [Bool.and_eq_true, decide_eq_true_eq]; exact ⟨h0, by show k < (x.cps.size : Int); lia⟩)]
    exact hd
end
theorem fresh_none (h : Heap) : h.get? h.objs.size = none := by
  cases q : h.get? h.objs.size with
  | none => rfl
  | some o => exact absurd (Heap.lt_size q) (Nat.lt_irrefl _)
noncomputable def Con (W : Wrld) (ht : Nat) (f : Value) (ds : List PyData) (d : PyData) : Prop :=
  ∀ ⦃A : Around⦄ ⦃s : Shared⦄ ⦃vs : List Value⦄ ⦃P : Addr → Prop⦄ ⦃Q : Value → Shared → Prop⦄ ⦃E : Value → Shared → Prop⦄, AmbC W ht A s.heap → (∀ a, (s.heap.get? a = none ∨ ∃ o, W.base.get? a = some o) → P a) → (∀ a, inFrames A a → ¬ P a) → RlAll s.heap P ds vs →
    (∀ s' v, Ext (inFrames A) s s' → Rl s'.heap P d v → Q v s') → wpAny W.M A (call f vs) Q E s
section
variable {W : Wrld} {ht : Nat} {sc : Scope} {ρ : Vars} {obs : Obs} {A : Around} {env : Env} {base : Heap} {reg : Reg} {s : Shared} {Q : Value → Shared → Prop} {E : Value → Shared → Prop}
theorem name_global {x : Str} {p : Pos} {v : Value} (H : Here W ht sc ρ obs A env base reg s) (hx : sc.names.lookup x = some .globalImplicit) (hv : W.G x = some v) (h : Q v s) (hd : (x == ("__debug__" : Str)) = false) :
    wpAny W.M A (eval (.Name x p) env) Q E s :=
  Name_function_global H.eok.kind ((H.kindOf x).trans hx) (loadGlobal_global (by rw [H.eok.glob]; exact H.ok.g) hv h) hd
theorem name_builtin {x : Str} {p : Pos} {v : Value} (H : Here W ht sc ρ obs A env base reg s) (hx : sc.names.lookup x = some .globalImplicit) (hm : W.G x = none) (hv : bootBuiltins x = some v) (h : Q v s)
    (hn : x ≠ "__name__") (hd : (x == ("__debug__" : Str)) = false) : wpAny W.M A (eval (.Name x p) env) Q E s := by
  obtain ⟨mb, b1, b2⟩ := H.ok.b
  exact Name_function_global H.eok.kind ((H.kindOf x).trans hx) (loadGlobal_builtin (by rw [H.eok.glob]; exact H.ok.g) hm (by rw [H.eok.bi]; exact b1) ((b2 x hn).trans hv) h) hd
end
section
variable {W : Wrld} {ht ht' : Nat} {sc : Scope} {ρ : Vars} {obs : Obs}
theorem Ev.global {x : Str} {p : Pos} {v : Value} {d : PyData} (hx : sc.names.lookup x = some .globalImplicit) (hv : W.G x = some v) (hr : ∀ h P, Rl h P d v) (hd : (x == ("__debug__" : Str)) = false := by decide) : Ev W ht sc ρ obs (.Name x p) d := by
  intro A env base reg s Q E H hQ
  exact name_global H hx hv (hQ _ _ (Ext.refl _) (hr _ _)) hd
theorem Ev.kref {x : Str} {p : Pos} {v : Value} {d : PyData} (hx : sc.names.lookup x = some .globalImplicit) (hv : W.G x = some v) (hr : ∀ (h : Heap) (P : Addr → Prop), (∀ a o, W.K.lookup a = some o → h.get? a = some o ∧ P a) → Rl h P d v)
    (hd : (x == ("__debug__" : Str)) = false := by decide) : Ev W ht sc ρ obs (.Name x p) d := by
  intro A env base reg s Q E H hQ
  exact name_global H hx hv (hQ s v (Ext.refl _) (hr _ _ fun a o e => ⟨H.kat e, H.kreg e⟩)) hd
theorem Ev.call {x : Str} {p pos : Pos} {args : List Expr} {a : Addr} {o : Obj} {fd : FuncData} {ds : List PyData} {d : PyData} (hx : sc.names.lookup x = some .globalImplicit) (hf : W.G x = some (.ref a))
    (ho : W.K.lookup a = some o) (hdat : o.data = .func fd) (ha : EvAll W ht sc ρ obs args ds) (hc : Con W ht' (.ref a) ds d) (hh : ht' ≤ ht) (hne : args ≠ [] := by decide) (hd : (x == ("__debug__" : Str)) = false := by decide) :
    Ev W ht sc ρ obs (.Call (.Name x p) args [] pos) d := by
  intro A env base reg s Q E H hQ
  obtain ⟨y, r, e⟩ := (ha.1 env pos).2 hne
  refine Call_Name (trees := (false, y) :: r) e (name_global H hx hf (callWith_function (fd := fd) (o := o) (evalArgs_plain ?_)) hd)
  rw [← e]
  exact ha.2 pos H fun s₁ vs x₁ r₁ => ⟨⟨(H.ext x₁).ok.k _ _ ho, hdat⟩, hc ((H.ext x₁).call.less hh) (H.ext x₁).pok (H.ext x₁).pno r₁ fun s' v x₂ r₂ => hQ s' v (x₁.trans (x₂.mono fun _ => (H.ext x₁).loose)) r₂⟩
theorem Ev.callB {x : Str} {p pos : Pos} {args : List Expr} {id : String} {ds : List PyData} {d : PyData} (hx : sc.names.lookup x = some .globalImplicit) (hm : W.G x = none) (hv : bootBuiltins x = some (.builtin id))
    (ha : EvAll W ht sc ρ obs args ds) (hc : Con W ht' (.builtin id) ds d) (hh : ht' ≤ ht := by omega) (hne : args ≠ [] := by decide) (hn : x ≠ "__name__" := by decide) (hd : (x == ("__debug__" : Str)) = false := by decide) :
    Ev W ht sc ρ obs (.Call (.Name x p) args [] pos) d := by
  intro A env base reg s Q E H hQ
  obtain ⟨y, r, e⟩ := (ha.1 env pos).2 hne
  refine Call_Name (trees := (false, y) :: r) e (name_builtin H hx hm hv (callWith_builtin (by rw [← e]; exact (ha.1 env pos).1) (evalArgs_plain ?_)) hn hd)
  rw [← e]
  exact ha.2 pos H fun s₁ vs x₁ r₁ => hc ((H.ext x₁).call.less hh) (H.ext x₁).pok (H.ext x₁).pno r₁ fun s' v x₂ r₂ => hQ s' v (x₁.trans (x₂.mono fun _ => (H.ext x₁).loose)) r₂
theorem Con.len_list {xs : List PyData} (hz : xs.length < 2 ^ 62) : Con W ht (.builtin "len") [.list xs] (.int xs.length) := by
  intro A s vs P Q E M hP hF r hQ
  obtain ⟨v, vs', rfl, ⟨a, us, n, rfl, p, g, r⟩, rs⟩ := r
  cases rs
  have hz' : us.size = xs.length := by simpa using r.length
  exact call_len_list ⟨_, g, rfl, n, rfl⟩ (by (lia -abstractProof)) (hQ _ _ (Ext.tok _ _) ⟨_, by rw [hz']⟩)
theorem ints_of {h : Heap} {P : Addr → Prop} : ∀ {ns : List Int} {vs : List Value}, RlAll h P (ns.map .int) vs → IntsAre vs ns
  | [], _, r => by cases r; exact .nil
  | n :: ns, _, ⟨v, vs', e, ⟨t, hv⟩, rs⟩ => by subst e hv; exact .cons n t (ints_of rs)
theorem of_ints {h : Heap} {P : Addr → Prop} : ∀ {ns : List Int} {vs : List Value}, IntsAre vs ns → RlAll h P (ns.map .int) vs
  | _, _, .nil => rfl
  | _, _, .cons n t r => ⟨_, _, rfl, ⟨t, rfl⟩, of_ints r⟩
noncomputable def sortI (l : List Int) : List Int := l.mergeSort (fun a b => decide (a ≤ b))
theorem sortI_perm (l : List Int) : (sortI l).Perm l := List.mergeSort_perm _ _
theorem sortI_sorted (l : List Int) : (sortI l).Pairwise (· ≤ ·) := by
  have := List.pairwise_mergeSort (le := fun a b : Int => decide (a ≤ b)) (fun a b c h1 h2 => by simp at *; lia) (fun a b => by simp; lia) l
  exact this.imp (by simp)
theorem sorted_unique : ∀ {l l' : List Int}, l.Perm l' → l.Pairwise (· ≤ ·) → l'.Pairwise (· ≤ ·) → l = l' :=
  fun p h h' => List.Perm.eq_of_pairwise (fun _ _ _ _ h1 h2 => Int.le_antisymm h1 h2) h h' p
theorem Con.sorted_list {ns : List Int} (hz : ns.length < 64) : Con W ht (.builtin "sorted") [.list (ns.map .int)] (.list ((sortI ns).map .int)) := by
  intro A s vs P Q E M hP hF r hQ
  obtain ⟨v, vs', rfl, ⟨a, us, n, rfl, p, g, r⟩, rs⟩ := r
  cases rs
  have hI := ints_of r
  refine sorted_ints (vs := us.toList) ⟨_, g, rfl, n, by simp⟩ hI (by rw [hI.length]; exact hz) fun out ns' a1 a2 a3 => ?_
  obtain ⟨e, he⟩ := sortedAll_at s.heap us.toList out
  have : ns' = sortI ns := sorted_unique (a2.trans (sortI_perm ns).symm) a3 (sortI_sorted ns)
  subst this
  refine hQ _ _ (Ext.of fun _ _ => sortedAll_old) ⟨_, out, e, rfl, hP _ (.inl ?_), he, of_ints a1⟩
  cases q : s.heap.get? (s.heap.objs.size + 1) with
  | none => rfl
  | some o => exact absurd (Heap.lt_size q) (Nat.not_lt.mpr (Nat.le_succ _))
theorem let_go {M : Model} {A : Around} {s : Shared} {I : Addr} {o : Obj} {n : String} {vs : Array Value} {tg : Expr} {v : Value} {Q : Unit → Shared → Prop} {E : Value → Shared → Prop} (g : s.heap.get? I = some o) (c : o.cls = .type n) (d : o.data = .fields vs)
    (hn : ["enumerate", "zip", "dict_itemiterator", "dict_reverseitemiterator", "odict_iterator", "itertools.zip_longest", "itertools.pairwise"].contains n = false) (h : Q () s) : wpAny M A (letOwnedTupleGo tg (.ref I) v) Q E s := by
  have key : ∀ a, wpAny M A (do
      let o ← load I
      match o.cls, o.data with
      | .type n, .fields vs =>
        if ["enumerate", "zip", "dict_itemiterator", "dict_reverseitemiterator", "odict_iterator", "itertools.zip_longest", "itertools.pairwise"].contains n && vs[0]? == some (rawInt a) then
          rule "for.unpacks-the-owned-tuple"
          updateField I 0 .none
      | _, _ => pure ()) Q E s := fun a => by
    refine wpAny_bind (wpAny_load g ?_)
    rw [c, d]
    dsimp only
    rw [hn]
    exact wpAny_pure h
  cases tg with
  | Tuple => cases v with
    | ref a => exact key a
    | _ => exact wpAny_pure h
  | List => cases v with
    | ref a => exact key a
    | _ => exact wpAny_pure h
  | _ => exact wpAny_pure h
noncomputable def rangeD (a b : Int) : List PyData := (List.range (b - a).toNat).map fun (i : Nat) => .int (a + (i : Int))
noncomputable def It (W : Wrld) (ht : Nat) (sc : Scope) (ρ : Vars) (obs : Obs) (e : Expr) (ds : List PyData) : Prop :=
  ∀ ⦃A : Around⦄ ⦃env : Env⦄ ⦃base : Heap⦄ ⦃reg : Reg⦄ ⦃s : Shared⦄ ⦃Q : Value → Shared → Prop⦄ ⦃E : Value → Shared → Prop⦄, Here W ht sc ρ obs A env base reg s →
    (∀ s' I fp wr P St, Ext (Loose reg) s s' → Walks W.prog W.w A I fp wr ds.length P St → St 0 s'.heap → (∀ i h, St i h → ∀ b ∈ wr, ∃ o, h.get? b = some o) → (∀ i (s : Shared) tg v (Q : Unit → Shared → Prop) (E : Value → Shared → Prop), St i s.heap → Q () s → wpAny W.M A (letOwnedTupleGo tg (.ref I) v) Q E s) → (∀ b ∈ wr, s.heap.get? b = none) → (∀ b ∈ fp, (b ∈ wr ∨ reg b = .sh) ∧ ∃ o, s'.heap.get? b = some o) →
      (∀ i v, i < ds.length → P i v → ∃ d, ds[i]? = some d ∧ Rl s'.heap (fun a => reg a = .sh ∧ a ∉ wr) d v) → Q (.ref I) s') → wpAny W.M A (eval e env) (fun xv s₁ => wpAny W.M A (pyIter xv) Q E s₁) E s
theorem Rl.off {h h' : Heap} {P : Addr → Prop} {a : Addr} {d : PyData} {v : Value} (k : h.StaysIn h') (ha : h.get? a = none) (r : Rl h P d v) : Rl h' (fun b => P b ∧ b ∉ [a]) d v :=
  Rl.mono (fun b o p g => ⟨k b o g, p, fun m => by rw [List.mem_singleton.mp m, ha] at g; contradiction⟩) d v r
theorem It.list {e : Expr} {ds : List PyData} (he : Ev W ht sc ρ obs e (.list ds)) (hc : W.calm = true := by rfl) : It W ht sc ρ obs e ds := by
  intro A env base reg s Q E H hQ
  refine he H fun s₁ v x₁ r => ?_
  obtain ⟨a, vs, n, rfl, p, g, r⟩ := r
  have hl : s₁.heap.IsList a vs := ⟨_, g, rfl, n, rfl⟩
  refine wpAny_pyIter_list hl ?_
  have hz : vs.size = ds.length := by simpa using r.length
  have hne : a ≠ s₁.heap.objs.size := Nat.ne_of_lt (Heap.lt_size g)
  have W' := Walks.list (prog := W.prog) (w := W.w) (H.amb.handled hc) s₁.heap.objs.size a hne vs
  rw [hz] at W'
  have fn : s.heap.get? s₁.heap.objs.size = none := by
    cases q : s.heap.get? s₁.heap.objs.size with
    | none => rfl
    | some o => have := x₁.none (fresh_none _); rw [q] at this; contradiction
  refine hQ _ _ _ _ _ _ (x₁.trans (Ext.push _ _ _)) W' ⟨⟨_, Heap.get?_push_size _ rfl, rfl, rfl⟩, hl.push _⟩ (fun i h st b hb => by rw [List.mem_singleton.mp hb]; obtain ⟨o, q, _⟩ := st.1; exact ⟨o, q⟩) (fun i s tg v Q E st hq => by obtain ⟨o, q, c, d⟩ := st.1; exact let_go q c d (by decide +kernel) hq) (fun b hb => ?_) (fun b hb => ?_) (fun i v hlt hv => ?_)
  · rw [List.mem_singleton.mp hb]; exact fn
  · rcases List.mem_cons.mp hb with rfl | hb
    · exact ⟨.inl List.mem_cons_self, _, Heap.get?_push_size _ rfl⟩
    · rw [List.mem_singleton.mp hb]
      exact ⟨.inr p, _, Heap.get?_push_of_some _ g⟩
  · obtain ⟨d, hd, rd⟩ := r.get' (by simpa using hv)
    exact ⟨d, hd, rd.off (fun _ _ e => Heap.get?_push_of_some _ e) (fresh_none _)⟩
theorem It.tuple {e : Expr} {ds : List PyData} (he : Ev W ht sc ρ obs e (.tuple ds)) (hc : W.calm = true := by rfl) : It W ht sc ρ obs e ds := by
  intro A env base reg s Q E H hQ
  refine he H fun s₁ v x₁ r => ?_
  obtain ⟨a, vs, n, rfl, p, g, r⟩ := r
  have hl : s₁.heap.IsTuple a vs := ⟨_, g, rfl, n, rfl⟩
  refine wpAny_pyIter_tuple hl ?_
  have hz : vs.size = ds.length := by simpa using r.length
  have hne : a ≠ s₁.heap.objs.size := Nat.ne_of_lt (Heap.lt_size g)
  have W' := Walks.tuple (prog := W.prog) (w := W.w) (H.amb.handled hc) s₁.heap.objs.size a hne vs
  rw [hz] at W'
  have fn : s.heap.get? s₁.heap.objs.size = none := by
    cases q : s.heap.get? s₁.heap.objs.size with
    | none => rfl
    | some o => have := x₁.none (fresh_none _); rw [q] at this; contradiction
  refine hQ _ _ _ _ _ _ (x₁.trans (Ext.push _ _ _)) W' ⟨⟨_, Heap.get?_push_size _ rfl, rfl, rfl⟩, hl.push _⟩ (fun i h st b hb => by rw [List.mem_singleton.mp hb]; obtain ⟨o, q, _⟩ := st.1; exact ⟨o, q⟩) (fun i s tg v Q E st hq => by obtain ⟨o, q, c, d⟩ := st.1; exact let_go q c d (by decide +kernel) hq) (fun b hb => ?_) (fun b hb => ?_) (fun i v hlt hv => ?_)
  · rw [List.mem_singleton.mp hb]; exact fn
  · rcases List.mem_cons.mp hb with rfl | hb
    · exact ⟨.inl List.mem_cons_self, _, Heap.get?_push_size _ rfl⟩
    · rw [List.mem_singleton.mp hb]
      exact ⟨.inr p, _, Heap.get?_push_of_some _ g⟩
  · obtain ⟨d, hd, rd⟩ := r.get' (by simpa using hv)
    exact ⟨d, hd, rd.off (fun _ _ e => Heap.get?_push_of_some _ e) (fresh_none _)⟩
theorem range_iter {A : Around} {s₁ : Shared} {r : Addr} {a b : Int} {t u v : Tok} {Q : Value → Shared → Prop} {E : Value → Shared → Prop} {reg : Reg} {s : Shared} (hh : A.handled = none) (x₁ : Ext (Loose reg) s s₁) (hr : IsRange s₁.heap r a b 1 t u v)
    (ha : -(2 ^ 62) ≤ a) (ha' : a < 2 ^ 62) (hb : -(2 ^ 62) ≤ b) (hb' : b < 2 ^ 62)
    (hQ : ∀ s' I fp wr P St, Ext (Loose reg) s s' → Walks W.prog W.w A I fp wr (rangeD a b).length P St → St 0 s'.heap → (∀ i h, St i h → ∀ b ∈ wr, ∃ o, h.get? b = some o) → (∀ i (s : Shared) tg v (Q : Unit → Shared → Prop) (E : Value → Shared → Prop), St i s.heap → Q () s → wpAny W.M A (letOwnedTupleGo tg (.ref I) v) Q E s) → (∀ b ∈ wr, s.heap.get? b = none) → (∀ b ∈ fp, (b ∈ wr ∨ reg b = .sh) ∧ ∃ o, s'.heap.get? b = some o) →
      (∀ i v, i < (rangeD a b).length → P i v → ∃ d, (rangeD a b)[i]? = some d ∧ Rl s'.heap (fun a => reg a = .sh ∧ a ∉ wr) d v) → Q (.ref I) s') : wpAny W.M A (pyIter (.ref r)) Q E s₁ := by
  refine wpAny_pyIter_range hr (small_one ha ha' hb hb') ?_
  have W' := Walks.range (prog := W.prog) (w := W.w) hh s₁.heap.objs.size a 1 (b - a).toNat
  have hl : (rangeD a b).length = (b - a).toNat := by simp [rangeD]
  have hn : Builtin.Range.rangeSize a b 1 = ((b - a).toNat : Int) := by rw [rangeSize_one]; split <;> (lia -abstractProof)
  have fn : s.heap.get? s₁.heap.objs.size = none := by
    cases q : s.heap.get? s₁.heap.objs.size with
    | none => rfl
    | some o => have := x₁.none (fresh_none _); rw [q] at this; contradiction
  refine hQ _ _ _ _ _ _ (x₁.trans (Ext.push _ _ _)) (hl ▸ W') ?_ (fun i h st b hb => by rw [List.mem_singleton.mp hb]; exact ⟨_, st⟩) (fun i s tg v Q E st hq => let_go st rfl rfl (by decide +kernel) hq) (fun c hc => ?_) (fun c hc => ?_) (fun i v hlt hv => ?_)
  · show Heap.get? _ _ = _
    rw [Heap.get?_push_size _ rfl, hn]
    simp [hl]
  · rw [List.mem_singleton.mp hc]; exact fn
  · rw [List.mem_singleton.mp hc]; exact ⟨.inl List.mem_cons_self, _, Heap.get?_push_size _ rfl⟩
  · obtain ⟨t, rfl⟩ := hv
    rw [hl] at hlt
    exact ⟨.int (a + i), by simp [rangeD, hlt], ⟨t, by simp⟩⟩
theorem It.range1 {x : Str} {p pos : Pos} {e : Expr} {b : Int} (hx : sc.names.lookup x = some .globalImplicit) (hm : W.G x = none) (hv : bootBuiltins x = some (.type "range")) (he : Ev W ht sc ρ obs e (.int b))
    (hb : -(2 ^ 62) ≤ b) (hb' : b < 2 ^ 62) (hn : x ≠ "__name__" := by decide) (hd : (x == ("__debug__" : Str)) = false := by decide) (hp : Plain e := by intro _ _; rfl) (hc : W.calm = true := by rfl) : It W ht sc ρ obs (.Call (.Name x p) [e] [] pos) (rangeD 0 b) := by
  intro A env base reg s Q E H hQ
  have e1 : backTo pos (starEach [e] env) = [(false, eval e env)] := by rw [hp env []]; rfl
  refine Call_Name e1 (name_builtin H hx hm hv (PySem.callWith_type rfl (evalArgs_plain (spliced_cons (he H fun s₁ v x₁ r => spliced_nil ?_)))) hn hd)
  obtain ⟨t, rfl⟩ := r
  exact call_range_1 (range_iter (H.amb.handled hc) (x₁.trans (Ext.push _ _ _)) (IsRange.new _ _ _ _ _ _ _) (by decide) (by decide) hb hb' hQ)
theorem It.range2 {x : Str} {p pos : Pos} {e f : Expr} {a b : Int} (hx : sc.names.lookup x = some .globalImplicit) (hm : W.G x = none) (hv : bootBuiltins x = some (.type "range")) (he : Ev W ht sc ρ obs e (.int a)) (hf : Ev W ht sc ρ obs f (.int b))
    (ha : -(2 ^ 62) ≤ a) (ha' : a < 2 ^ 62) (hb : -(2 ^ 62) ≤ b) (hb' : b < 2 ^ 62) (hn : x ≠ "__name__" := by decide) (hd : (x == ("__debug__" : Str)) = false := by decide) (hp : Plain e := by intro _ _; rfl) (hp' : Plain f := by intro _ _; rfl) (hc : W.calm = true := by rfl) :
    It W ht sc ρ obs (.Call (.Name x p) [e, f] [] pos) (rangeD a b) := by
  intro A env base reg s Q E H hQ
  have e1 : backTo pos (starEach [e, f] env) = [(false, eval e env), (false, eval f env)] := by rw [hp env [f], hp' env []]; rfl
  refine Call_Name e1 (name_builtin H hx hm hv (PySem.callWith_type rfl (evalArgs_plain (spliced_cons (he H fun s₁ v x₁ r => spliced_cons (hf (H.ext x₁) fun s₂ v₂ x₂ r₂ => spliced_nil ?_))))) hn hd)
  obtain ⟨t, rfl⟩ := r
  obtain ⟨t₂, rfl⟩ := r₂
  exact call_range_2 (range_iter (H.amb.handled hc) ((x₁.trans x₂).trans (Ext.push _ _ _)) (IsRange.new _ _ _ _ _ _ _) ha ha' hb hb' hQ)
end
noncomputable def relab (sc scope : Scope) : Scope :=
  { scope with names := scope.names.map fun (n, k) => if (k == .free && sc.kind == .function && sc.names.lookup n == some .cell) then (n, .cell) else (n, k) }
theorem relabel_eq (scope : Scope) (env : Env) : relabel scope env = relab env.scope scope := rfl
noncomputable def freeNames (scope : Scope) : List Str := (scope.names.filter fun p => p.2 == .free).map (·.1)
inductive Pick (ρ : Vars) : List Str → Vars → Prop
  | nil : Pick ρ [] []
  | cons {x : Str} {b : B} {fs : List Str} {ρf : Vars} : (x, b) ∈ ρ → Pick ρ fs ρf → Pick ρ (x :: fs) ((x, b) :: ρf)
theorem Pick.keys {ρ : Vars} {fs : List Str} {ρf : Vars} (p : Pick ρ fs ρf) : ρf.map (·.1) = fs := by
  induction p with
  | nil => rfl
  | cons _ _ ih => simp [ih]
theorem Pick.sub {ρ : Vars} {fs : List Str} {ρf : Vars} (p : Pick ρ fs ρf) : ∀ q ∈ ρf, q ∈ ρ := by
  induction p with
  | nil => intro q h; contradiction
  | cons h _ ih =>
    intro q hq
    rcases List.mem_cons.mp hq with rfl | hq
    · exact h
    · exact ih q hq
noncomputable def scopeOk (sc scope : Scope) (xs : List Str) : Bool :=
  scope.kind == .function && sc.kind == .function && (xs.all fun x => scope.names.lookup x == some .local || scope.names.lookup x == some .cell) &&
  (scope.names.all fun y => scope.names.lookup y.1 == some y.2 && (y.2 != .free || sc.names.lookup y.1 == some .cell || sc.names.lookup y.1 == some .free)) &&
  decide (xs ++ freeNames scope).Nodup
theorem closure_go {env : Env} (f : Str × NameKind → List (Str × Addr) → Sem (ForInStep (List (Str × Addr))))
    (hf : ∀ n k cs, f (n, k) cs = if k == .free then (do let a ← cellOf env n; pure (.yield ((n, a) :: cs))) else pure (.yield cs))
    (names : List (Str × NameKind)) (acc : List (Str × Addr)) (hn : ∀ y ∈ names, y.2 = .free → ∃ c, env.cells.lookup y.1 = some c)
      (ha : ∀ n c, acc.lookup n = some c → env.cells.lookup n = some c) :
      ∃ cl, forIn names acc f = pure cl ∧ (∀ n c, cl.lookup n = some c → env.cells.lookup n = some c) ∧ (∀ n c, acc.lookup n = some c → cl.lookup n = some c) ∧ (∀ y ∈ names, y.2 = .free → ∃ c, cl.lookup y.1 = some c) := by
  induction names generalizing acc with
  | nil => exact ⟨acc, List.forIn_nil, ha, fun _ _ e => e, fun _ hy => (List.not_mem_nil hy).elim⟩
  | cons p r ih =>
    obtain ⟨n, k⟩ := p
    rw [List.forIn_cons, hf]
    by_cases hk : k = .free
    · subst hk
      obtain ⟨c, hc⟩ := hn (n, .free) List.mem_cons_self rfl
      have hcell : cellOf env n = pure c := by unfold cellOf; rw [hc]
      rw [hcell]
      have hd : ∀ m b, ((n, c) :: acc).lookup m = some b → (m = n ∧ b = c) ∨ acc.lookup m = some b := fun m b e => by
        rw [List.lookup_cons] at e
        cases hm : m == n with
        | true => rw [hm] at e; exact .inl ⟨beq_iff_eq.mp hm, (Option.some.inj e).symm⟩
        | false => rw [hm] at e; exact .inr e
      have h0 : ((n, c) :: acc).lookup n = some c := by rw [List.lookup_cons, beq_self_eq_true]
      obtain ⟨cl, e, h1, h2, h3⟩ := ih ((n, c) :: acc) (fun y hy => hn y (List.mem_cons_of_mem _ hy)) fun m b e => (hd m b e).elim (fun q => by rw [q.1, q.2]; exact hc) (ha m b)
      refine ⟨cl, e, h1, fun m b q => ?_, fun y hy hyf => (List.mem_cons.mp hy).elim (fun z => ⟨c, by rw [z]; exact h2 n c h0⟩) fun z => h3 y z hyf⟩
      by_cases hm : m = n
      · have := ha m b q
        rw [hm, hc] at this
        rw [hm, ← Option.some.inj this]; exact h2 n c h0
      · exact h2 m b (by rw [List.lookup_cons, beq_eq_false_iff_ne.mpr hm]; exact q)
    · have : (k == NameKind.free) = false := beq_eq_false_iff_ne.mpr hk
      rw [this]
      obtain ⟨cl, e, h1, h2, h3⟩ := ih acc (fun y hy => hn y (List.mem_cons_of_mem _ hy)) ha
      exact ⟨cl, e, h1, h2, fun y hy hyf => (List.mem_cons.mp hy).elim (fun z => absurd (by rw [z] at hyf; exact hyf) hk) fun z => h3 y z hyf⟩
theorem closure_of {scope : Scope} {env : Env} (hn : ∀ y ∈ scope.names, y.2 = .free → ∃ c, env.cells.lookup y.1 = some c) :
    ∃ cl, closureFor scope env = pure cl ∧ (∀ n c, cl.lookup n = some c → env.cells.lookup n = some c) ∧ (∀ y ∈ scope.names, y.2 = .free → ∃ c, cl.lookup y.1 = some c) := by
  obtain ⟨cl, e, h1, _, h3⟩ := closure_go (env := env) (fun x r => if x.2 == .free then (do let a ← cellOf env x.1; pure (.yield ((x.1, a) :: r))) else pure (.yield r)) (fun _ _ _ => rfl) scope.names [] hn (fun _ _ e => by simp at e)
  refine ⟨cl, ?_, h1, h3⟩
  have : closureFor scope env = (forIn scope.names [] (fun x r => if x.2 == .free then (do let a ← cellOf env x.1; pure (.yield ((x.1, a) :: r))) else pure (.yield r)) >>= fun r => pure r) := rfl
  rw [this, e, pure_bind]
theorem cellsFrom_app : ∀ (names : List (Str × NameKind)) (k : Nat) (acc : List (Str × Addr)), cellsFrom k names acc = cellsFrom k names [] ++ acc
  | [], _, _ => rfl
  | (n, kd) :: r, k, acc => by
    unfold cellsFrom
    split
    · rw [cellsFrom_app r (k + 1) ((n, k) :: acc), cellsFrom_app r (k + 1) [(n, k)], List.append_assoc]; rfl
    · exact cellsFrom_app r k acc
theorem cellsFrom_mem (names : List (Str × NameKind)) (k : Nat) (n : Str) (c : Addr) (h : (n, c) ∈ cellsFrom k names []) : (n, NameKind.cell) ∈ names := by
  induction names generalizing k with
  | nil => exact (List.not_mem_nil h).elim
  | cons p r ih =>
    unfold cellsFrom at h
    split at h
    · rename_i hk
      rw [cellsFrom_app] at h
      rcases List.mem_append.mp h with h | h
      · exact List.mem_cons_of_mem _ (ih _ h)
      · rw [(Prod.mk.inj (List.mem_singleton.mp h)).1, ← beq_iff_eq.mp hk]; exact List.mem_cons_self
    · exact List.mem_cons_of_mem _ (ih _ h)
theorem lookup_some_of_mem {α : Type} {l : List (Str × α)} {n : Str} {c : α} (h : (n, c) ∈ l) : ∃ c', l.lookup n = some c' := by
  induction l with
  | nil => exact (List.not_mem_nil h).elim
  | cons p r ih =>
    rw [List.lookup_cons]
    cases hb : n == p.1 with
    | true => exact ⟨_, rfl⟩
    | false =>
      rcases List.mem_cons.mp h with e | h
      · rw [← e, beq_self_eq_true] at hb; contradiction
      · exact ih h
theorem cellsFrom_has (names : List (Str × NameKind)) (k : Nat) (n : Str) (h : (n, NameKind.cell) ∈ names) : ∃ c, (cellsFrom k names []).lookup n = some c := by
  induction names generalizing k with
  | nil => exact (List.not_mem_nil h).elim
  | cons p r ih =>
    unfold cellsFrom
    rcases List.mem_cons.mp h with e | h
    · rw [← e, beq_self_eq_true, if_pos rfl, cellsFrom_app]
      exact lookup_some_of_mem (List.mem_append_right _ List.mem_cons_self)
    · split
      · rw [cellsFrom_app]
        obtain ⟨c, hc⟩ := ih (k + 1) h
        exact lookup_some_of_mem (List.mem_append_left _ (mem_of_lookup hc))
      · exact ih k h
theorem lookup_app {α : Type} {l l' : List (Str × α)} {n : Str} {c : α} (h : (l ++ l').lookup n = some c) : l.lookup n = some c ∨ (l.lookup n = none ∧ l'.lookup n = some c) := by
  rw [List.lookup_append] at h
  cases q : l.lookup n with
  | some c' => rw [q] at h; cases h; exact .inl rfl
  | none => rw [q] at h; exact .inr ⟨rfl, h⟩
section
variable {M : Model} {A : Around} {E : Value → Shared → Prop} {s : Shared}
theorem newCompEnv {scope : Scope} {g : Addr} {cl : List (Str × Addr)} {qual : Str} {env : Env} {Q : Env → Shared → Prop}
    (hQ : Q { scope, locals := s.heap.objs.size, globals := g, cells := cellsFrom (s.heap.objs.size + 1) scope.names [] ++ cl, qual, func := none, code := env.code, frame := env.frame, builtins := env.builtins }
      { s with heap := pushCells (s.heap.push { cls := .type "dict", data := .dict #[] }) scope.names }) :
    wpAny M A (newFunctionEnv scope g cl [] qual none .none (some env)) Q E s := by
  simp only [newFunctionEnv, Option.isSome_some, if_true]
  refine wpAny_bind (wpAny_alloc ?_)
  refine wpAny_bind (wpAny_layCells _ (fun name kind cells => by cases hkc : kind == NameKind.cell <;> simp [hkc]) _ _ _ _ ?_)
  rw [show ({ s with heap := s.heap.push { cls := .type "dict", data := .dict #[] } } : Shared).heap.objs.size = s.heap.objs.size + 1 from Heap.size_push .., cellsFrom_app]
  rw [List.forIn_nil]
  exact wpAny_bind (wpAny_pure (wpAny_pure hQ))
end
theorem cells_new (names : List (Str × NameKind)) (h : Heap) : CellsOk (pushCells h names) h.objs.size (cellsFrom h.objs.size names []) :=
  cellsFrom_ok names h h.objs.size [] ⟨fun _ _ hm => (nomatch hm), List.Pairwise.nil⟩ (Nat.le_refl _)
theorem none_of_le {h : Heap} {a : Addr} (e : h.objs.size ≤ a) : h.get? a = none := by
  cases q : h.get? a with
  | none => rfl
  | some o => exact absurd (Heap.lt_size q) (Nat.not_lt.mpr e)
structure ScopeOk (sc scope : Scope) (xs : List Str) : Prop where
  kind : scope.kind = .function
  skind : sc.kind = .function
  tgt : ∀ x ∈ xs, scope.names.lookup x = some .local ∨ scope.names.lookup x = some .cell
  all : ∀ y ∈ scope.names, scope.names.lookup y.1 = some y.2
  free : ∀ y ∈ scope.names, y.2 = .free → sc.names.lookup y.1 = some .cell ∨ sc.names.lookup y.1 = some .free
  nd : (xs ++ freeNames scope).Nodup
theorem ScopeOk.of {sc scope : Scope} {xs : List Str} (h : scopeOk sc scope xs = true) : ScopeOk sc scope xs := by
  simp only [scopeOk, Bool.and_eq_true, Bool.or_eq_true, beq_iff_eq, List.all_eq_true, bne_iff_ne, decide_eq_true_eq] at h
  obtain ⟨h, hn⟩ := h
  exact ⟨h.1.1.1, h.1.1.2, h.1.2, fun y hy => (h.2 y hy).1, fun y hy e => ((h.2 y hy).2).elim (fun q => q.elim (fun q => absurd e q) .inl) .inr, hn⟩
theorem relab_eq {sc : Scope} {names : List (Str × NameKind)} {n : Str} :
    (names.map fun (n, k) => if (k == NameKind.free && sc.kind == .function && sc.names.lookup n == some .cell) then (n, NameKind.cell) else (n, k)).lookup n =
      (names.lookup n).map fun k => if (k == NameKind.free && sc.kind == .function && sc.names.lookup n == some .cell) = true then .cell else k := by
  induction names with
  | nil => rfl
  | cons p r ih =>
    have hg : ∀ {c : Bool} {x : Str} {k : NameKind}, (if c = true then (x, NameKind.cell) else (x, k)) = (x, if c = true then .cell else k) := fun {c _ _} => by cases c <;> rfl
    refine (congrArg (List.lookup n) (congrArg (· :: _) hg)).trans ?_
    rw [List.lookup_cons, List.lookup_cons, ih]
    cases hb : n == p.1 with
    | true => rw [beq_iff_eq.mp hb]; rfl
    | false => rfl
theorem relab_lookup {sc : Scope} {names : List (Str × NameKind)} {n : Str} {k : NameKind} (h : (names.map fun (n, k) => if (k == NameKind.free && sc.kind == .function && sc.names.lookup n == some .cell) then (n, NameKind.cell) else (n, k)).lookup n = some k) :
    ∃ k₀, names.lookup n = some k₀ ∧ (k = k₀ ∨ (k₀ = .free ∧ k = .cell)) := by
  rw [relab_eq] at h
  obtain ⟨k₀, e, h⟩ := Option.map_eq_some_iff.mp h
  refine ⟨k₀, e, ?_⟩
  split at h
  · rename_i hc
    exact .inr ⟨beq_iff_eq.mp (Bool.and_eq_true_iff.mp (Bool.and_eq_true_iff.mp hc).1).1, h.symm⟩
  · exact .inl h.symm
theorem relab_lookup' {sc : Scope} {names : List (Str × NameKind)} {n : Str} {k : NameKind} (h : names.lookup n = some k) :
    (names.map fun (n, k) => if (k == NameKind.free && sc.kind == .function && sc.names.lookup n == some .cell) then (n, NameKind.cell) else (n, k)).lookup n = some k ∨
    (k = .free ∧ (names.map fun (n, k) => if (k == NameKind.free && sc.kind == .function && sc.names.lookup n == some .cell) then (n, NameKind.cell) else (n, k)).lookup n = some .cell) := by
  rw [relab_eq, h, Option.map_some]
  split
  · rename_i hc
    exact .inr ⟨beq_iff_eq.mp (Bool.and_eq_true_iff.mp (Bool.and_eq_true_iff.mp hc).1).1, rfl⟩
  · exact .inl rfl
open Classical in
noncomputable def compReg (reg : Reg) (C D : Addr) (own : List (Str × Addr)) (wr : List Addr) : Reg := fun a =>
  if a = C ∨ ∃ n, own.lookup n = some a then .fr else if a = D ∨ a ∈ wr then .it else reg a
noncomputable def compEnvOf (scope : Scope) (env : Env) (C : Addr) (cells : List (Str × Addr)) : Env :=
  { scope := relabel scope env, locals := C, globals := env.globals, cells := cells, qual := env.qual, func := none, code := env.code, frame := env.frame, builtins := env.builtins }
theorem Sta.comp {base : Heap} {env : Env} {ρ : Vars} {obs : Obs} {reg : Reg} {h h' : Heap} {sc scope : Scope} {ts : List (Str × PyData)} {C D : Addr} {own cl : List (Str × Addr)} {wr : List Addr} {m : Str → Option Value}
    (S : Sta base env ρ obs reg h) (hsc : env.scope = sc) (ok : ScopeOk sc scope (ts.map (·.1))) (k : Slk (Loose reg) h h')
    (nC : h.get? C = none) (nD : h.get? D = none) (no : ∀ n c, own.lookup n = some c → h.get? c = none ∧ c ≠ C ∧ c ≠ D ∧ ∃ v, h'.IsCell c v) (nw : ∀ b ∈ wr, h.get? b = none)
    (eD : ∃ o, h'.get? D = some o) (ew : ∀ b ∈ wr, ∃ o, h'.get? b = some o) (hCD : C ≠ D)
    (hns : h'.Ns C m) (oi : ∀ n n' c, own.lookup n = some c → own.lookup n' = some c → n = n') (om : ∀ n c, own.lookup n = some c → (n, NameKind.cell) ∈ scope.names)
    (oh : ∀ n, (n, NameKind.cell) ∈ scope.names → ∃ c, own.lookup n = some c)
    (hcl : ∀ n c, cl.lookup n = some c → env.cells.lookup n = some c) (hch : ∀ y ∈ scope.names, y.2 = .free → ∃ c, cl.lookup y.1 = some c)
    (hv : ∀ p ∈ ts, ∃ v, ((scope.names.lookup p.1 = some .local ∧ m p.1 = some v) ∨ (scope.names.lookup p.1 = some .cell ∧ ∃ c, own.lookup p.1 = some c ∧ h'.IsCell c (some v))) ∧ Rl h' (Sh (compReg reg C D own wr)) p.2 v) {ρf : Vars} (hp : Pick ρ (freeNames scope) ρf) :
    Sta base (compEnvOf scope env C (own ++ cl)) (ts.map (fun p => (p.1, .sh p.2)) ++ ρf) obs (compReg reg C D own wr) h' := by
  have same : ∀ a o, h.get? a = some o → compReg reg C D own wr a = reg a := fun a o e => by
    unfold compReg
    rw [if_neg, if_neg]
    · rintro (rfl | q)
      · rw [nD] at e; contradiction
      · rw [nw a q] at e; contradiction
    · rintro (rfl | ⟨n, q⟩)
      · rw [nC] at e; contradiction
      · rw [(no n a q).1] at e; contradiction
  have ownfr : ∀ n c, own.lookup n = some c → compReg reg C D own wr c = .fr := fun n c e => by unfold compReg; rw [if_pos (.inr ⟨n, e⟩)]
  have clsame : ∀ n c, cl.lookup n = some c → compReg reg C D own wr c = .fr ∧ (∃ v, h.IsCell c v) := fun n c e => by
    obtain ⟨a, b, v, q⟩ := S.cels n c (hcl n c e)
    obtain ⟨o, g, _⟩ := id q
    exact ⟨(same c o g).trans a, v, q⟩
  have names_of : ∀ {n k}, (n, k) ∈ scope.names → scope.names.lookup n = some k := fun hm => ok.all _ hm
  have S' := S.ext k
  refine ⟨fun b o e n => ?_, fun a o e n => ?_, fun a e => ?_, ?_, fun n c e => ?_, fun n n' c e e' => ?_, fun n e => ?_, ⟨m, hns⟩, by rw [List.map_append, hp.keys, List.map_map]; exact ok.nd, fun y b e => ?_, ?_⟩
  · obtain ⟨sl, g, q⟩ := S.keep b o e n
    rw [same b _ g]; exact S'.keep b o e n
  · obtain ⟨sl, g, q⟩ := S.keep a o e n
    rw [same a _ g]; exact S.low a o e n
  · unfold compReg
    rw [if_neg, if_neg]
    · exact S'.high a e
    · rintro (rfl | q)
      · obtain ⟨o, g⟩ := eD; rw [g] at e; contradiction
      · obtain ⟨o, g⟩ := ew a q; rw [g] at e; contradiction
    · rintro (rfl | ⟨n, q⟩)
      · obtain ⟨o, _, _, g, _⟩ := hns; rw [g] at e; contradiction
      · obtain ⟨_, _, _, v, o, g, _⟩ := no n a q; rw [g] at e; contradiction
  · show compReg reg C D own wr C = .fr
    unfold compReg; rw [if_pos (.inl rfl)]
  · show _ ∧ c ≠ C ∧ _
    rcases lookup_app e with e | ⟨_, e⟩
    · exact ⟨ownfr n c e, (no n c e).2.1, (no n c e).2.2.2⟩
    · obtain ⟨a, v, q⟩ := clsame n c e
      refine ⟨a, ?_, v, k.cell q⟩
      rintro rfl
      obtain ⟨o, g, _⟩ := q
      rw [nC] at g; contradiction
  · have cross : ∀ {n n' c}, own.lookup n = some c → cl.lookup n' = some c → False := fun {n n' c} e e' => by
      obtain ⟨_, v, o, g, _⟩ := clsame n' c e'
      rw [(no n c e).1] at g; contradiction
    rcases lookup_app e with e | ⟨_, e⟩ <;> rcases lookup_app e' with e' | ⟨_, e'⟩
    · exact oi n n' c e e'
    · exact (cross e e').elim
    · exact (cross e' e).elim
    · exact S.inj n n' c (hcl n c e) (hcl n' c e')
  · have e' : (∃ k, (relabel scope env).names.lookup n = some k ∧ (k = .cell ∨ k = .free)) := by rcases e with e | e <;> exact ⟨_, e, by simp⟩
    obtain ⟨kk, e', hk⟩ := e'
    obtain ⟨k₀, q, hk₀⟩ := relab_lookup (sc := env.scope) e'
    have hm : (n, k₀) ∈ scope.names := mem_of_lookup q
    have : k₀ = .cell ∨ k₀ = .free := by
      rcases hk₀ with rfl | ⟨rfl, _⟩
      · exact hk
      · exact .inr rfl
    rcases this with rfl | rfl
    · obtain ⟨c, hc⟩ := oh n hm
      exact ⟨c, by show (own ++ cl).lookup n = some c; rw [List.lookup_append, hc]; rfl⟩
    · obtain ⟨c, hc⟩ := hch _ hm rfl
      have : own.lookup n = none := by
        cases qq : own.lookup n with
        | none => rfl
        | some c' => have := names_of (om n c' qq); rw [q] at this; contradiction
      exact ⟨c, by show (own ++ cl).lookup n = some c; rw [List.lookup_append, this]; exact hc⟩
  · rcases List.mem_append.mp e with e | e
    · obtain ⟨⟨y', d⟩, hm, e⟩ := List.mem_map.mp e
      cases e
      obtain ⟨v, hv, hd⟩ := hv _ hm
      refine .inr ⟨v, ?_, hd⟩
      rcases hv with ⟨hl, hm⟩ | ⟨hl, c, hc, hq⟩
      · rcases relab_lookup' (sc := env.scope) hl with q | ⟨q, _⟩
        · exact .inl ⟨q, m, hns, hm⟩
        · contradiction
      · rcases relab_lookup' (sc := env.scope) hl with q | ⟨q, _⟩
        · exact .inr ⟨.inl q, c, by show (own ++ cl).lookup _ = some c; rw [List.lookup_append, hc]; rfl, hq⟩
        · contradiction
    · have hf : scope.names.lookup y = some .free := by
        have : y ∈ ρf.map (·.1) := List.mem_map.mpr ⟨(y, b), e, rfl⟩
        rw [hp.keys, freeNames, List.mem_map] at this
        obtain ⟨⟨y', k'⟩, hm, rfl⟩ := this
        rw [List.mem_filter] at hm
        have := ok.all _ hm.1
        rw [this, beq_iff_eq.mp hm.2]
      have hb := hp.sub _ e
      rcases S.vars y b hb with rfl | ⟨u, V, r⟩
      · exact .inl rfl
      refine .inr ⟨u, ?_, r.mono (fun a o p g => ⟨k.exact (not_loose p) g, (same a o g).trans p⟩) (fun a o p g => ⟨k.exact (not_loose p) g, (same a o g).trans p⟩)⟩
      have hm : (y, NameKind.free) ∈ scope.names := mem_of_lookup hf
      have hk : env.kindOf y = some .cell ∨ env.kindOf y = some .free := by
        have := ok.free _ hm rfl
        rw [← hsc] at this; exact this
      rcases V with ⟨e', _⟩ | ⟨_, c, lc, q⟩
      · rcases hk with q | q <;> rw [q] at e' <;> cases e'
      obtain ⟨c', hc'⟩ := hch _ hm rfl
      have ec : c' = c := by have := hcl _ _ hc'; rw [lc] at this; exact (Option.some.inj this).symm
      subst ec
      have on : own.lookup y = none := by
        cases qq : own.lookup y with
        | none => rfl
        | some c' => have := names_of (om y c' qq); rw [hf] at this; contradiction
      refine .inr ⟨?_, c', by show (own ++ cl).lookup y = some c'; rw [List.lookup_append, on]; exact hc', k.cell q⟩
      rcases relab_lookup' (sc := env.scope) hf with q | ⟨_, q⟩
      · exact .inr q
      · exact .inl q
  · obtain ⟨L, o, e1, e0, e2, e3, e4⟩ := S.frm
    obtain ⟨o', g, d⟩ := k.data e3
    exact ⟨L, o', e1, (same L o e3).trans e0, e2, g, fun vs => d ▸ e4 vs⟩
theorem lt_sz {h : Heap} {a : Nat} {o : Obj} (e : h.get? a = some o) : a < h.objs.size := Heap.lt_size e
section
variable {W : Wrld} {ht : Nat} {sc : Scope} {ρ : Vars} {obs : Obs}
noncomputable def EvG (fr : Bool) (W : Wrld) (ht : Nat) (sc : Scope) (ρ : Vars) (obs : Obs) (e : Expr) (d : PyData) : Prop :=
  ∀ ⦃A : Around⦄ ⦃env : Env⦄ ⦃base : Heap⦄ ⦃reg : Reg⦄ ⦃s : Shared⦄ ⦃Q : Value → Shared → Prop⦄ ⦃E : Value → Shared → Prop⦄, Here W ht sc ρ obs A env base reg s →
    (∀ s' v, Ext (Loose reg) s s' → Rl s'.heap (Sh reg) d v → (fr = true → ∃ b, v = .ref b ∧ s.heap.get? b = none) → Q v s') → wpAny W.M A (eval e env) Q E s
theorem EvG.ev {fr : Bool} {e : Expr} {d : PyData} (h : EvG fr W ht sc ρ obs e d) : Ev W ht sc ρ obs e d := fun _ _ _ _ _ _ _ H hQ => h H fun s' v x r _ => hQ s' v x r
theorem EvG.of {e : Expr} {d : PyData} (h : Ev W ht sc ρ obs e d) : EvG false W ht sc ρ obs e d := fun _ _ _ _ _ _ _ H hQ => h H fun s' v x r => hQ s' v x r fun z => nomatch z
noncomputable def EvIfs (W : Wrld) (ht : Nat) (sc : Scope) (ρ : Vars) (obs : Obs) (ifs : List Expr) (b : Bool) : Prop :=
  ∀ ⦃A : Around⦄ ⦃env : Env⦄ ⦃base : Heap⦄ ⦃reg : Reg⦄ ⦃s : Shared⦄ ⦃Q : Bool → Shared → Prop⦄ ⦃E : Value → Shared → Prop⦄, Here W ht sc ρ obs A env base reg s →
    (∀ s', Ext (Loose reg) s s' → Q b s') → wpAny W.M A (forIn ifs true fun c r => if r = true then do let ok ← isTrue c env (eval c env); pure (ForInStep.yield ok) else pure (ForInStep.yield r)) Q E s
theorem EvIfs.nil : EvIfs W ht sc ρ obs [] true := by
  intro A env base reg s Q E H hQ
  rw [List.forIn_nil]
  exact wpAny_pure (hQ _ (Ext.refl _))
theorem EvIfs.one {c : Expr} {b : Bool} (h : EvT W ht sc ρ obs c b) : EvIfs W ht sc ρ obs [c] b := by
  intro A env base reg s Q E H hQ
  rw [List.forIn_cons]
  simp only [if_true]
  refine wpAny_bind (wpAny_bind (h H fun s₁ x₁ => wpAny_pure ?_))
  dsimp only
  rw [List.forIn_nil]
  exact wpAny_pure (hQ _ x₁)
theorem loop_tests {prog : Program} {w : World} {A : Around} {R : Result → Shared → Prop} {s : Shared} {elt target iter : Expr} {ifs : List Expr} {scope : Scope} {pos : Pos} {it acc : Value} {env : Env} (I : Nat → Shared → Prop)
    (turn : ∀ n s, I n s → wpAny (model prog w) A (pyNext it) (fun r s₁ => match r with
      | none => R (.ok .next) s₁
      | some v => wpAny (model prog w) A (letOwnedTupleGo target it v) (fun _ s₁' => wpAny (model prog w) A (assign target env v) (fun _ s₂ =>
          wpAny (model prog w) A (forIn ifs true fun c r => if r = true then do let ok ← isTrue c env (eval c env); pure (ForInStep.yield ok) else pure (ForInStep.yield r)) (fun ok s₃ =>
            if ok = true then wpAny (model prog w) A (eval elt env) (fun x s₄ =>
              wpAny (model prog w) A (call (.builtin "list.append") [acc, x]) (fun _ s₅ => ∃ m, m < n ∧ I m s₅) (notedBy (model prog w) A env fun e s' => R (.error e) s') s₄) (notedBy (model prog w) A env fun e s' => R (.error e) s') s₃
            else ∃ m, m < n ∧ I m s₃) (notedBy (model prog w) A env fun e s' => R (.error e) s') s₂) (notedBy (model prog w) A env fun e s' => R (.error e) s') s₁') (notedBy (model prog w) A env fun e s' => R (.error e) s') s₁) (notedBy (model prog w) A env fun e s' => R (.error e) s') s)
    (n : Nat) (h : I n s) : codeAny (model prog w) A (.compLoop (.ListComp elt [⟨target, iter, ifs, 0⟩] scope pos) 0 it acc env) R s := by
  refine codeAny_loop rfl I (fun n s hI => ?_) n h
  show wpAny _ A ((compTurn (.ListComp elt [⟨target, iter, ifs, 0⟩] scope pos) 0 it acc env).onRaise (fun x => do noteFrame x env; theTreesLotGoes x)) _ _ s
  refine wpAny_noted ?_
  rw [compTurn_list]
  refine wpAny_bind (wpAny_standAt (wpAny_bind (wpAny_mono (turn n s hI) (fun r s₁ h₁ => ?_) fun _ _ q => q)))
  cases r with
  | none => exact wpAny_pure h₁
  | some v =>
    refine wpAny_bind (wpAny_mono h₁ (fun _ s₁' h₁' => wpAny_bind (wpAny_mono h₁' (fun _ s₂ h₂ => wpAny_bind (wpAny_mono h₂ (fun ok s₃ h₃ => ?_) fun _ _ q => q)) fun _ _ q => q)) fun _ _ q => q)
    cases ok with
    | false => exact wpAny_pure ⟨rfl, h₃⟩
    | true => exact wpAny_bind (wpAny_bind (wpAny_mono h₃ (fun x s₄ h₄ => wpAny_bind (wpAny_mono h₄ (fun _ s₅ h₅ => wpAny_pure (wpAny_pure ⟨rfl, h₅⟩)) fun _ _ q => q)) fun _ _ q => q))
noncomputable def CompAsg (W : Wrld) (A : Around) (scope : Scope) (env : Env) (tg : Expr) (xs : List Str) (sp : PyData → List PyData) (ds : List PyData) : Prop :=
  ∀ ⦃d : PyData⦄, d ∈ ds → ∀ ⦃C : Addr⦄ ⦃own cells : List (Str × Addr)⦄ ⦃h : Heap⦄ ⦃m : Str → Option Value⦄ ⦃s : Shared⦄ ⦃tk : Nat⦄ ⦃v : Value⦄ ⦃P : Addr → Prop⦄ ⦃Q : Unit → Shared → Prop⦄ ⦃E : Value → Shared → Prop⦄,
    h.Ns C m → (∀ n c, own.lookup n = some c → ∃ v, h.IsCell c v) → (∀ n c, own.lookup n = some c → c ≠ C) → (∀ n n' c, own.lookup n = some c → own.lookup n' = some c → n = n') → (∀ n, (n, NameKind.cell) ∈ scope.names → ∃ c, own.lookup n = some c) →
    (∀ n c, own.lookup n = some c → cells.lookup n = some c) → Rl h P d v → (∀ a, P a → a ≠ C ∧ ∀ n, own.lookup n ≠ some a) →
    (∀ h₃ m₃ tk₃, (∀ b o, b ≠ C → (∀ n, own.lookup n ≠ some b) → h.get? b = some o → h₃.get? b = some o) → h₃.Ns C m₃ →
      (∀ p ∈ xs.zip (sp d), ∃ v, ((scope.names.lookup p.1 = some .local ∧ m₃ p.1 = some v) ∨ (scope.names.lookup p.1 = some .cell ∧ ∃ c, own.lookup p.1 = some c ∧ h₃.IsCell c (some v))) ∧ Rl h₃ P p.2 v) →
      (∀ n c, own.lookup n = some c → ∃ v, h₃.IsCell c v) → Q () { s with heap := h₃, toks := tk₃ }) →
    wpAny W.M A (assign tg (compEnvOf scope env C cells) v) Q E { s with heap := h, toks := tk }
theorem CompAsg.name {A : Around} {scope : Scope} {env : Env} {x : Str} {px : Pos} {ds : List PyData} (hk : scope.kind = .function) (hx : scope.names.lookup x = some .local ∨ scope.names.lookup x = some .cell) : CompAsg W A scope env (.Name x px) [x] (fun d => [d]) ds := by
  intro d hd C own cells h m s tk v P Q E hns hcell hne hinj hhas hcells r hP hQ
  refine wpAny_assign_Name ?_
  have up : ∀ {Y : Addr} {h₃ : Heap}, (Y = C ∨ ∃ n, own.lookup n = some Y) → Heap.SameBut Y h h₃ → Rl h₃ P d v := fun {Y h₃} hY sb => Rl.mono (fun a o q g => ⟨sb.extBut a o (by
    rintro rfl
    rcases hY with rfl | ⟨n, z⟩
    · exact (hP _ q).1 rfl
    · exact (hP _ q).2 n z) g, q⟩) d v r
  rcases hx with hl | hl
  · have hkk : (compEnvOf scope env C cells).kindOf x = some .local := by
      rcases relab_lookup' (sc := env.scope) hl with q | ⟨q, _⟩
      · exact q
      · contradiction
    refine wpAny_storeName_local (env := compEnvOf scope env C cells) hkk hns (fun h₃ hn₃ sb => ?_) (by show (scope.kind == .class || (scope.kind == .module && _)) = false; rw [hk]; rfl)
    refine hQ h₃ _ _ (fun b o hb _ e => sb.extBut b o hb e) hn₃ (fun p hp => ?_) fun n c e => let ⟨v, q⟩ := hcell n c e; ⟨v, q.sameBut sb (hne n c e)⟩
    cases List.mem_singleton.mp hp
    exact ⟨v, .inl ⟨hl, by simp⟩, up (.inl rfl) sb⟩
  · have hkk : (compEnvOf scope env C cells).kindOf x = some .cell := by
      rcases relab_lookup' (sc := env.scope) hl with q | ⟨q, _⟩
      · exact q
      · contradiction
    obtain ⟨c, hc⟩ := hhas x (mem_of_lookup hl)
    obtain ⟨v₀, hv₀⟩ := hcell x c hc
    refine wpAny_storeName_cell (env := compEnvOf scope env C cells) hk hkk (hcells x c hc) hv₀ fun h₃ hc₃ sb => ?_
    refine hQ h₃ m _ (fun b o _ hb e => sb.extBut b o (fun z => hb x (z ▸ hc)) e) (hns.sameBut sb (Ne.symm (hne x c hc))) (fun p hp => ?_) fun n c' e => ?_
    · cases List.mem_singleton.mp hp
      exact ⟨v, .inr ⟨hl, c, hc, hc₃⟩, up (.inr ⟨x, hc⟩) sb⟩
    · by_cases hn : c' = c
      · subst hn; exact ⟨_, hc₃⟩
      · obtain ⟨v, q⟩ := hcell n c' e; exact ⟨v, q.sameBut sb hn⟩
theorem comp_core {fr : Bool} {A : Around} {env : Env} {base : Heap} {reg : Reg} {s s₂ : Shared} {E : Value → Shared → Prop} {elt iter tg : Expr} {pos : Pos} {ifs : List Expr} {scope : Scope} {ds : List PyData} {f : PyData → PyData} {p : PyData → Bool} {xs : List Str} {sp : PyData → List PyData}
    {I : Addr} {fp wr : List Addr} {P : Nat → Value → Prop} {St : Nat → Heap → Prop} {cl : List (Str × Addr)} {R : Value → Addr → Result → Shared → Prop}
    (H : Here W ht sc ρ obs A env base reg s) (ok : ScopeOk sc scope xs) (hsp : ∀ d ∈ ds, (sp d).length = xs.length)
    (hasg : CompAsg W A scope env tg xs sp ds) {ρf : Vars} (hpk : Pick ρ (freeNames scope) ρf) (hcl : ∀ n c, cl.lookup n = some c → env.cells.lookup n = some c) (hch : ∀ y ∈ scope.names, y.2 = .free → ∃ c, cl.lookup y.1 = some c)
    (x₂ : Ext (Loose reg) s s₂) (Wk : Walks W.prog W.w A I fp wr ds.length P St) (hst : St 0 s₂.heap) (hex : ∀ i h, St i h → ∀ b ∈ wr, ∃ o, h.get? b = some o) (hlet : ∀ i (s : Shared) tg v (Q : Unit → Shared → Prop) (E : Value → Shared → Prop), St i s.heap → Q () s → wpAny W.M A (letOwnedTupleGo tg (.ref I) v) Q E s) (hnew : ∀ b ∈ wr, s.heap.get? b = none)
    (hfp : ∀ b ∈ fp, (b ∈ wr ∨ reg b = .sh) ∧ ∃ o, s₂.heap.get? b = some o)
    (hitem : ∀ i v, i < ds.length → P i v → ∃ d, ds[i]? = some d ∧ Rl s₂.heap (fun a => reg a = .sh ∧ a ∉ wr) d v) (hz : ds.length ≤ sizeLine)
    (ht1 : ∀ d ∈ ds, EvIfs W ht (relab sc scope) ((xs.zip (sp d)).map (fun p => (p.1, .sh p.2)) ++ ρf) obs ifs (p d)) (ht2 : ∀ d ∈ ds, p d = true → EvG fr W ht (relab sc scope) ((xs.zip (sp d)).map (fun p => (p.1, .sh p.2)) ++ ρf) obs elt (f d))
    (hR : ∀ s' D C ys m, Ext (Loose reg) s s' → s.heap.get? D = none → s.heap.get? C = none → C ≠ D → s'.heap.Ns C m → s'.heap.PlainList D ys →
      RlAll s'.heap (fun a => reg a = .sh ∧ a ≠ C ∧ a ≠ D) ((ds.filter p).map f) ys.toList → (fr = true → ∃ bs : List Addr, ys.toList = bs.map .ref ∧ bs.Nodup ∧ ∀ b ∈ bs, s.heap.get? b = none ∧ b ≠ C ∧ b ≠ D) → R (.ref D) C (.ok .next) s') :
    wpAny W.M A (newList []) (fun acc s₃ => wpAny W.M A (newFunctionEnv scope env.globals cl [] env.qual none .none (some env)) (fun cenv s₄ =>
      codeAny W.M A (.compStart (.ListComp elt [⟨tg, iter, ifs, 0⟩] scope pos) 0 (.ref I) acc { cenv with scope := relabel scope env }) (R acc cenv.locals) s₄) E s₃) E s₂ := by
  refine wpAny_newList ?_ (by decide)
  refine newCompEnv ?_
  dsimp only
  generalize hD : s₂.heap.objs.size = D
  have hC : (s₂.heap.push { cls := .type "list", data := .seq ([] : List Value).toArray }).objs.size = D + 1 := by rw [Heap.size_push, hD]
  rw [hC]
  generalize hH2 : s₂.heap.push { cls := .type "list", data := .seq ([] : List Value).toArray } = H2 at hC ⊢
  have hsz3 : (H2.push { cls := .type "dict", data := .dict #[] }).objs.size = D + 1 + 1 := by rw [Heap.size_push, hC]
  have cok := cells_new scope.names (H2.push { cls := .type "dict", data := .dict #[] })
  rw [hsz3] at cok
  generalize hown : cellsFrom (D + 1 + 1) scope.names [] = own at cok ⊢
  generalize hh1 : pushCells (H2.push { cls := .type "dict", data := .dict #[] }) scope.names = h₁ at cok ⊢
  have keep1 : ∀ b o, s₂.heap.get? b = some o → h₁.get? b = some o := fun b o e => by
    rw [← hh1]; exact pushCells_keeps _ _ b o (Heap.get?_push_of_some _ (by rw [← hH2]; exact Heap.get?_push_of_some _ e))
  have nle : ∀ a, D ≤ a → s.heap.get? a = none := fun a ha => by
    cases q : s.heap.get? a with
    | none => rfl
    | some o => obtain ⟨sl, g, _⟩ := x₂.slk _ _ q; have := lt_sz g; lia
  have nle2 : ∀ a, D ≤ a → s₂.heap.get? a = none := fun a ha => none_of_le (by lia)
  have hnsC : h₁.Ns (D + 1) fun _ => none := by
    rw [← hh1, ← hC]; exact (Heap.Ns.new H2 (.type "dict")).keeps (pushCells_keeps _ _)
  have hpl : h₁.PlainList D #[] := by
    refine ⟨0, ?_⟩
    rw [← hh1]
    refine pushCells_keeps _ _ _ _ (Heap.get?_push_of_some _ ?_)
    rw [← hH2, ← hD]; exact Heap.get?_push_size _ rfl
  have own_mem : ∀ n c, own.lookup n = some c → (n, c) ∈ own := fun n c e => mem_of_lookup e
  have own_ge : ∀ n c, own.lookup n = some c → D + 1 + 1 ≤ c := fun n c e => (cok.empty n c (own_mem n c e)).2
  have own_cell : ∀ n c, own.lookup n = some c → h₁.IsCell c none := fun n c e => (cok.empty n c (own_mem n c e)).1
  have own_inj : ∀ n n' c, own.lookup n = some c → own.lookup n' = some c → n = n' := fun n n' c e e' => name_of_addr cok.apart (own_mem n c e) (own_mem n' c e')
  have own_names : ∀ n c, own.lookup n = some c → (n, NameKind.cell) ∈ scope.names := fun n c e => cellsFrom_mem scope.names (D + 1 + 1) n c (by rw [hown]; exact own_mem n c e)
  have own_has : ∀ n, (n, NameKind.cell) ∈ scope.names → ∃ c, own.lookup n = some c := fun n hn => by rw [← hown]; exact cellsFrom_has scope.names _ n hn
  have fplt : ∀ b ∈ fp, D > b := fun b hb => by obtain ⟨_, o, g⟩ := hfp b hb; have := lt_sz g; lia
  have wrlt : ∀ b ∈ wr, D > b := fun b hb => fplt b (Wk.sub b hb)
  have hst1 : St 0 h₁ := Wk.frame _ _ _ hst fun b _ o e => keep1 b o e
  let cenv := compEnvOf scope env (D + 1) (own ++ cl)
  let reg₁ := compReg reg (D + 1) D own wr
  let Good (h' : Heap) (i : Nat) (ys : Array Value) : Prop := (∀ b o, b ∉ wr → s₂.heap.get? b = some o → ∃ sl, h'.get? b = some { o with slots := sl } ∧ (¬ Loose reg b → sl = o.slots)) ∧ St i h' ∧ h'.PlainList D ys ∧ RlAll h' (Sh reg₁) (((ds.take i).filter p).map f) ys.toList ∧
    (∃ m, h'.Ns (D + 1) m) ∧ (∀ n c, own.lookup n = some c → ∃ v, h'.IsCell c v) ∧ (fr = true → ∃ bs : List Addr, ys.toList = bs.map .ref ∧ bs.Nodup ∧ ∀ b ∈ bs, s.heap.get? b = none ∧ b ≠ D + 1 ∧ b ≠ D)
  have reg1_sh : ∀ a, reg₁ a = .sh → reg a = .sh ∧ a ≠ D + 1 ∧ a ≠ D ∧ a ∉ wr ∧ ∀ n, own.lookup n ≠ some a := fun a e => by
    show _
    simp only [reg₁, compReg] at e
    split at e
    · contradiction
    · rename_i q1
      split at e
      · contradiction
      · rename_i q2
        exact ⟨e, fun q => q1 (.inl q), fun q => q2 (.inl q), fun q => q2 (.inr q), fun n q => q1 (.inr ⟨n, q⟩)⟩
  have reg1_of : ∀ a, reg a = .sh → D > a → a ∉ wr → reg₁ a = .sh := fun a e h1 h2 => by
    simp only [reg₁, compReg]
    rw [if_neg, if_neg]
    · exact e
    · rintro (rfl | q)
      · exact absurd h1 (Nat.lt_irrefl _)
      · exact h2 q
    · rintro (rfl | ⟨n, q⟩)
      · lia
      · have := own_ge n a q; lia
  have reg1_old : ∀ a, D > a → a ∉ wr → reg₁ a = reg a := fun a h1 h2 => by
    simp only [reg₁, compReg]
    rw [if_neg, if_neg]
    · rintro (rfl | q)
      · exact absurd h1 (Nat.lt_irrefl _)
      · exact h2 q
    · rintro (rfl | ⟨n, q⟩)
      · lia
      · have := own_ge n a q; lia
  have reg1_D : reg₁ D = .it := by
    show compReg reg (D + 1) D own wr D = .it
    unfold compReg
    rw [if_neg, if_pos (.inl rfl)]
    rintro (q | ⟨n, q⟩)
    · exact Nat.ne_of_lt (Nat.lt_succ_self D) q
    · have := own_ge n _ q; lia
  have reg1_wr : ∀ a ∈ wr, reg₁ a = .it := fun a hw => by
    simp only [reg₁, compReg]
    rw [if_neg, if_pos (.inr hw)]
    have := wrlt a hw
    rintro (rfl | ⟨n, q⟩)
    · lia
    · have := own_ge n _ q; lia
  have reg1_fp : ∀ b ∈ fp, ¬ Loose reg₁ b := fun b hb => by
    by_cases hw : b ∈ wr
    · exact not_loose (reg1_wr b hw)
    · rcases (hfp b hb).1 with q | q
      · exact absurd q hw
      · exact not_loose (reg1_of b q (fplt b hb) hw)
  have loop : ∀ s₃ : Shared, s₃ = { s₂ with heap := h₁ } →
      codeAny W.M A (.compLoop (.ListComp elt [⟨tg, iter, ifs, 0⟩] scope pos) 0 (.ref I) (.ref D) cenv) (R (.ref D) (D + 1)) s₃ := by
    rintro s₃ rfl
    refine loop_tests (fun k s' => ∃ h' tk i ys, s' = { s₂ with heap := h', toks := tk } ∧ i ≤ ds.length ∧ k = ds.length + 1 - i ∧ Good h' i ys) ?_ (ds.length + 1)
      ⟨h₁, s₂.toks, 0, #[], rfl, Nat.zero_le _, rfl, fun b o _ e => ⟨o.slots, keep1 b o e, fun _ => rfl⟩, hst1, hpl, by simp [RlAll], ⟨_, hnsC⟩, fun n c e => ⟨_, own_cell n c e⟩, fun _ => ⟨[], rfl, List.nodup_nil, fun _ h => nomatch h⟩⟩
    rintro k s' ⟨h', tk, i, ys, rfl, hi, rfl, keep, st, pl, rys, ⟨m, hns⟩, hcells, hbs⟩
    by_cases hlt : i < ds.length
    · refine Wk.item i _ _ _ hlt st fun v h₂ tk₂ hPv st₂ kp₂ => ?_
      obtain ⟨d, hd, rd⟩ := hitem i v hlt hPv
      have hDw : D ∉ wr := fun q => Nat.lt_irrefl _ (wrlt D q)
      have hCw : D + 1 ∉ wr := fun q => by have := wrlt _ q; lia
      have hcw : ∀ n c, own.lookup n = some c → c ∉ wr := fun n c e q => by have := wrlt _ q; have := own_ge n c e; lia
      have hns₂ : h₂.Ns (D + 1) m := hns.at' fun o e => kp₂ _ o hCw e
      have pl₂ : h₂.PlainList D ys := pl.at fun o e => kp₂ _ o hDw e
      have cells₂ : ∀ n c, own.lookup n = some c → ∃ v, h₂.IsCell c v := fun n c e => let ⟨v, o, g, r⟩ := hcells n c e; ⟨v, o, kp₂ c o (hcw n c e) g, r⟩
      have rys₂ : RlAll h₂ (Sh reg₁) (((ds.take i).filter p).map f) ys.toList := RlAll.mono (fun a o q g => ⟨kp₂ a o (reg1_sh a q).2.2.2.1 g, q⟩) _ _ rys
      have keepS : ∀ {h₃ h₄ : Heap}, (∀ b o, b ∉ wr → s₂.heap.get? b = some o → ∃ sl, h₃.get? b = some { o with slots := sl } ∧ (¬ Loose reg b → sl = o.slots)) → Slk (Loose reg₁) h₃ h₄ →
          ∀ b o, b ∉ wr → s₂.heap.get? b = some o → ∃ sl, h₄.get? b = some { o with slots := sl } ∧ (¬ Loose reg b → sl = o.slots) := fun k3 k b o hb e => by
        obtain ⟨sl, g, q⟩ := k3 b o hb e
        obtain ⟨sl', g', q'⟩ := k b _ g
        have := reg1_old b (by have := lt_sz e; lia) hb
        exact ⟨sl', g', fun n => (q' (by rw [Loose, this]; exact n)).trans (q n)⟩
      have after : ∀ (h₃ : Heap) (m₃ : Str → Option Value) (tk₃ : Nat), (∀ b o, b ≠ D + 1 → (∀ n, own.lookup n ≠ some b) → h₂.get? b = some o → h₃.get? b = some o) → h₃.Ns (D + 1) m₃ →
          (∀ p ∈ xs.zip (sp d), ∃ v, ((scope.names.lookup p.1 = some .local ∧ m₃ p.1 = some v) ∨ (scope.names.lookup p.1 = some .cell ∧ ∃ c, own.lookup p.1 = some c ∧ h₃.IsCell c (some v))) ∧ Rl h₃ (fun a => reg a = .sh ∧ a ∉ wr ∧ D > a) p.2 v) →
          (∀ n c, own.lookup n = some c → ∃ v, h₃.IsCell c v) →
          wpAny W.M A (forIn ifs true fun c r => if r = true then do let ok ← isTrue c cenv (eval c cenv); pure (ForInStep.yield ok) else pure (ForInStep.yield r)) (fun ok s₃ =>
            if ok = true then wpAny W.M A (eval elt cenv) (fun xx s₄ =>
              wpAny W.M A (call (.builtin "list.append") [.ref D, xx]) (fun _ s₅ => ∃ m, m < ds.length + 1 - i ∧ ∃ h' tk i ys, s₅ = { s₂ with heap := h', toks := tk } ∧ i ≤ ds.length ∧ m = ds.length + 1 - i ∧ Good h' i ys)
                (notedBy W.M A cenv fun e s' => R (.ref D) (D + 1) (.error e) s') s₄) (notedBy W.M A cenv fun e s' => R (.ref D) (D + 1) (.error e) s') s₃
            else ∃ m, m < ds.length + 1 - i ∧ ∃ h' tk i ys, s₃ = { s₂ with heap := h', toks := tk } ∧ i ≤ ds.length ∧ m = ds.length + 1 - i ∧ Good h' i ys)
            (notedBy W.M A cenv fun e s' => R (.ref D) (D + 1) (.error e) s') { s₂ with heap := h₃, toks := tk₃ } := by
        intro h₃ m₃ tk₃ sb hns₃ hv₃ cells₃
        have low3 : ∀ b o, D + 1 > b → h₂.get? b = some o → h₃.get? b = some o := fun b o hb e => sb b o (Nat.ne_of_lt hb) (fun n q => by have := own_ge n b q; lia) e
        have keep3 : ∀ b o, b ∉ wr → s₂.heap.get? b = some o → ∃ sl, h₃.get? b = some { o with slots := sl } ∧ (¬ Loose reg b → sl = o.slots) := fun b o hb e => by
          obtain ⟨sl, g, q⟩ := keep b o hb e
          exact ⟨sl, low3 b _ (by have := lt_sz e; lia) (kp₂ b _ hb g), q⟩
        have stays : Slk (Loose reg) s.heap h₃ := fun b o e => by
          obtain ⟨sl, g, q⟩ := x₂.slk b o e
          obtain ⟨sl', g', q'⟩ := keep3 b _ (fun q => by rw [hnew b q] at e; contradiction) g
          exact ⟨sl', g', fun n => (q' n).trans (q n)⟩
        have st₃ : St (i + 1) h₃ := Wk.frame _ _ _ st₂ fun b hb o e => low3 b o (by have := fplt b hb; lia) e
        have pl₃ : h₃.PlainList D ys := pl₂.at fun o e => low3 _ o (by lia) e
        have rys₃ : RlAll h₃ (Sh reg₁) (((ds.take i).filter p).map f) ys.toList := RlAll.mono (fun a o q g => ⟨sb a o (reg1_sh a q).2.1 (reg1_sh a q).2.2.2.2 g, q⟩) _ _ rys₂
        have S₃ := H.sta.comp (scope := scope) (ts := xs.zip (sp d)) (C := D + 1) (D := D) (own := own) (cl := cl) (wr := wr) (m := m₃) H.sc (by rw [List.map_fst_zip (by rw [hsp d (List.mem_of_getElem? hd)]; exact Nat.le_refl _)]; exact ok) stays (nle _ (by lia)) (nle _ (by lia))
          (fun n c e => ⟨nle _ (by have := own_ge n c e; lia), Nat.ne_of_gt (by have := own_ge n c e; lia), Nat.ne_of_gt (by have := own_ge n c e; lia), cells₃ n c e⟩) hnew (let ⟨n, g⟩ := pl₃; ⟨_, g⟩) (hex _ _ st₃) (Nat.ne_of_gt (by lia)) hns₃ own_inj own_names own_has hcl hch
          (fun p hp => let ⟨v, h1, h2⟩ := hv₃ p hp; ⟨v, h1, Rl.mono (fun a o q g => ⟨g, reg1_of a q.1 q.2.2 q.2.1⟩) _ _ h2⟩) hpk
        have H₃ : Here W ht (relab sc scope) ((xs.zip (sp d)).map (fun p => (p.1, .sh p.2)) ++ ρf) obs A cenv base reg₁ { s₂ with heap := h₃, toks := tk₃ } :=
          ⟨by show relabel scope env = _; rw [relabel_eq, H.sc], ⟨ok.kind, H.eok.glob, H.eok.bi⟩, ⟨H.amb.ok, H.amb.handled, H.amb.depth, H.amb.units, H.amb.frames⟩, S₃,
            fun a o e => ⟨reg1_of a (H.ksh a o e).1 (by obtain ⟨sl, g, _⟩ := x₂.slk _ _ (H.ok.stays a o e); have := lt_sz g; lia) (fun q => by have := H.ok.stays a o e; rw [hnew a q] at this; contradiction), (H.ksh a o e).2⟩,
            fun a e => (H.fos a e).imp id fun q => ⟨(reg1_old a (by obtain ⟨_, o, g, _⟩ := H.call.fresh e; obtain ⟨sl, g', _⟩ := x₂.slk _ _ g; have := lt_sz g'; lia) (fun z => by obtain ⟨_, o, g, _⟩ := H.call.fresh e; rw [hnew a z] at g; contradiction)).trans q.1, q.2⟩,
            fun c e => (H.hnd c e).mono fun a o q g => ⟨stays.exact (not_loose q) g, (reg1_old a (by obtain ⟨sl, g', _⟩ := x₂.slk _ _ g; have := lt_sz g'; lia) (fun z => by rw [hnew a z] at g; contradiction)).trans q⟩⟩
        have hdm : d ∈ ds := List.mem_of_getElem? hd
        have htake : ds.take (i + 1) = ds.take i ++ [d] := by rw [List.take_add_one, hd]; rfl
        refine ht1 d hdm H₃ fun s₄ x₄ => ?_
        obtain ⟨h₄, tk₄, rfl, k₄⟩ := x₄
        cases hp : p d with
        | false =>
          simp only [Bool.false_eq_true, if_false]
          refine ⟨ds.length + 1 - (i + 1), by lia, h₄, tk₄, i + 1, ys, rfl, hlt, rfl, keepS keep3 k₄, Wk.frame _ _ _ st₃ fun b hb o e => k₄.exact (reg1_fp b hb) e, pl₃.at fun o e => k₄.exact (not_loose reg1_D) e, ?_, ⟨m₃, k₄.ns hns₃⟩, fun n c e => let ⟨v, q⟩ := cells₃ n c e; ⟨v, k₄.cell q⟩, hbs⟩
          rw [htake, List.filter_append, List.filter_cons, hp]
          simp only [Bool.false_eq_true, if_false, List.filter_nil, List.append_nil]
          exact RlAll.mono (fun a o q g => ⟨k₄.exact (not_loose q) g, q⟩) _ _ rys₃
        | true =>
          simp only [if_true]
          refine ht2 d hdm hp (H₃.ext ⟨h₄, tk₄, rfl, k₄⟩) fun s₅ y x₅ ry hfr => ?_
          obtain ⟨h₅, tk₅, rfl, k₅⟩ := x₅
          have k35 : Slk (Loose reg₁) h₃ h₅ := k₄.trans k₅
          have pl₅ : h₅.PlainList D ys := pl₃.at fun o e => k35.exact (not_loose reg1_D) e
          have rys₅ : RlAll h₅ (Sh reg₁) (((ds.take i).filter p).map f) ys.toList := RlAll.mono (fun a o q g => ⟨k35.exact (not_loose q) g, q⟩) _ _ rys₃
          have hlen : ys.size ≤ sizeLine := by
            have e1 := rys₅.length
            have e2 : ((ds.take i).filter p).length ≤ (ds.take i).length := List.length_filter_le _ _
            rw [List.length_map] at e1
            rw [List.length_take] at e2
            have : ys.toList.length = ys.size := by simp
            lia
          refine wpAny_list_append_plain pl₅ (fun h₆ pl₆ sb₆ => ?_) hlen
          have hDsp : ∀ a, reg₁ a = .sh → a ≠ D := fun a q => (reg1_sh a q).2.2.1
          refine ⟨ds.length + 1 - (i + 1), by lia, h₆, tk₅, i + 1, ys.push y, rfl, hlt, rfl, fun b o hb e => let ⟨sl, g, q⟩ := keepS keep3 k35 b o hb e; ⟨sl, sb₆.extBut b _ (Nat.ne_of_lt (by have := lt_sz e; lia)) g, q⟩,
            Wk.frame _ _ _ st₃ fun b hb o e => sb₆.extBut b o (Nat.ne_of_lt (by have := fplt b hb; lia)) (k35.exact (reg1_fp b hb) e), pl₆, ?_, ⟨m₃, (k35.ns hns₃).sameBut sb₆ (Nat.ne_of_gt (by lia))⟩,
            fun n c e => let ⟨v, q⟩ := cells₃ n c e; ⟨v, (k35.cell q).sameBut sb₆ (Nat.ne_of_gt (by have := own_ge n c e; lia))⟩, ?_⟩
          rotate_left
          · intro hf
            obtain ⟨bs, b1, b2, b3⟩ := hbs hf
            obtain ⟨b, rfl, hb⟩ := hfr hf
            have hbn : h₃.get? b = none := k₄.none hb
            refine ⟨bs ++ [b], by simp [b1], List.nodup_append.mpr ⟨b2, by simp, fun c hc c' hc' => ?_⟩, fun c hc => ?_⟩
            · rw [List.mem_singleton.mp hc']
              rintro rfl
              have hm : Value.ref c ∈ ys.toList := by rw [b1]; exact List.mem_map.mpr ⟨c, hc, rfl⟩
              obtain ⟨i', hi'⟩ := List.getElem?_of_mem hm
              obtain ⟨d', hd', rd'⟩ := rys₃.get' hi'
              have : ∃ o, h₃.get? c = some o := by
                cases d' with
                | list => obtain ⟨a, _, _, e, _, g, _⟩ := rd'; cases e; exact ⟨_, g⟩
                | tuple => obtain ⟨a, _, _, e, _, g, _⟩ := rd'; cases e; exact ⟨_, g⟩
                | dict => obtain ⟨a, _, _, e, _, _, g, _⟩ := rd'; cases e; exact ⟨_, g⟩
                | none => cases rd'
                | bool => cases rd'
                | int => obtain ⟨_, e⟩ := rd'; contradiction
                | str => obtain ⟨_, e⟩ := rd'; contradiction
              obtain ⟨o, g⟩ := this
              rw [hbn] at g; contradiction
            · rcases List.mem_append.mp hc with hc | hc
              · exact b3 c hc
              · rw [List.mem_singleton.mp hc]
                refine ⟨stays.none hbn, ?_, ?_⟩
                · rintro rfl
                  obtain ⟨o, _, _, g, _⟩ := hns₃; rw [g] at hbn; contradiction
                · rintro rfl
                  obtain ⟨n0, g0⟩ := pl₃; rw [g0] at hbn; contradiction
          rw [htake, List.filter_append, List.filter_cons, hp]
          simp only [if_true, List.filter_nil, List.map_append, List.map_cons, List.map_nil, Array.toList_push]
          refine RlAll.append ?_ (RlAll.one ?_)
          · exact RlAll.mono (fun a o q g => ⟨sb₆.extBut a o (hDsp a q) g, q⟩) _ _ rys₅
          · exact Rl.mono (fun a o q g => ⟨sb₆.extBut a o (hDsp a q) g, q⟩) _ _ ry
      have rd₂ : Rl h₂ (fun a => reg a = .sh ∧ a ∉ wr ∧ D > a) d v := Rl.mono (fun a o q g => by
        obtain ⟨sl, g', e⟩ := keep a o q.2 g
        rw [e (not_loose q.1)] at g'
        exact ⟨kp₂ a o q.2 g', q.1, q.2, by have := lt_sz g; lia⟩) d v rd
      refine hlet (i + 1) _ _ _ _ _ st₂ ?_
      refine hasg (List.mem_of_getElem? hd) (C := D + 1) (cells := own ++ cl) hns₂ cells₂ (fun n c e => by have := own_ge n c e; exact Nat.ne_of_gt (by lia)) own_inj own_has (fun n c e => by rw [List.lookup_append, e]; rfl) rd₂ (fun a q => ⟨Nat.ne_of_lt (by have := q.2.2; lia), fun n z => by have := own_ge n a z; have := q.2.2; lia⟩) fun h₃ m₃ tk₃ a1 a2 a3 a4 => after h₃ m₃ tk₃ a1 a2 a3 a4
    · have hin : i = ds.length := by lia
      subst hin
      refine Wk.done _ _ _ st fun h₂ tk₂ kp₂ => ?_
      have hDw : D ∉ wr := fun q => Nat.lt_irrefl _ (wrlt D q)
      have hCw : D + 1 ∉ wr := fun q => by have := wrlt _ q; lia
      rw [List.take_length] at rys
      refine hR _ D (D + 1) ys m ?_ (nle _ (by lia)) (nle _ (by lia)) (Nat.ne_of_gt (by lia)) (hns.at' fun o e => kp₂ _ o hCw e) (pl.at fun o e => kp₂ _ o hDw e) (RlAll.mono (fun a o q g => ?_) _ _ rys) ?_
      · obtain ⟨hh, tt, rfl, kk⟩ := x₂
        refine ⟨h₂, tk₂, rfl, fun b o e => ?_⟩
        have hb : b ∉ wr := fun q => by rw [hnew b q] at e; contradiction
        obtain ⟨sl, g, q⟩ := kk b o e
        obtain ⟨sl', g', q'⟩ := keep b _ hb g
        exact ⟨sl', kp₂ b _ hb g', fun n => (q' n).trans (q n)⟩
      · obtain ⟨q1, q2, q3, q4, _⟩ := reg1_sh a q
        exact ⟨kp₂ a o q4 g, q1, q2, q3⟩
      · exact hbs
  exact codeAny_compStart_list (loop _ rfl) (Wk.self 0 _ _ _ hst1 (loop _ rfl))
theorem EvG.comp_any {fr : Bool} {elt iter tg : Expr} {pos : Pos} {ifs : List Expr} {scope : Scope} {ds : List PyData} {f : PyData → PyData} {p : PyData → Bool} {xs : List Str} {sp : PyData → List PyData} (hit : It W ht sc ρ obs iter ds) (hok : scopeOk sc scope xs = true) (hsp : ∀ d ∈ ds, (sp d).length = xs.length)
    (hasg : ∀ A env, (W.calm = true → A.handled = none) → CompAsg W A scope env tg xs sp ds) {ρf : Vars} (hpk : Pick ρ (freeNames scope) ρf)
    (ht1 : ∀ d ∈ ds, EvIfs W ht (relab sc scope) ((xs.zip (sp d)).map (fun p => (p.1, .sh p.2)) ++ ρf) obs ifs (p d)) (ht2 : ∀ d ∈ ds, p d = true → EvG fr W ht (relab sc scope) ((xs.zip (sp d)).map (fun p => (p.1, .sh p.2)) ++ ρf) obs elt (f d)) (hz : ds.length ≤ sizeLine)
    (hs : ∀ (env : Env) x, foldedSetIterable iter env x = pure x) : EvG true W ht sc ρ obs (.ListComp elt [⟨tg, iter, ifs, 0⟩] scope pos) (.list ((ds.filter p).map f)) := by
  intro A env base reg s Q E H hQ
  have ok := ScopeOk.of hok
  have hfr : ∀ y ∈ scope.names, y.2 = .free → ∃ c, env.cells.lookup y.1 = some c := fun y hy e => H.sta.allc _ (by have := ok.free y hy e; rw [← H.sc] at this; exact this)
  obtain ⟨cl, e, h1, h2⟩ := closure_of hfr
  rw [eval_ListComp]
  refine wpAny_comprehension_free (use := none) rfl (hs env) e ok.kind (fun y hy hl => hl ▸ ok.all y hy) ?_
  refine hit H fun s₂ I fp wr P St x₂ Wk hst hex hlet hnew hfp hitem => ?_
  refine comp_core (R := fun acc C => compPost W.M A E none Q acc C) H ok hsp (hasg A env H.amb.handled) hpk h1 h2 x₂ Wk hst hex hlet hnew hfp hitem hz ht1 ht2 ?_
  intro s' D C ys m x' nD nC hCD hns ⟨n, pl⟩ r _
  refine ⟨m, hns, fun h'' sb => hQ _ _ ?_ ⟨D, ys, n, rfl, H.sta.high _ nD, sb.extBut _ _ (Ne.symm hCD) pl, RlAll.mono (fun a o q g => ⟨sb.extBut a o q.2.1 g, q.1⟩) _ _ r⟩ fun _ => ⟨D, rfl, nD⟩⟩
  obtain ⟨h', tk, rfl, k⟩ := x'
  exact ⟨h'', tk, rfl, fun b o e => let ⟨sl, g, q⟩ := k b o e; ⟨sl, sb.extBut b _ (by rintro rfl; rw [nC] at e; contradiction) g, q⟩⟩
theorem EvG.comp {elt iter : Expr} {x : Str} {px pos : Pos} {ifs : List Expr} {scope : Scope} {ds : List PyData} {f : PyData → PyData} {p : PyData → Bool} (hit : It W ht sc ρ obs iter ds) (hok : scopeOk sc scope [x] = true) {ρf : Vars} (hpk : Pick ρ (freeNames scope) ρf)
    (ht1 : ∀ d ∈ ds, EvIfs W ht (relab sc scope) ((x, .sh d) :: ρf) obs ifs (p d)) (ht2 : ∀ d ∈ ds, p d = true → Ev W ht (relab sc scope) ((x, .sh d) :: ρf) obs elt (f d)) (hz : ds.length ≤ sizeLine)
    (hs : ∀ (env : Env) x, foldedSetIterable iter env x = pure x := by intro _ _; rfl) : EvG true W ht sc ρ obs (.ListComp elt [⟨.Name x px, iter, ifs, 0⟩] scope pos) (.list ((ds.filter p).map f)) :=
  EvG.comp_any (fr := false) (xs := [x]) (sp := fun d => [d]) hit hok (fun _ _ => rfl) (fun _ _ _ => CompAsg.name (ScopeOk.of hok).kind ((ScopeOk.of hok).tgt x List.mem_cons_self)) hpk ht1 (fun d hd hp => EvG.of (ht2 d hd hp)) hz hs
theorem Ev.comp {elt iter : Expr} {x : Str} {px pos : Pos} {ifs : List Expr} {scope : Scope} {ds : List PyData} {f : PyData → PyData} {p : PyData → Bool} (hit : It W ht sc ρ obs iter ds) (hok : scopeOk sc scope [x] = true) {ρf : Vars} (hpk : Pick ρ (freeNames scope) ρf)
    (ht1 : ∀ d ∈ ds, EvIfs W ht (relab sc scope) ((x, .sh d) :: ρf) obs ifs (p d)) (ht2 : ∀ d ∈ ds, p d = true → Ev W ht (relab sc scope) ((x, .sh d) :: ρf) obs elt (f d)) (hz : ds.length ≤ sizeLine)
    (hs : ∀ (env : Env) x, foldedSetIterable iter env x = pure x := by intro _ _; rfl) : Ev W ht sc ρ obs (.ListComp elt [⟨.Name x px, iter, ifs, 0⟩] scope pos) (.list ((ds.filter p).map f)) :=
  (EvG.comp hit hok hpk ht1 ht2 hz hs).ev
end
noncomputable def Safe (reg : Reg) (a : Addr) : Prop := reg a = .sh ∨ reg a = .it ∨ reg a = .no ∨ reg a = .fo
structure Step (reg : Reg) (s : Shared) (reg' : Reg) (s' : Shared) : Prop where
  same : ∃ h' tk, s' = { s with heap := h', toks := tk }
  safe : ∀ a o, s.heap.get? a = some o → Safe reg a → (∃ sl, s'.heap.get? a = some { o with slots := sl } ∧ (reg a ≠ .fo → sl = o.slots)) ∧ reg' a = reg a
theorem Step.exact {reg reg' : Reg} {s s' : Shared} {a : Addr} {o : Obj} (x : Step reg s reg' s') (g : s.heap.get? a = some o) (q : reg a = .sh ∨ reg a = .it ∨ reg a = .no) : s'.heap.get? a = some o ∧ reg' a = reg a := by
  obtain ⟨⟨sl, e, z⟩, r⟩ := x.safe a o g (by rcases q with q | q | q <;> simp [Safe, q])
  rw [z (by rcases q with q | q | q <;> rw [q] <;> intro z <;> contradiction)] at e
  exact ⟨e, r⟩
theorem Step.refl (reg : Reg) (s : Shared) : Step reg s reg s := ⟨⟨s.heap, s.toks, rfl⟩, fun _ o e _ => ⟨⟨o.slots, e, fun _ => rfl⟩, rfl⟩⟩
theorem Step.trans {r₁ r₂ r₃ : Reg} {s₁ s₂ s₃ : Shared} (x : Step r₁ s₁ r₂ s₂) (y : Step r₂ s₂ r₃ s₃) : Step r₁ s₁ r₃ s₃ := by
  obtain ⟨h, tk, e⟩ := x.same
  obtain ⟨h', tk', e'⟩ := y.same
  refine ⟨⟨h', tk', by rw [e', e]⟩, fun a o g q => ?_⟩
  obtain ⟨⟨sl, g₁, z₁⟩, q₁⟩ := x.safe a o g q
  obtain ⟨⟨sl', g₂, z₂⟩, q₂⟩ := y.safe a _ g₁ (by rw [Safe, q₁]; exact q)
  exact ⟨⟨sl', g₂, fun n => (z₂ (by rw [q₁]; exact n)).trans (z₁ n)⟩, q₂.trans q₁⟩
theorem Step.ext {reg : Reg} {s s' : Shared} (x : Ext (Loose reg) s s') : Step reg s reg s' := by
  obtain ⟨h, tk, rfl, k⟩ := x
  refine ⟨⟨h, tk, rfl⟩, fun a o g q => ⟨?_, rfl⟩⟩
  obtain ⟨sl, e, z⟩ := k a o g
  refine ⟨sl, e, fun n => z fun l => ?_⟩
  rcases l with l | l
  · rcases q with q | q | q | q <;> rw [l] at q <;> contradiction
  · exact n l
theorem Step.of {reg reg' : Reg} {s : Shared} {h' : Heap} {tk : Nat} (k : ∀ a o, s.heap.get? a = some o → Safe reg a → h'.get? a = some o ∧ reg' a = reg a) : Step reg s reg' { s with heap := h', toks := tk } :=
  ⟨⟨h', tk, rfl⟩, fun a o g q => ⟨⟨o.slots, (k a o g q).1, fun _ => rfl⟩, (k a o g q).2⟩⟩
theorem Safe.va {reg : Reg} {a : Addr} {x : Str} (q : Safe reg a) : reg a ≠ .va x := fun e => by rcases q with q | q | q | q <;> rw [q] at e <;> contradiction
theorem Safe.fr {reg : Reg} {a : Addr} (q : Safe reg a) : reg a ≠ .fr := fun e => by rcases q with q | q | q | q <;> rw [q] at e <;> contradiction
section
variable {base : Heap} {env : Env} {ρ : Vars} {obs : Obs} {reg : Reg} {h h' : Heap}
open Classical in
noncomputable def claim (reg : Reg) (T : Addr → Prop) (w : Own) : Reg := fun a => if T a then w else reg a
theorem claim_old {T : Addr → Prop} {w : Own} {a : Addr} (n : ¬ T a) : claim reg T w a = reg a := by unfold claim; rw [if_neg n]
theorem claim_new {T : Addr → Prop} {w : Own} {a : Addr} (n : T a) : claim reg T w a = w := by unfold claim; rw [if_pos n]
theorem Sta.claim (S : Sta base env ρ obs reg h) (k : Slk (Loose reg) h h') {T : Addr → Prop} {w : Own} (nT : ∀ a, T a → h.get? a = none) (eT : ∀ a, T a → ∃ o, h'.get? a = some o) : Sta base env ρ obs (claim reg T w) h' := by
  have same : ∀ a o, h.get? a = some o → Mine.claim reg T w a = reg a := fun a o e => claim_old fun q => by rw [nT a q] at e; contradiction
  have S' := S.ext k
  refine ⟨fun a o e n => ?_, fun a o e n => ?_, fun a e => ?_, ?_, fun n c e => ?_, S.inj, S.allc, S'.ns, S.keys, fun x b e => ?_, ?_⟩
  · obtain ⟨sl, g, _⟩ := S.keep a o e n
    rw [same a _ g]; exact S'.keep a o e n
  · obtain ⟨sl, g, _⟩ := S.keep a o e n
    rw [same a _ g]; exact S.low a o e n
  · rw [claim_old fun q => by obtain ⟨o, g⟩ := eT a q; rw [g] at e; cases e]; exact S'.high a e
  · obtain ⟨m, o, _, _, g, _⟩ := S.ns
    rw [same _ _ g]; exact S.locs
  · obtain ⟨q1, q2, v, o, g, r⟩ := S.cels n c e
    exact ⟨(same c o g).trans q1, q2, v, k.cell ⟨o, g, r⟩⟩
  · rcases S.vars x b e with rfl | ⟨v, V, r⟩
    · exact .inl rfl
    exact .inr ⟨v, V.slk k, r.mono (fun a o q g => ⟨k.exact (not_loose q) g, (same a o g).trans q⟩) (fun a o q g => ⟨k.exact (not_loose q) g, (same a o g).trans q⟩)⟩
  · obtain ⟨L, o, e1, e0, e2, e3, e4⟩ := S.frm
    obtain ⟨o', g, d⟩ := k.data e3
    exact ⟨L, o', e1, (same L o e3).trans e0, e2, g, fun vs => d ▸ e4 vs⟩
noncomputable def B.frozen : B → B
  | .l1 xs => .sh (.list xs)
  | .l2 xss => .sh (.list (xss.map .list))
  | .d1 kvs => .sh (.dict (kvData kvs))
  | .ow _ => .un
  | b => b
open Classical in
noncomputable def thaw (reg : Reg) (x : Str) : Reg := fun a => if reg a = .va x then .sh else reg a
theorem thaw_sh {x : Str} {a : Addr} (e : reg a = .sh) : thaw reg x a = .sh := by unfold thaw; split <;> first | rfl | exact e
theorem thaw_va {x : Str} {a : Addr} (e : reg a = .va x) : thaw reg x a = .sh := by unfold thaw; rw [if_pos e]
theorem thaw_ne {x : Str} {a : Addr} (e : reg a ≠ .va x) : thaw reg x a = reg a := by unfold thaw; rw [if_neg e]
theorem RlAll.of_map {P : Addr → Prop} {f : List PyData → PyData} : ∀ {xss : List (List PyData)} {bs : List Addr}, bs.length = xss.length → (∀ (i : Nat) b xs, bs[i]? = some b → xss[i]? = some xs → Rl h P (f xs) (.ref b)) → RlAll h P (xss.map f) (bs.map Value.ref)
  | [], [], _, _ => rfl
  | [], _ :: _, e, _ => by simp at e
  | _ :: _, [], e, _ => by simp at e
  | xs :: xss, b :: bs, e, k => ⟨.ref b, bs.map Value.ref, rfl, k 0 b xs rfl rfl, RlAll.of_map (by simpa using e) fun i b' xs' h1 h2 => k (i + 1) b' xs' (by simpa using h1) (by simpa using h2)⟩
theorem BRel.frozen {x : Str} : ∀ {b : B} {v : Value}, BRel reg h x b v → BRel (thaw reg x) h x b.frozen v
  | .sh d, v, r => Rl.mono (fun a o p g => ⟨g, thaw_sh p⟩) d v r
  | .l1 xs, v, ⟨a, vs, e, ra, ⟨n, pl⟩, r⟩ => ⟨a, vs, n, e, thaw_va ra, pl, RlAll.mono (fun a o p g => ⟨g, thaw_sh p⟩) _ _ r⟩
  | .l2 xss, v, ⟨a, bs, e, ra, ⟨n, pl⟩, hl, nd, hb, r⟩ => by
    refine ⟨a, _, n, e, thaw_va ra, pl, ?_⟩
    show RlAll h _ (xss.map .list) (bs.map Value.ref)
    refine RlAll.of_map hl fun i b xs h1 h2 => ?_
    obtain ⟨vs, ⟨n', pl'⟩, r'⟩ := r i b xs h1 h2
    exact ⟨b, vs, n', rfl, thaw_va (hb b (List.mem_of_getElem? h1)).2, pl', RlAll.mono (fun a o p g => ⟨g, thaw_sh p⟩) _ _ r'⟩
  | .d1 kvs, v, ⟨a, es, n, e, ra, ns, g, nd, r⟩ => ⟨a, es, n, e, thaw_va ra, ns, g, RlKv.mono (fun a o p g => ⟨g, thaw_sh p⟩) _ _ r⟩
  | .ob a, v, r => r
  | .ow _, v, r => trivial
  | .un, v, r => r
theorem Sta.freeze {x : Str} {b : B} {ρ' : Vars} (S : Sta base env ρ obs reg h) (hx : (x, b) ∈ ρ) (u : Upd ρ x b.frozen ρ') : Sta base env ρ' obs (thaw reg x) h := by
  have lab : ∀ a o, base.get? a = some o → ¬ obs a → thaw reg x a = reg a := fun a o e n => thaw_ne (by rcases S.low a o e n with q | q | q <;> rw [q] <;> intro z <;> contradiction)
  refine ⟨fun a o e n => by rw [lab a o e n]; exact S.keep a o e n, fun a o e n => by rw [lab a o e n]; exact S.low a o e n, fun a e => thaw_sh (S.high a e), ?_, fun n c e => ?_, S.inj, S.allc, S.ns, u.keys ▸ S.keys, fun y c e => ?_, let ⟨L, o, e1, e0, r⟩ := S.frm; ⟨L, o, e1, (thaw_ne (by rw [e0]; intro z; contradiction)).trans e0, r⟩⟩
  · rw [thaw_ne (by rw [S.locs]; intro z; contradiction)]; exact S.locs
  · obtain ⟨q1, q2⟩ := S.cels n c e
    exact ⟨(thaw_ne (by rw [q1]; intro z; contradiction)).trans q1, q2⟩
  · rcases u.mem S.keys _ _ e with ⟨rfl, rfl⟩ | ⟨hne, e⟩
    · rcases S.vars y _ hx with rfl | ⟨v, V, r⟩
      · exact .inl rfl
      exact .inr ⟨v, V, r.frozen⟩
    · rcases S.vars y c e with rfl | ⟨v, V, r⟩
      · exact .inl rfl
      refine .inr ⟨v, V, r.mono (fun a o q g => ⟨g, thaw_sh q⟩) (fun a o q g => ⟨g, (thaw_ne ?_).trans q⟩)⟩
      rw [q]; intro z; cases z; exact hne rfl
end
section
variable {W : Wrld} {ht : Nat} {sc : Scope} {ρ : Vars} {obs : Obs} {A : Around} {env : Env} {base : Heap} {reg : Reg} {s s' : Shared}
theorem Here.freeze {x : Str} {b : B} {ρ' : Vars} (H : Here W ht sc ρ obs A env base reg s) (hx : (x, b) ∈ ρ) (u : Upd ρ x b.frozen ρ') : Here W ht sc ρ' obs A env base (thaw reg x) s := ⟨H.sc, H.eok, H.amb, H.sta.freeze hx u, fun a o e => ⟨thaw_sh (H.ksh a o e).1, (H.ksh a o e).2⟩, fun a e => (H.fos a e).imp id fun q => ⟨(thaw_ne (by rw [q.1]; intro z; contradiction)).trans q.1, q.2⟩, fun c e => (H.hnd c e).mono fun a o q g => ⟨g, (thaw_ne (by rw [q]; intro z; contradiction)).trans q⟩⟩
theorem Here.claim {T : Addr → Prop} {w : Own} (H : Here W ht sc ρ obs A env base reg s) (x : Ext (Loose reg) s s') (nT : ∀ a, T a → s.heap.get? a = none) (eT : ∀ a, T a → ∃ o, s'.heap.get? a = some o) : Here W ht sc ρ obs A env base (claim reg T w) s' :=
  ⟨H.sc, H.eok, H.amb, H.sta.claim x.slk nT eT, fun a o e => ⟨(claim_old fun q => by have := H.ok.stays a o e; rw [nT a q] at this; contradiction).trans (H.ksh a o e).1, (H.ksh a o e).2⟩,
    fun a e => (H.fos a e).imp id fun q => ⟨(claim_old fun z => by obtain ⟨_, o, g, _⟩ := H.call.fresh e; rw [nT a z] at g; contradiction).trans q.1, q.2⟩, fun c e => (H.hnd c e).mono fun a o q g => ⟨x.exact (not_loose q) g, (claim_old fun z => by rw [nT a z] at g; contradiction).trans q⟩⟩
theorem Step.claim {T : Addr → Prop} {w : Own} (x : Ext (Loose reg) s s') (nT : ∀ a, T a → s.heap.get? a = none) : Step reg s (claim reg T w) s' := by
  have y := Step.ext x
  exact ⟨y.same, fun a o g q => ⟨(y.safe a o g q).1, claim_old fun z => by rw [nT a z] at g; contradiction⟩⟩
theorem Step.thaw {x : Str} : Step reg s (thaw reg x) s :=
  ⟨⟨s.heap, s.toks, rfl⟩, fun a o g q => ⟨⟨o.slots, g, fun _ => rfl⟩, thaw_ne q.va⟩⟩
theorem thaw_loose {x : Str} {a : Addr} (q : Loose (thaw reg x) a) : Loose reg a := by
  by_cases e : reg a = .va x
  · rw [Loose, thaw_va e] at q; rcases q with q | q <;> contradiction
  · rw [Loose, thaw_ne e] at q; exact q
theorem Ev.borrow {x : Str} {b : B} {e : Expr} {d : PyData} {ρ' : Vars} (hx : (x, b) ∈ ρ) (u : Upd ρ x b.frozen ρ') (he : Ev W ht sc ρ' obs e d) (hf : flat d = true) : Ev W ht sc ρ obs e d := by
  intro A env base reg s Q E H hQ
  exact he (H.freeze hx u) fun s' v x r => hQ s' v (x.mono fun _ => thaw_loose) (r.flat hf)
theorem EvT.borrow {x : Str} {b c : _} {e : Expr} {ρ' : Vars} (hx : (x, b) ∈ ρ) (u : Upd ρ x b.frozen ρ') (he : EvT W ht sc ρ' obs e c) : EvT W ht sc ρ obs e c := by
  intro A env base reg s Q E H hQ
  exact he (H.freeze hx u) fun s' x => hQ s' (x.mono fun _ => thaw_loose)
theorem store_var {x : Str} {v : Value} {b : B} {Q : Unit → Shared → Prop} {E : Value → Shared → Prop} (H : Here W ht sc ρ obs A env base reg s) (hk : sc.names.lookup x = some .local ∨ sc.names.lookup x = some .cell) (hb : BRel reg s.heap x b v) {ρ' : Vars} (u : Upd ρ x b ρ')
    (h : ∀ s', Here W ht sc ρ' obs A env base reg s' → Step reg s reg s' → Q () s') : wpAny W.M A (storeName env x v) Q E s := by
  have key : ∀ (Y : Addr) (h' : Heap) (tk : Nat), reg Y = .fr → Heap.SameBut Y s.heap h' → (∃ m, h'.Ns env.locals m) → (∀ n c, env.cells.lookup n = some c → ∃ v, h'.IsCell c v) →
      VarAt env h' x v → (∀ y u, y ≠ x → VarAt env s.heap y u → VarAt env h' y u) → (∃ o, h'.get? Y = some o ∧ ∀ vs, o.data ≠ .fields vs) → Q () { s with heap := h', toks := tk } := by
    intro Y h' tk hY sb hns hcl hvx hvy hYo
    have up : ∀ a o, reg a ≠ .fr → s.heap.get? a = some o → h'.get? a = some o := fun a o q g => sb.extBut a o (by rintro rfl; exact q hY) g
    have mono : ∀ {y : Str} {c : B} {u : Value}, BRel reg s.heap y c u → BRel reg h' y c u := fun r =>
      r.mono (fun a o q g => ⟨up a o (by rw [q]; intro z; contradiction) g, q⟩) (fun a o q g => ⟨up a o (by rw [q]; intro z; contradiction) g, q⟩)
    have S := H.sta
    have hYfr : ∀ {w : Own}, w ≠ .fr → ∀ a, reg a = w → a ≠ Y := fun {w} hw a e q => by subst q; rw [hY] at e; exact hw e.symm
    refine h _ ⟨H.sc, H.eok, H.amb, ⟨fun a o e n => ?_, S.low, fun a e => ?_, S.locs, fun n c e => ?_, S.inj, S.allc, hns, u.keys ▸ S.keys, fun y c e => ?_, ?_⟩, H.ksh, H.fos, fun c e => (H.hnd c e).mono fun a o q g => ⟨up a o (by rw [q]; intro z; contradiction) g, q⟩⟩ (Step.of fun a o g q => ⟨up a o q.fr g, rfl⟩)
    · obtain ⟨sl, g, q⟩ := S.keep a o e n
      refine ⟨sl, up a _ ?_ g, q⟩
      rcases S.low a o e n with q | q | q <;> rw [q] <;> intro z <;> contradiction
    · cases q : s.heap.get? a with
      | none => exact S.high a q
      | some o =>
        by_cases ha : a = Y
        · subst ha; obtain ⟨o', g, _⟩ := hYo; rw [show h'.get? a = none from e] at g; contradiction
        · have := sb.extBut a o ha q
          rw [show h'.get? a = none from e] at this; contradiction
    · obtain ⟨q1, q2, _⟩ := S.cels n c e
      exact ⟨q1, q2, hcl n c e⟩
    · rcases u.mem S.keys _ _ e with ⟨rfl, rfl⟩ | ⟨hne, e⟩
      · exact .inr ⟨v, hvx, mono hb⟩
      · rcases S.vars y c e with rfl | ⟨u, V, r⟩
        · exact .inl rfl
        exact .inr ⟨u, hvy y u hne V, mono r⟩
    · obtain ⟨L, o, e1, e0, e2, e3, e4⟩ := S.frm
      by_cases hL : L = Y
      · subst hL; obtain ⟨o', g, n⟩ := hYo; exact ⟨L, o', e1, e0, e2, g, n⟩
      · exact ⟨L, o, e1, e0, e2, sb.extBut L o hL e3, e4⟩
  have hkind : env.kindOf x = some .local ∨ env.kindOf x = some .cell := by rw [H.kindOf]; exact hk
  rcases hkind with hl | hl
  · obtain ⟨m, hns⟩ := H.sta.ns
    refine wpAny_storeName_local hl hns (fun h' hn sb => ?_) (by rw [H.eok.kind]; rfl)
    refine key env.locals h' _ H.sta.locs sb ⟨_, hn⟩ (fun n c e => ?_) (.inl ⟨hl, _, hn, by simp⟩) (fun y u hne V => ?_) ?_
    · obtain ⟨_, q2, v, q⟩ := H.sta.cels n c e
      exact ⟨v, q.sameBut sb q2⟩
    · rcases V with ⟨e, m', n', q⟩ | ⟨e, c, lc, q⟩
      · refine .inl ⟨e, _, hn, ?_⟩
        have : m' = m := by rw [n'.eq_nsMap, hns.eq_nsMap]
        subst this
        simp only [hne, if_false]; exact q
      · exact .inr ⟨e, c, lc, q.sameBut sb (H.sta.cels y c lc).2.1⟩
    · obtain ⟨o, es, ep, g, d, _⟩ := hn
      exact ⟨o, g, fun vs q => by rw [d] at q; contradiction⟩
  · obtain ⟨c, hc⟩ := H.sta.allc x (.inl hl)
    obtain ⟨q1, q2, v₀, q⟩ := H.sta.cels x c hc
    refine wpAny_storeName_cell H.eok.kind hl hc q fun h' hc' sb => ?_
    refine key c h' s.toks q1 sb (let ⟨m, n⟩ := H.sta.ns; ⟨m, n.sameBut sb (Ne.symm q2)⟩) (fun n c' e => ?_) (.inr ⟨.inl hl, c, hc, hc'⟩) (fun y u hne V => ?_) ?_
    · by_cases hn : c' = c
      · subst hn; exact ⟨_, hc'⟩
      · obtain ⟨_, _, v', q'⟩ := H.sta.cels n c' e
        exact ⟨v', q'.sameBut sb hn⟩
    · rcases V with ⟨e, m', n', q'⟩ | ⟨e, c', lc, q'⟩
      · exact .inl ⟨e, m', n'.sameBut sb (Ne.symm q2), q'⟩
      · exact .inr ⟨e, c', lc, q'.sameBut sb fun z => hne (H.sta.inj y x c (z ▸ lc) hc)⟩
    · obtain ⟨o, g, d⟩ := hc'
      exact ⟨o, g, fun vs q => by rw [d] at q; contradiction⟩
end
structure XD where
  cls : Value
  args : PyData
  nc : Bool := true
  ar : Bool := true
noncomputable def XArgs (reg : Reg) (h : Heap) (x : XD) (v : Value) : Prop := x.ar = true → Rl h (Sh reg) x.args v
theorem XArgs.mono {reg reg' : Reg} {h h' : Heap} {x : XD} {v : Value} (r : XArgs reg h x v) (k : ∀ a o, reg a = .sh → h.get? a = some o → h'.get? a = some o ∧ reg' a = .sh) : XArgs reg' h' x v := fun e => Rl.mono k _ _ (r e)
inductive Out where
  | nx (ρ : Vars)
  | br (ρ : Vars)
  | ct (ρ : Vars)
  | rt (d : PyData) (ρ : Vars)
  | ro (a : Addr) (ρ : Vars)
  | ex (x : XD) (ρ : Vars)
noncomputable def OutAt (W : Wrld) (ht : Nat) (sc : Scope) (obs : Obs) (A : Around) (env : Env) (base : Heap) (reg : Reg) (s : Shared) : Out → Flow → Prop
  | .nx ρ, .next => Here W ht sc ρ obs A env base reg s
  | .br ρ, .brk => Here W ht sc ρ obs A env base reg s
  | .ct ρ, .cont => Here W ht sc ρ obs A env base reg s
  | .rt d ρ, .ret v => Rl s.heap (Sh reg) d v ∧ Here W ht sc ρ obs A env base reg s
  | .ro a ρ, .ret v => v = .ref a ∧ Here W ht sc ρ obs A env base reg s
  | _, _ => False
inductive ExTb (X : Addr → Prop) (h : Heap) (e : Addr) (u : Option Value) : Prop
  | no (q : u = some .none)
  | tb (T : Addr) (oT : Obj) (ts : Array Value) (fl : Value) (q : u = some (.ref T)) (r : X T) (n : T ≠ e) (g : h.get? T = some oT) (d : oT.data = .fields ts) (f : ts[3]? = some fl)
inductive ExAt (reg : Reg) (h : Heap) (x : XD) (v : Value) : Prop
  | mk (e : Addr) (oe : Obj) (vs : Array Value) (a0 : Value) (q : v = .ref e) (re : reg e = .ob) (ge : h.get? e = some oe) (hc : oe.cls = x.cls) (hd : oe.data = .fields vs) (h0 : vs[0]? = some a0) (ra : XArgs reg h x a0) (hn : x.nc = true → vs[2]? = some .none) (hz : 2 < vs.size)
      (tb : vs[1]? = some .none ∨ ∃ T oT ts fl, vs[1]? = some (.ref T) ∧ reg T = .ob ∧ T ≠ e ∧ h.get? T = some oT ∧ oT.data = .fields ts ∧ ts[3]? = some fl)
noncomputable def QOk (W : Wrld) (ht : Nat) (sc : Scope) (obs : Obs) (A : Around) (env : Env) (base : Heap) (reg : Reg) (s : Shared) (Post : Out → Prop) (Q : Flow → Shared → Prop) : Prop :=
  ∀ o f s' reg', Post o → Step reg s reg' s' → OutAt W ht sc obs A env base reg' s' o f → Q f s'
noncomputable def EOk (W : Wrld) (ht : Nat) (sc : Scope) (obs : Obs) (A : Around) (env : Env) (base : Heap) (reg : Reg) (s : Shared) (Post : Out → Prop) (E : Value → Shared → Prop) : Prop :=
  ∀ x ρ' v s' reg', Post (.ex x ρ') → Step reg s reg' s' → Here W ht sc ρ' obs A env base reg' s' → ExAt reg' s'.heap x v → E v s'
noncomputable def Ex1 (W : Wrld) (ht : Nat) (sc : Scope) (ρ : Vars) (obs : Obs) (st : Stmt) (Post : Out → Prop) : Prop :=
  ∀ ⦃A : Around⦄ ⦃env : Env⦄ ⦃base : Heap⦄ ⦃reg : Reg⦄ ⦃s : Shared⦄ ⦃Q : Flow → Shared → Prop⦄ ⦃E : Value → Shared → Prop⦄, Here W ht sc ρ obs A env base reg s →
    QOk W ht sc obs A env base reg s Post Q → EOk W ht sc obs A env base reg s Post E → wpAny W.M A (exec st env) Q E s
noncomputable def Ex (W : Wrld) (ht : Nat) (sc : Scope) (ρ : Vars) (obs : Obs) (ss : List Stmt) (Post : Out → Prop) : Prop :=
  ∀ ⦃A : Around⦄ ⦃env : Env⦄ ⦃base : Heap⦄ ⦃reg : Reg⦄ ⦃s : Shared⦄ ⦃Q : Flow → Shared → Prop⦄ ⦃E : Value → Shared → Prop⦄, Here W ht sc ρ obs A env base reg s →
    QOk W ht sc obs A env base reg s Post Q → EOk W ht sc obs A env base reg s Post E → wpAny W.M A (execs ss env) Q E s
section
variable {W : Wrld} {ht : Nat} {sc : Scope} {ρ : Vars} {obs : Obs} {Post Post' : Out → Prop} {A : Around} {env : Env} {base : Heap} {reg reg' : Reg} {s s' : Shared} {Q : Flow → Shared → Prop} {E : Value → Shared → Prop}
theorem QOk.step (h : QOk W ht sc obs A env base reg s Post Q) (st : Step reg s reg' s') : QOk W ht sc obs A env base reg' s' Post Q := fun o f s'' reg'' h1 h2 h3 => h o f s'' reg'' h1 (st.trans h2) h3
theorem EOk.step (h : EOk W ht sc obs A env base reg s Post E) (st : Step reg s reg' s') : EOk W ht sc obs A env base reg' s' Post E := fun x ρ v s'' reg'' h1 h2 h3 h4 => h x ρ v s'' reg'' h1 (st.trans h2) h3 h4
theorem QOk.mono (h : QOk W ht sc obs A env base reg s Post' Q) (k : ∀ o, Post o → Post' o) : QOk W ht sc obs A env base reg s Post Q := fun o f s'' reg'' h1 => h o f s'' reg'' (k o h1)
theorem EOk.mono (h : EOk W ht sc obs A env base reg s Post' E) (k : ∀ o, Post o → Post' o) : EOk W ht sc obs A env base reg s Post E := fun x ρ v s'' reg'' h1 => h x ρ v s'' reg'' (k _ h1)
theorem Ex.nil (h : Post (.nx ρ)) : Ex W ht sc ρ obs [] Post := by
  intro A env base reg s Q E H hQ hE
  exact wpAny_execs_nil (hQ _ _ _ _ h (Step.refl _ _) H)
noncomputable def Then (W : Wrld) (ht : Nat) (sc : Scope) (obs : Obs) (rest : List Stmt) (Post : Out → Prop) : Out → Prop
  | .nx ρ => Ex W ht sc ρ obs rest Post
  | o => Post o
theorem Ex.cons {st : Stmt} {rest : List Stmt} (h : Ex1 W ht sc ρ obs st (Then W ht sc obs rest Post)) : Ex W ht sc ρ obs (st :: rest) Post := by
  intro A env base reg s Q E H hQ hE
  refine wpAny_execs_cons (h H (fun o f s' reg' ho st' oa => ?_) fun x ρ' v s' reg' ho => hE x ρ' v s' reg' ho)
  cases o with
  | nx ρ' =>
    cases f with
    | next => exact ho oa (hQ.step st') (hE.step st')
    | _ => exact oa.elim
  | br ρ' => cases f <;> first | exact hQ _ _ _ _ ho st' oa | exact oa.elim
  | ct ρ' => cases f <;> first | exact hQ _ _ _ _ ho st' oa | exact oa.elim
  | rt d ρ' => cases f <;> first | exact hQ _ _ _ _ ho st' oa | exact oa.elim
  | ro a ρ' => cases f <;> first | exact hQ _ _ _ _ ho st' oa | exact oa.elim
  | ex x ρ' => cases f <;> exact oa.elim
theorem Ex.mono {ss : List Stmt} (h : Ex W ht sc ρ obs ss Post) (k : ∀ o, Post o → Post' o) : Ex W ht sc ρ obs ss Post' := by
  intro A env base reg s Q E H hQ hE
  exact h H (hQ.mono k) (hE.mono k)
theorem Ex1.mono {ss : Stmt} (h : Ex1 W ht sc ρ obs ss Post) (k : ∀ o, Post o → Post' o) : Ex1 W ht sc ρ obs ss Post' := by
  intro A env base reg s Q E H hQ hE
  exact h H (hQ.mono k) (hE.mono k)
theorem Ex.freeze {x : Str} {b : B} {ss : List Stmt} (hx : (x, b) ∈ ρ) {ρ' : Vars} (u : Upd ρ x b.frozen ρ') (h : Ex W ht sc ρ' obs ss Post) : Ex W ht sc ρ obs ss Post := by
  intro A env base reg s Q E H hQ hE
  exact h (H.freeze hx u) (hQ.step Step.thaw) (hE.step Step.thaw)
theorem Ex1.ret {e : Expr} {pos : Pos} {d : PyData} (he : Ev W ht sc ρ obs e d) (h : Post (.rt d ρ)) : Ex1 W ht sc ρ obs (.Return (some e) pos) Post := by
  intro A env base reg s Q E H hQ hE
  refine wpAny_Return_some (he H fun s' v x r => hQ _ _ _ reg h (Step.ext x) ⟨r, H.ext x⟩)
theorem Ex1.brk {pos : Pos} (h : Post (.br ρ )) : Ex1 W ht sc ρ obs (.Break pos) Post := by
  intro A env base reg s Q E H hQ hE
  exact wpAny_Break (hQ _ _ _ _ h (Step.refl _ _) H)
theorem Ex1.ifs {t : Expr} {body orelse : List Stmt} {pos : Pos} {b : Bool} (ht' : EvT W ht sc ρ obs t b) (h1 : b = true → Ex W ht sc ρ obs body Post) (h2 : b = false → Ex W ht sc ρ obs orelse Post) : Ex1 W ht sc ρ obs (.If t body orelse pos) Post := by
  intro A env base reg s Q E H hQ hE
  refine wpAny_If (ht' H fun s₁ x₁ => ?_)
  cases b with
  | true => simp only [if_true]; exact h1 rfl (H.ext x₁) (hQ.step (Step.ext x₁)) (hE.step (Step.ext x₁))
  | false => simp only [Bool.false_eq_true, if_false]; exact h2 rfl (H.ext x₁) (hQ.step (Step.ext x₁)) (hE.step (Step.ext x₁))
theorem Ex1.assign {x : Str} {p pos : Pos} {e : Expr} {d : PyData} (hk : sc.names.lookup x = some .local ∨ sc.names.lookup x = some .cell) (he : Ev W ht sc ρ obs e d) {ρ' : Vars} (u : Upd ρ x (.sh d) ρ') (h : Post (.nx ρ'))
    (hs : ∀ env : Env, env.scope = sc → swapsWith e (some (.Name x p)) pos.line env = pure false := by intro _ _; rfl) : Ex1 W ht sc ρ obs (.Assign [.Name x p] e pos) Post := by
  intro A env base reg s Q E H hQ hE
  refine wpAny_Assign_Name (he H fun s₁ v x₁ r => store_var (b := .sh d) (H.ext x₁) hk r u fun s₂ H₂ st => hQ _ _ _ reg h ((Step.ext x₁).trans st) H₂) (hs env H.sc)
theorem Ex1.assign_nil {x : Str} {p pos pos' : Pos} (hk : sc.names.lookup x = some .local ∨ sc.names.lookup x = some .cell) {ρ' : Vars} (u : Upd ρ x (.l1 []) ρ') (h : Post (.nx ρ')) : Ex1 W ht sc ρ obs (.Assign [.Name x p] (.List [] pos') pos) Post := by
  intro A env base reg s Q E H hQ hE
  refine wpAny_Assign_Name (List_ (spliced_nil (wpAny_newList ?_ (by decide)))) rfl
  let reg' := claim reg (· = s.heap.objs.size) (.va x)
  have g : (s.heap.push { cls := .type "list", data := .seq ([] : List Value).toArray }).get? s.heap.objs.size = some { cls := .type "list", data := .seq ([] : List Value).toArray } := Heap.get?_push_size _ rfl
  have H' : Here W ht sc ρ obs A env base reg' { s with heap := s.heap.push { cls := .type "list", data := .seq ([] : List Value).toArray } } :=
    H.claim (Ext.push _ _ _) (fun a q => by rw [q]; exact fresh_none _) (fun a (q : a = _) => by subst q; exact ⟨_, g⟩)
  refine store_var (b := .l1 []) H' hk ⟨_, #[], rfl, claim_new rfl, ⟨0, g⟩, rfl⟩ u fun s₂ H₂ st => hQ _ _ _ reg' h ((Step.claim (Ext.push _ _ _) (fun a q => by rw [q]; exact fresh_none _)).trans st) H₂
theorem Ex1.assign_list {x : Str} {p pos pos' : Pos} {es : List Expr} {ds : List PyData} (hk : sc.names.lookup x = some .local ∨ sc.names.lookup x = some .cell) (he : EvAll W ht sc ρ obs es ds) (hz : ds.length ≤ sizeLine) {ρ' : Vars} (u : Upd ρ x (.l1 ds) ρ') (h : Post (.nx ρ')) :
    Ex1 W ht sc ρ obs (.Assign [.Name x p] (.List es pos') pos) Post := by
  intro A env base reg s Q E H hQ hE
  refine wpAny_Assign_Name (List_ (he.2 pos' H fun s₁ vs x₁ r => wpAny_newList ?_ (r.length ▸ hz))) rfl
  let reg' := claim reg (· = s₁.heap.objs.size) (.va x)
  have g : (s₁.heap.push { cls := .type "list", data := .seq vs.toArray }).get? s₁.heap.objs.size = some { cls := .type "list", data := .seq vs.toArray } := Heap.get?_push_size _ rfl
  have H' : Here W ht sc ρ obs A env base reg' { s₁ with heap := s₁.heap.push { cls := .type "list", data := .seq vs.toArray } } :=
    (H.ext x₁).claim (Ext.push _ _ _) (fun a q => by rw [q]; exact fresh_none _) (fun a (q : a = _) => by subst q; exact ⟨_, g⟩)
  refine store_var (b := .l1 ds) H' hk ⟨_, vs.toArray, rfl, claim_new rfl, ⟨0, g⟩, RlAll.mono (fun a o q e => ⟨Heap.get?_push_of_some _ e, (claim_old fun z => ?_).trans q⟩) _ _ r⟩ u
    fun s₂ H₂ st => hQ _ _ _ reg' h ((Step.ext x₁).trans ((Step.claim (Ext.push _ _ _) (fun a q => by rw [q]; exact fresh_none _)).trans st)) H₂
  rw [z, fresh_none] at e; contradiction
theorem Here.size_ne {A : Around} {env : Env} {base : Heap} {reg : Reg} {s : Shared} (H : Here W ht sc ρ obs A env base reg s) : s.heap.objs.size ≠ sysModules := by
  obtain ⟨o, _, _, g, _⟩ := H.ok.g
  have := Heap.lt_size g
  intro e
  rw [e] at this
  exact absurd this (by decide)
theorem Ex1.assign_dict0 {x : Str} {p pos pos' : Pos} (hk : sc.names.lookup x = some .local ∨ sc.names.lookup x = some .cell) {ρ' : Vars} (u : Upd ρ x (.d1 []) ρ') (h : Post (.nx ρ')) : Ex1 W ht sc ρ obs (.Assign [.Name x p] (.Dict [] [] pos') pos) Post := by
  intro A env base reg s Q E H hQ hE
  refine wpAny_Assign_Name (wpAny_Dict_empty ?_) rfl
  let reg' := claim reg (· = s.heap.objs.size) (.va x)
  have g : (s.heap.push { cls := .type "dict", data := .dict #[] }).get? s.heap.objs.size = some { cls := .type "dict", data := .dict #[] } := Heap.get?_push_size _ rfl
  have H' : Here W ht sc ρ obs A env base reg' { s with heap := s.heap.push { cls := .type "dict", data := .dict #[] } } :=
    H.claim (Ext.push _ _ _) (fun a q => by rw [q]; exact fresh_none _) (fun a (q : a = _) => by subst q; exact ⟨_, g⟩)
  refine store_var (b := .d1 []) H' hk ⟨_, #[], 0, rfl, claim_new rfl, H.size_ne, g, List.nodup_nil, rfl⟩ u fun s₂ H₂ st => hQ _ _ _ reg' h ((Step.claim (Ext.push _ _ _) (fun a q => by rw [q]; exact fresh_none _)).trans st) H₂
end
section
variable {W : Wrld} {ht : Nat} {sc : Scope} {ρ : Vars} {obs : Obs} {A : Around} {env : Env} {base : Heap} {reg : Reg} {s : Shared} {Post : Out → Prop}
theorem Here.mut {x : Str} {v : Value} {b' : B} {a : Addr} {h' : Heap} {tk : Nat} (H : Here W ht sc ρ obs A env base reg s) (V : VarAt env s.heap x v) (ra : reg a = .va x) (sb : Heap.SameBut a s.heap h') (ex : ∃ o, h'.get? a = some o) (hb : BRel reg h' x b' v) {ρ' : Vars} (up' : Upd ρ x b' ρ') :
    Here W ht sc ρ' obs A env base reg { s with heap := h', toks := tk } ∧ Step reg s reg { s with heap := h', toks := tk } := by
  have up : ∀ c o, reg c ≠ .va x → s.heap.get? c = some o → h'.get? c = some o := fun c o q g => sb.extBut c o (by rintro rfl; exact q ra) g
  have S := H.sta
  have vk : ∀ {y u}, VarAt env s.heap y u → VarAt env h' y u := fun {y u} V => by
    rcases V with ⟨e, m, n, q⟩ | ⟨e, c, lc, q⟩
    · exact .inl ⟨e, m, n.sameBut sb (by rintro rfl; rw [S.locs] at ra; contradiction), q⟩
    · exact .inr ⟨e, c, lc, q.sameBut sb (by rintro rfl; rw [(S.cels y c lc).1] at ra; contradiction)⟩
  refine ⟨⟨H.sc, H.eok, H.amb, ⟨fun c o e n => ?_, S.low, fun c e => ?_, S.locs, fun n c e => ?_, S.inj, S.allc, ?_, up'.keys ▸ S.keys, fun y c e => ?_, ?_⟩, H.ksh, H.fos, fun c e => (H.hnd c e).mono fun c o q g => ⟨up c o (by rw [q]; intro z; contradiction) g, q⟩⟩, Step.of fun c o g q => ⟨up c o q.va g, rfl⟩⟩
  · obtain ⟨sl, g, q⟩ := S.keep c o e n
    refine ⟨sl, up c _ ?_ g, q⟩
    rcases S.low c o e n with q | q | q <;> rw [q] <;> intro z <;> contradiction
  · refine S.high c ?_
    cases q : s.heap.get? c with
    | none => rfl
    | some o =>
      by_cases hc : c = a
      · subst hc; obtain ⟨o', g⟩ := ex; rw [show h'.get? c = none from e] at g; contradiction
      · have := sb.extBut c o hc q; rw [show h'.get? c = none from e] at this; contradiction
  · obtain ⟨q1, q2, v, q⟩ := S.cels n c e
    exact ⟨q1, q2, v, q.sameBut sb (by rintro rfl; rw [q1] at ra; contradiction)⟩
  · obtain ⟨m, n⟩ := S.ns
    exact ⟨m, n.sameBut sb (by rintro rfl; rw [S.locs] at ra; contradiction)⟩
  · rcases up'.mem S.keys _ _ e with ⟨rfl, rfl⟩ | ⟨hne, e⟩
    · exact .inr ⟨v, vk V, hb⟩
    · rcases S.vars y c e with rfl | ⟨u, V', r⟩
      · exact .inl rfl
      refine .inr ⟨u, vk V', r.mono (fun c o q g => ⟨up c o (by rw [q]; intro z; contradiction) g, q⟩) (fun c o q g => ⟨up c o (by rw [q]; intro z; cases z; exact hne rfl) g, q⟩)⟩
  · obtain ⟨L, o, e1, e0, e2, e3, e4⟩ := S.frm
    exact ⟨L, o, e1, e0, e2, sb.extBut L o (by rintro rfl; rw [e0] at ra; contradiction) e3, e4⟩
theorem Here.at {x : Str} {b : B} (H : Here W ht sc ρ obs A env base reg s) (hx : (x, b) ∈ ρ) (hb : b ≠ .un := by intro z; contradiction) : ∃ v, VarAt env s.heap x v ∧ BRel reg s.heap x b v := (H.sta.vars x b hx).resolve_left hb
theorem name_var {x : Str} {p : Pos} {v : Value} {Q : Value → Shared → Prop} {E : Value → Shared → Prop} (H : Here W ht sc ρ obs A env base reg s) (V : VarAt env s.heap x v) (h : Q v s) (hn : (x == ("__classdict__" : Str)) = false) (hd : (x == ("__debug__" : Str)) = false) :
    wpAny W.M A (eval (.Name x p) env) Q E s := wpAny_Name (V.load H.eok.kind h hn) hd
theorem VarAt.unique {x : Str} {v v' : Value} {h : Heap} (V : VarAt env h x v) (V' : VarAt env h x v') : v = v' := by
  rcases V with ⟨e, m, n, q⟩ | ⟨e, c, lc, o, g, d⟩ <;> rcases V' with ⟨e', m', n', q'⟩ | ⟨e', c', lc', o', g', d'⟩
  · have : m = m' := by rw [n.eq_nsMap, n'.eq_nsMap]
    subst this; rw [q] at q'; exact Option.some.inj q'
  · rcases e' with e' | e' <;> rw [e] at e' <;> cases e'
  · rcases e with e | e <;> rw [e'] at e <;> contradiction
  · rw [lc] at lc'; cases lc'; rw [g] at g'; cases g'; rw [d] at d'; cases d'; rfl
theorem Ex1.append {x : Str} {p apos pos pos' : Pos} {e : Expr} {xs : List PyData} {d : PyData} (hx : (x, .l1 xs) ∈ ρ) (he : Ev W ht sc ρ obs e d) (hz : xs.length ≤ sizeLine) {ρ' : Vars} (u' : Upd ρ x (.l1 (xs ++ [d])) ρ') (h : Post (.nx ρ'))
    (hline : (apos.endLine == pos.line) = true := by rfl) (hp : Plain e := by intro _ _; rfl) (hn : (x == ("__classdict__" : Str)) = false := by decide) (hd : (x == ("__debug__" : Str)) = false := by decide) :
    Ex1 W ht sc ρ obs (.Expr (.Call (.Attribute (.Name x p) "append" apos) [e] [] pos) pos') Post := by
  intro A env base reg s Q E H hQ hE
  have e1 : backTo pos (starEach [e] env) = [(false, eval e env)] := by rw [hp env []]; rfl
  obtain ⟨v, V, a, vs, rfl, ra, pl, r⟩ := H.at hx
  have hi : interactive env = false := by unfold interactive; rw [H.eok.kind]; rfl
  refine wpAny_Expr_any (wpAny_Call_append rfl (by rw [e1]; rfl) hline e1 (name_var H V ⟨a, vs, rfl, ?_, ?_⟩ hn hd)) hi rfl
  · obtain ⟨n, g⟩ := pl
    exact ⟨_, n, g, rfl, rfl, rfl⟩
  · refine he H fun s₁ u x₁ r₁ => ?_
    have pl₁ : s₁.heap.PlainList a vs := pl.at fun o e => x₁.exact (not_loose ra) e
    refine wpAny_list_append_plain pl₁ (fun h' pl' sb => ?_) (by have := r.length; simp at this; lia)
    have H₁ := H.ext x₁
    have up : ∀ c o, Sh reg c → s₁.heap.get? c = some o → h'.get? c = some o ∧ Sh reg c := fun c o q g => ⟨sb.extBut c o (by rintro rfl; rw [show reg c = .sh from q] at ra; contradiction) g, q⟩
    obtain ⟨H', st⟩ := H₁.mut (tk := s₁.toks) (b' := .l1 (xs ++ [d])) (V.slk x₁.slk) ra sb (let ⟨n, g⟩ := pl'; ⟨_, g⟩) ⟨a, vs.push u, rfl, ra, pl', by
      rw [Array.toList_push]
      exact RlAll.append (RlAll.mono up _ _ (r.ext x₁)) (RlAll.one (Rl.mono up _ _ r₁))⟩ u'
    exact hQ _ _ _ reg h ((Step.ext x₁).trans st) H'
theorem setItem_plain {l : Addr} {items : Array Value} {k : Int} {t : Tok} {v : Value} {Q : Unit → Shared → Prop} {E : Value → Shared → Prop} (hl : s.heap.PlainList l items) (h0 : 0 ≤ k) (hfit : k < 2 ^ 63) (hn : k < items.size)
    (hQ : ∀ h', h'.PlainList l (items.setIfInBounds k.toNat v) → Heap.SameBut l s.heap h' → Q () { s with heap := h' }) : wpAny W.M A (setItem (.ref l) (.int k t) v) Q E s := by
  obtain ⟨ne, ho⟩ := hl
  have em : Obj.mapSeq (·.setIfInBounds k.toNat v) { cls := .type "list", data := .seq items ne } = { cls := .type "list", data := .seq (items.setIfInBounds k.toNat v) ne } := by
    simp [Obj.mapSeq]
  exact ki_setAt (n := ne) ho h0 hfit hn (hQ _ ⟨ne, by rw [Heap.get?_update_self _ ho (by rw [em]; rfl), em]⟩ (Heap.SameBut.update ..))
theorem Ex1.setitem {x : Str} {p p' pos : Pos} {i e : Expr} {xs : List PyData} {k : Int} {d : PyData} (hx : (x, .l1 xs) ∈ ρ) (he : Ev W ht sc ρ obs e d) (hi : Ev W ht sc ρ obs i (.int k)) (h0 : 0 ≤ k) (h1 : k < xs.length) (hz : xs.length < 2 ^ 62)
    {ρ' : Vars} (u' : Upd ρ x (.l1 (xs.set k.toNat d)) ρ') (h : Post (.nx ρ')) (hn : (x == ("__classdict__" : Str)) = false := by decide) (hd : (x == ("__debug__" : Str)) = false := by decide)
    (hs : ∀ env : Env, env.scope = sc → swapsWith e (some (.Subscript (.Name x p) i p')) pos.line env = pure false := by intro _ _; rfl) :
    Ex1 W ht sc ρ obs (.Assign [.Subscript (.Name x p) i p'] e pos) Post := by
  intro A env base reg s Q E H hQ hE
  refine wpAny_Assign_Subscript (he H fun s₁ u x₁ r₁ => ?_) (hs env H.sc)
  obtain ⟨v, V, a, vs, rfl, ra, pl, r⟩ := (H.ext x₁).at hx
  refine name_var (H.ext x₁) V (hi (H.ext x₁) fun s₂ kv x₂ r₂ => ?_) hn hd
  obtain ⟨t, rfl⟩ := r₂
  have pl₂ : s₂.heap.PlainList a vs := pl.at fun o e => x₂.exact (not_loose ra) e
  have hl : vs.size = xs.length := by simpa using r.length
  refine setItem_plain pl₂ h0 (by lia) (by lia) fun h' pl' sb => ?_
  have H₂ := (H.ext x₁).ext x₂
  have up : ∀ c o, Sh reg c → s₂.heap.get? c = some o → h'.get? c = some o ∧ Sh reg c := fun c o q g => ⟨sb.extBut c o (by rintro rfl; rw [show reg c = .sh from q] at ra; contradiction) g, q⟩
  obtain ⟨H', st⟩ := H₂.mut (tk := s₂.toks) (b' := .l1 (xs.set k.toNat d)) (V.slk x₂.slk) ra sb (let ⟨n, g⟩ := pl'; ⟨_, g⟩) ⟨a, _, rfl, ra, pl', by
    rw [Array.toList_setIfInBounds]
    exact RlAll.set (RlAll.mono up _ _ (r.ext x₂)) (Rl.mono up _ _ (r₁.ext x₂))⟩ u'
  exact hQ _ _ _ reg h ((Step.ext (x₁.trans x₂)).trans st) H'
theorem Ev.item_l1 {x : Str} {p pos : Pos} {i : Expr} {xs : List PyData} {k : Int} {d : PyData} (hx : (x, .l1 xs) ∈ ρ) (hi : Ev W ht sc ρ obs i (.int k)) (h0 : 0 ≤ k) (hfit : k < 2 ^ 63) (hd : xs[k.toNat]? = some d)
    (hs : NoSlice i := by intro _ _; rfl) (hn : (x == ("__classdict__" : Str)) = false := by decide) (hdb : (x == ("__debug__" : Str)) = false := by decide) : Ev W ht sc ρ obs (.Subscript (.Name x p) i pos) d := by
  intro A env base reg s Q E H hQ
  obtain ⟨v, V, a, vs, rfl, ra, pl, r⟩ := H.at hx
  refine Subscript_ (name_var H V (hi H fun s₂ v₂ x₂ r₂ => ?_) hn hdb)
  obtain ⟨t, rfl⟩ := r₂
  obtain ⟨u, hu, ru⟩ := (r.ext x₂).get hd
  have hl : s₂.heap.IsList a vs := (pl.at fun o e => x₂.exact (not_loose ra) e).isList
  exact tail_any hl.typeIs slot_list_getitem.lookup (wpAny_getItem_list hl h0 hfit (by simpa using hu) (hQ _ _ x₂ ru)) (hs _ _)
theorem Ev.item_l2 {x : Str} {p p' pos : Pos} {i j : Expr} {xss : List (List PyData)} {xs : List PyData} {k l : Int} {d : PyData} (hx : (x, .l2 xss) ∈ ρ) (hi : Ev W ht sc ρ obs i (.int k)) (hj : Ev W ht sc ρ obs j (.int l)) (h0 : 0 ≤ k) (hfit : k < 2 ^ 63) (hk : xss[k.toNat]? = some xs)
    (l0 : 0 ≤ l) (lfit : l < 2 ^ 63) (hd : xs[l.toNat]? = some d)
    (hs : NoSlice i := by intro _ _; rfl) (hs' : NoSlice j := by intro _ _; rfl) (hn : (x == ("__classdict__" : Str)) = false := by decide) (hdb : (x == ("__debug__" : Str)) = false := by decide) :
    Ev W ht sc ρ obs (.Subscript (.Subscript (.Name x p) i p') j pos) d := by
  intro A env base reg s Q E H hQ
  obtain ⟨v, V, a, bs, rfl, ra, pl, hlen, nd, hb, r⟩ := H.at hx
  have hlt : k.toNat < bs.length := by have := (List.getElem?_eq_some_iff.mp hk).1; lia
  obtain ⟨vs, plb, rb⟩ := r k.toNat bs[k.toNat] xs (by simp [hlt]) hk
  refine Subscript_ (Subscript_ (name_var H V (hi H fun s₂ v₂ x₂ r₂ => ?_) hn hdb))
  obtain ⟨t, rfl⟩ := r₂
  have hl : s₂.heap.IsList a _ := (pl.at fun o e => x₂.exact (not_loose ra) e).isList
  refine tail_any hl.typeIs slot_list_getitem.lookup (wpAny_getItem_list (x := .ref bs[k.toNat]) hl h0 hfit (by simp [hlt]) ?_) (hs _ _)
  refine hj (H.ext x₂) fun s₃ v₃ x₃ r₃ => ?_
  obtain ⟨t', rfl⟩ := r₃
  have x₂₃ := x₂.trans x₃
  obtain ⟨u, hu, ru⟩ := (rb.ext x₂₃).get hd
  have hl' : s₃.heap.IsList bs[k.toNat] vs := (plb.at fun o e => x₂₃.exact (not_loose (hb _ (List.getElem_mem hlt)).2) e).isList
  exact tail_any hl'.typeIs slot_list_getitem.lookup (wpAny_getItem_list hl' l0 lfit (by simpa using hu) (hQ _ _ x₂₃ ru)) (hs' _ _)
theorem Ex1.setitem2 {x : Str} {p p' p'' pos : Pos} {i j e : Expr} {xss : List (List PyData)} {xs : List PyData} {k l : Int} {d : PyData} (hx : (x, .l2 xss) ∈ ρ) (he : Ev W ht sc ρ obs e d) (hi : Ev W ht sc ρ obs i (.int k)) (hj : Ev W ht sc ρ obs j (.int l))
    (h0 : 0 ≤ k) (hfit : k < 2 ^ 63) (hk : xss[k.toNat]? = some xs) (l0 : 0 ≤ l) (l1 : l < xs.length) (hz : xs.length < 2 ^ 62)
    {ρ' : Vars} (u' : Upd ρ x (.l2 (xss.set k.toNat (xs.set l.toNat d))) ρ') (h : Post (.nx ρ')) (hs1 : NoSlice i := by intro _ _; rfl) (hn : (x == ("__classdict__" : Str)) = false := by decide) (hdb : (x == ("__debug__" : Str)) = false := by decide)
    (hs : ∀ env : Env, env.scope = sc → swapsWith e (some (.Subscript (.Subscript (.Name x p) i p') j p'')) pos.line env = pure false := by intro _ _; rfl) :
    Ex1 W ht sc ρ obs (.Assign [.Subscript (.Subscript (.Name x p) i p') j p''] e pos) Post := by
  intro A env base reg s Q E H hQ hE
  refine wpAny_Assign_Subscript (he H fun s₁ u x₁ r₁ => ?_) (hs env H.sc)
  obtain ⟨v, V, a, bs, rfl, ra, pl, hlen, nd, hb, r⟩ := (H.ext x₁).at hx
  have hlt : k.toNat < bs.length := by have := (List.getElem?_eq_some_iff.mp hk).1; lia
  obtain ⟨vs, plb, rb⟩ := r k.toNat bs[k.toNat] xs (by simp [hlt]) hk
  have hbm := hb bs[k.toNat] (List.getElem_mem hlt)
  refine Subscript_ (name_var (H.ext x₁) V (hi (H.ext x₁) fun s₂ v₂ x₂ r₂ => ?_) hn hdb)
  obtain ⟨t, rfl⟩ := r₂
  have hl : s₂.heap.IsList a _ := (pl.at fun o e => x₂.exact (not_loose ra) e).isList
  refine tail_any hl.typeIs slot_list_getitem.lookup (wpAny_getItem_list (x := .ref bs[k.toNat]) hl h0 hfit (by simp [hlt]) ?_) (hs1 _ _)
  refine hj ((H.ext x₁).ext x₂) fun s₃ v₃ x₃ r₃ => ?_
  obtain ⟨t', rfl⟩ := r₃
  have x₂₃ := x₂.trans x₃
  have plb₃ : s₃.heap.PlainList bs[k.toNat] vs := plb.at fun o e => x₂₃.exact (not_loose hbm.2) e
  have hl : vs.size = xs.length := by simpa using rb.length
  refine setItem_plain plb₃ l0 (by lia) (by lia) fun h' pl' sb => ?_
  have H₃ := (H.ext x₁).ext x₂₃
  have up : ∀ c o, Sh reg c → s₃.heap.get? c = some o → h'.get? c = some o ∧ Sh reg c := fun c o q g => ⟨sb.extBut c o (by rintro rfl; have := hbm.2; rw [show reg _ = .sh from q] at this; contradiction) g, q⟩
  obtain ⟨H', st⟩ := H₃.mut (tk := s₃.toks) (b' := .l2 (xss.set k.toNat (xs.set l.toNat d))) (V.slk x₂₃.slk) hbm.2 sb (let ⟨n, g⟩ := pl'; ⟨_, g⟩)
    ⟨a, bs, rfl, ra, (pl.at fun o e => sb.extBut _ o (Ne.symm hbm.1) (x₂₃.exact (not_loose ra) e)), by rw [List.length_set]; exact hlen, nd, hb, by
      intro m b ys h1 h2
      by_cases hm : m = k.toNat
      · subst hm
        have hb' : b = bs[k.toNat] := by
          have : bs[k.toNat]? = some bs[k.toNat] := by simp [hlt]
          rw [this] at h1; exact (Option.some.inj h1).symm
        subst hb'
        rw [List.getElem?_set_self (by lia)] at h2
        cases h2
        refine ⟨_, pl', ?_⟩
        rw [Array.toList_setIfInBounds]
        exact RlAll.set (RlAll.mono up _ _ (rb.ext x₂₃)) (Rl.mono up _ _ (r₁.ext x₂₃))
      · rw [List.getElem?_set_ne (Ne.symm hm)] at h2
        obtain ⟨ws, pw, rw'⟩ := r m b ys h1 h2
        have hne : b ≠ bs[k.toNat] := by
          intro e
          have h3 : bs[k.toNat]? = some b := by simp [hlt, e]
          exact hm ((List.getElem?_inj (by exact (List.getElem?_eq_some_iff.mp h1).1) nd).mp (h1.trans h3.symm))
        exact ⟨ws, pw.at fun o e => sb.extBut _ o hne (x₂₃.exact (not_loose (hb b (List.mem_of_getElem? h1)).2) e), RlAll.mono up _ _ (rw'.ext x₂₃)⟩⟩ u'
  exact hQ _ _ _ reg h ((Step.ext (x₁.trans x₂₃)).trans st) H'
end
theorem kv_pairs {prog : Program} {w : World} {h : Heap} {P : Addr → Prop} {kvs : List (Int × PyData)} {es : List DictEntry} (r : RlKv h P (kvData kvs) es) :
    ∃ us : List Value, us.length = kvs.length ∧ Pairs (intKind prog w) es ((kvs.map (·.1)).zip us) ∧ RlAll h P (kvs.map (·.2)) us ∧ ∀ e ∈ es, ∃ k, (intKind prog w).is k e.key = true ∧ e.hash = hashInt k := by
  induction kvs generalizing es with
  | nil => rw [show es = [] from r]; exact ⟨[], rfl, .nil, rfl, fun _ h => (List.not_mem_nil h).elim⟩
  | cons p kvs ih =>
    obtain ⟨e, es', i, t, rfl, e2, e3, e4, r, rs⟩ := r
    have e2 := PyData.int.inj e2
    obtain ⟨us, a, b, c, dd⟩ := ih rs
    have hi := intKind_is prog w i t
    rw [← e3, ← e2] at hi
    exact ⟨e.val :: us, congrArg Nat.succ a, .cons hi rfl b, ⟨_, _, rfl, r, c⟩, fun x hx => (List.mem_cons.mp hx).elim (fun z => ⟨p.1, by rw [z]; exact hi, by rw [z, e2]; exact e4⟩) (dd x)⟩
theorem kv_of_pairs {prog : Program} {w : World} {h : Heap} {P : Addr → Prop} {kvs : List (Int × PyData)} {es : List DictEntry} {us : List Value} (hl : us.length = kvs.length) (p : Pairs (intKind prog w) es ((kvs.map (·.1)).zip us)) (r : RlAll h P (kvs.map (·.2)) us)
    (hk : ∀ e ∈ es, ∃ k, (intKind prog w).is k e.key = true ∧ e.hash = hashInt k) : RlKv h P (kvData kvs) es := by
  induction kvs generalizing es us with
  | nil => cases p; rfl
  | cons q kvs ih =>
    obtain ⟨u, us', rfl, ru, rs⟩ := r
    cases p with
    | @cons e _ es' _ h1 h2 h3 =>
      obtain ⟨k', q1, q2⟩ := hk e List.mem_cons_self
      obtain ⟨t, ht⟩ := Value.isInt_shape h1
      have := (intKind prog w).inj _ _ _ q1 h1
      exact ⟨e, es', _, t, rfl, rfl, ht, this ▸ q2, by rw [h2]; exact ru, ih (Nat.succ.inj hl) h3 rs fun x hx => hk x (List.mem_cons_of_mem _ hx)⟩
theorem dict_of {prog : Program} {w : World} {h : Heap} {P : Addr → Prop} {a : Addr} {es : Array DictEntry} {n : Nat} {kvs : List (Int × PyData)} (g : h.get? a = some { cls := .type "dict", data := .dict es n }) (nd : (kvs.map (·.1)).Nodup)
    (r : RlKv h P (kvData kvs) es.toList) : ∃ us : List Value, us.length = kvs.length ∧ h.DictOf (intKind prog w) a ((kvs.map (·.1)).zip us) ∧ RlAll h P (kvs.map (·.2)) us := by
  obtain ⟨us, a1, a2, a3, a4⟩ := kv_pairs (prog := prog) (w := w) r
  refine ⟨us, a1, ⟨_, es, n, g, ⟨rfl, rfl, rfl⟩, rfl, fun e he => a4 e (by simpa using he), a2, ?_⟩, a3⟩
  rw [List.map_fst_zip (by simp [a1])]; exact nd
theorem of_dict {prog : Program} {w : World} {h : Heap} {P : Addr → Prop} {a : Addr} {kvs : List (Int × PyData)} {us : List Value} (hl : us.length = kvs.length) (D : h.DictOf (intKind prog w) a ((kvs.map (·.1)).zip us)) (r : RlAll h P (kvs.map (·.2)) us) :
    ∃ es n, h.get? a = some { cls := .type "dict", data := .dict es n } ∧ RlKv h P (kvData kvs) es.toList := by
  obtain ⟨⟨c, d, dt, sl⟩, es, ep, g, ⟨x1, x2, x3⟩, hd, hk, hp, _⟩ := D
  simp only at x1 x2 x3 hd
  subst x1 x2 x3 hd
  exact ⟨es, ep, g, kv_of_pairs hl hp r fun e he => hk e (by simpa using he)⟩
theorem valueAt_zip {kvs : List (Int × PyData)} {us : List Value} {h : Heap} {P : Addr → Prop} {k : Int} {d : PyData} : ∀ (_ : us.length = kvs.length) (_ : RlAll h P (kvs.map (·.2)) us) (_ : kvs.lookup k = some d), ∃ v, valueAt ((kvs.map (·.1)).zip us) k = some v ∧ Rl h P d v := by
  induction kvs generalizing us with
  | nil => intro _ _ e; simp at e
  | cons p kvs ih =>
    obtain ⟨k', d'⟩ := p
    intro hl r e
    obtain ⟨u, us', rfl, ru, rs⟩ := r
    rw [List.lookup_cons] at e
    simp only [valueAt, List.map_cons, List.zip_cons_cons, List.find?_cons]
    by_cases hk : k' = k
    · subst hk; simp at e; subst e; exact ⟨u, by simp, ru⟩
    · have : (k == k') = false := by simpa using fun e => hk e.symm
      rw [this] at e
      simp only [decide_eq_false hk]
      exact ih (by simpa using hl) rs e
theorem valueAt_none {kvs : List (Int × PyData)} {us : List Value} {k : Int} : ∀ (_ : us.length = kvs.length) (_ : kvs.lookup k = none), valueAt ((kvs.map (·.1)).zip us) k = none := by
  induction kvs generalizing us with
  | nil => intro _ _; rfl
  | cons p kvs ih =>
    obtain ⟨k', d'⟩ := p
    intro hl e
    cases us with
    | nil => simp at hl
    | cons u us' =>
      rw [List.lookup_cons] at e
      simp only [valueAt, List.map_cons, List.zip_cons_cons, List.find?_cons]
      by_cases hk : k' = k
      · subst hk; simp at e
      · have : (k == k') = false := by simpa using fun e => hk e.symm
        rw [this] at e
        simp only [decide_eq_false hk]
        exact ih (by simpa using hl) e
theorem stored_new {ks : List Int} {us : List Value} {k : Int} {v : Value} (hl : us.length = ks.length) (hn : k ∉ ks) : stored (ks.zip us) k v = (ks ++ [k]).zip (us ++ [v]) := by
  unfold stored
  rw [if_neg]
  · rw [List.zip_append hl.symm]; rfl
  · simp only [List.any_eq_true, decide_eq_true_eq, not_exists, not_and]
    rintro ⟨a, b⟩ hm e
    exact hn (e ▸ (List.of_mem_zip hm).1)
section
variable {W : Wrld} {ht : Nat} {sc : Scope} {ρ : Vars} {obs : Obs} {Post : Out → Prop}
theorem Ex1.setdict {x : Str} {p p' pos : Pos} {i e : Expr} {kvs : List (Int × PyData)} {k : Int} {d : PyData} (hx : (x, .d1 kvs) ∈ ρ) (he : Ev W ht sc ρ obs e d) (hi : Ev W ht sc ρ obs i (.int k)) (hnew : k ∉ kvs.map (·.1)) (hz : kvs.length ≤ sizeLine)
    {ρ' : Vars} (u' : Upd ρ x (.d1 (kvs ++ [(k, d)])) ρ') (h : Post (.nx ρ')) (hn : (x == ("__classdict__" : Str)) = false := by decide) (hdb : (x == ("__debug__" : Str)) = false := by decide)
    (hs : ∀ env : Env, env.scope = sc → swapsWith e (some (.Subscript (.Name x p) i p')) pos.line env = pure false := by intro _ _; rfl) :
    Ex1 W ht sc ρ obs (.Assign [.Subscript (.Name x p) i p'] e pos) Post := by
  intro A env base reg s Q E H hQ hE
  refine wpAny_Assign_Subscript (he H fun s₁ u x₁ r₁ => ?_) (hs env H.sc)
  obtain ⟨v, V, a, es, n, rfl, ra, ns, g, nd, r⟩ := (H.ext x₁).at hx
  refine name_var (H.ext x₁) V (hi (H.ext x₁) fun s₂ kv x₂ r₂ => ?_) hn hdb
  obtain ⟨t, rfl⟩ := r₂
  obtain ⟨us, hl, D, rv⟩ := dict_of (prog := W.prog) (w := W.w) (x₂.exact (not_loose ra) g) nd (RlKv.mono (fun c o q e => ⟨x₂.exact (not_loose q) e, q⟩) _ _ r)
  refine wpAny_setItem_pairs (intKind_is W.prog W.w k t) D (fun h' D' sb => ?_) (by simp [hl]; exact hz)
  rw [stored_new (by simp [hl]) hnew] at D'
  have H₂ := (H.ext x₁).ext x₂
  have up : ∀ c o, Sh reg c → s₂.heap.get? c = some o → h'.get? c = some o ∧ Sh reg c := fun c o q g => ⟨sb.extBut c o (by rintro rfl; rw [show reg c = .sh from q] at ra; contradiction) g, q⟩
  obtain ⟨es', n', g', r'⟩ := of_dict (P := Sh reg) (kvs := kvs ++ [(k, d)]) (us := us ++ [u]) (by simp [hl]) (by simpa using D') (by
    rw [List.map_append]
    exact RlAll.append (RlAll.mono up _ _ rv) (RlAll.one (Rl.mono up _ _ (r₁.ext x₂))))
  obtain ⟨H', st⟩ := H₂.mut (tk := s₂.toks + 1) (b' := .d1 (kvs ++ [(k, d)])) (V.slk x₂.slk) ra sb ⟨_, g'⟩ ⟨a, es', n', rfl, ra, ns, g', by
    rw [List.map_append]
    exact List.nodup_append.mpr ⟨nd, by simp, fun a ha b hb => by simp at hb; subst hb; rintro rfl; exact hnew ha⟩, r'⟩ u'
  exact hQ _ _ _ reg h ((Step.ext (x₁.trans x₂)).trans st) H'
theorem Ev.item_d1 {x : Str} {p pos : Pos} {i : Expr} {kvs : List (Int × PyData)} {k : Int} {d : PyData} (hx : (x, .d1 kvs) ∈ ρ) (hi : Ev W ht sc ρ obs i (.int k)) (hd : kvs.lookup k = some d)
    (hs : NoSlice i := by intro _ _; rfl) (hn : (x == ("__classdict__" : Str)) = false := by decide) (hdb : (x == ("__debug__" : Str)) = false := by decide) : Ev W ht sc ρ obs (.Subscript (.Name x p) i pos) d := by
  intro A env base reg s Q E H hQ
  obtain ⟨v, V, a, es, n, rfl, ra, ns, g, nd, r⟩ := H.at hx
  refine Subscript_ (name_var H V (hi H fun s₂ v₂ x₂ r₂ => ?_) hn hdb)
  obtain ⟨t, rfl⟩ := r₂
  obtain ⟨us, hl, D, rv⟩ := dict_of (prog := W.prog) (w := W.w) (x₂.exact (not_loose ra) g) nd (RlKv.mono (fun c o q e => ⟨x₂.exact (not_loose q) e, q⟩) _ _ r)
  obtain ⟨u, hu, ru⟩ := valueAt_zip hl rv hd
  exact tail_any (D.mapOf).typeIs slot_dict_getitem.lookup (wpAny_getItem_of (intKind_is W.prog W.w k t) D.mapOf hu (hQ _ _ (x₂.trans (Ext.tok _ _)) ru)) (hs _ _)
theorem Ev.item_dict {v i : Expr} {pos : Pos} {kvs : List (Int × PyData)} {k : Int} {d : PyData} (hv : Ev W ht sc ρ obs v (.dict (kvData kvs))) (nd : (kvs.map (·.1)).Nodup) (hi : Ev W ht sc ρ obs i (.int k)) (hd : kvs.lookup k = some d)
    (hs : NoSlice i := by intro _ _; rfl) : Ev W ht sc ρ obs (.Subscript v i pos) d := by
  intro A env base reg s Q E H hQ
  refine Subscript_ (hv H fun s₁ v₁ x₁ r₁ => hi (H.ext x₁) fun s₂ v₂ x₂ r₂ => ?_)
  obtain ⟨t, rfl⟩ := r₂
  obtain ⟨a, es, n, rfl, p, _, g, r⟩ := Rl.ext x₂ r₁
  obtain ⟨us, hl, D, rv⟩ := dict_of (prog := W.prog) (w := W.w) g nd r
  obtain ⟨u, hu, ru⟩ := valueAt_zip hl rv hd
  exact tail_any (D.mapOf).typeIs slot_dict_getitem.lookup (wpAny_getItem_of (intKind_is W.prog W.w k t) D.mapOf hu (hQ _ _ ((x₁.trans x₂).trans (Ext.tok _ _)) ru)) (hs _ _)
end
section
variable {M : Model} {A : Around} {s : Shared} {E : Value → Shared → Prop}
theorem frameOf_any {base : Heap} {fenv env : Env} {outer : List Env} {L : Addr} {Q : Value → Shared → Prop} (hfr : A.frames = some (fenv :: outer)) (he : fenv.frame = env.frame) (hl : s.heap.FunFrames base (fenv :: outer)) (hf : env.frame = some L)
    (h : ∀ h', Heap.SlotsOnly ((fenv :: outer).filterMap (·.frame)) s.heap h' → Q (.ref L) { s with heap := h' }) : wpAny M A (PySem.frameOf env) Q E s := by
  unfold PySem.frameOf
  refine wpAny_bind (wpAny_frameEnvs hfr ?_)
  have hdw : ((fenv :: outer).dropWhile fun x => x.frame != env.frame) = fenv :: outer := by simp [List.dropWhile, he]
  rw [hdw]
  unfold frameObject
  refine wpAny_bind (wpAny_bind (wpAny_readyFrames_fun hl fun h₁ hs₁ => wpAny_pure ?_))
  rw [he, hf]
  exact wpAny_pure (h h₁ hs₁)
end
theorem Exc.set3 {reg : Reg} {h h' : Heap} {c u : Value} {e' T : Addr} {oT oT' : Obj} {ts : Array Value} (X : Exc reg h c e') (gT : h.get? T = some oT) (hdT : oT.data = .fields ts) (gT' : h'.get? T = some oT') (hd' : oT'.data = .fields (ts.setIfInBounds 3 u)) (hc : oT'.cls = oT.cls) (hsz : 3 < ts.size)
    (other : ∀ b, b ≠ T → h'.get? b = h.get? b) : Exc reg h' c e' := by
  obtain ⟨oe, vs, a0, T₁, oT₁, ts₁, fl, h1, h2, h3, h4, h5, h6, h7, h8, h9, h10, h11, h12⟩ := X
  have p1 : ∃ oe' vs', h'.get? e' = some oe' ∧ oe'.cls = c ∧ oe'.data = .fields vs' ∧ vs'[0]? = some a0 ∧ vs'[2]? = some .none ∧ vs'[1]? = some (.ref T₁) := by
    by_cases q : e' = T
    · subst q
      rw [gT] at h2; cases h2
      rw [hdT] at h4; cases h4
      exact ⟨_, _, gT', hc.trans h3, hd', by rw [Array.getElem?_setIfInBounds_ne (by decide)]; exact h5, by rw [Array.getElem?_setIfInBounds_ne (by decide)]; exact h6, by rw [Array.getElem?_setIfInBounds_ne (by decide)]; exact h7⟩
    · exact ⟨oe, vs, (other _ q).trans h2, h3, h4, h5, h6, h7⟩
  have p2 : ∃ oT₂ ts₂ fl₂, h'.get? T₁ = some oT₂ ∧ oT₂.data = .fields ts₂ ∧ ts₂[3]? = some fl₂ := by
    by_cases q : T₁ = T
    · subst q
      exact ⟨_, _, u, gT', hd', by simp [hsz]⟩
    · exact ⟨oT₁, ts₁, fl, (other _ q).trans h10, h11, h12⟩
  obtain ⟨oe', vs', q1, q2, q3, q4, q5, q6⟩ := p1
  obtain ⟨oT₂, ts₂, fl₂, r1, r2, r3⟩ := p2
  exact ⟨oe', vs', a0, T₁, oT₂, ts₂, fl₂, h1, q1, q2, q3, q4, q5, q6, h8, h9, r1, r2, r3⟩
theorem Exc.set1 {reg : Reg} {h h' : Heap} {c fl : Value} {e e' N : Addr} {oe oe₁ oN : Obj} {vs tn : Array Value} (X : Exc reg h c e') (ge : h.get? e = some oe) (hd : oe.data = .fields vs) (ge' : h'.get? e = some oe₁) (hd' : oe₁.data = .fields (vs.setIfInBounds 1 (.ref N))) (hc : oe₁.cls = oe.cls) (hsz : 1 < vs.size)
    (other : ∀ b, b ≠ e → h'.get? b = h.get? b) (rN : reg N = .ob) (gN : h.get? N = some oN) (hdN : oN.data = .fields tn) (hfl : tn[3]? = some fl) (hne : e' = e → N ≠ e) : Exc reg h' c e' := by
  obtain ⟨oe₀, vs₀, a0, T₁, oT₁, ts₁, fl₁, h1, h2, h3, h4, h5, h6, h7, h8, h9, h10, h11, h12⟩ := X
  by_cases q : e' = e
  · have hNe := hne q
    subst q
    rw [ge] at h2; cases h2
    rw [hd] at h4; cases h4
    exact ⟨_, _, a0, N, oN, tn, fl, h1, ge', hc.trans h3, hd', by rw [Array.getElem?_setIfInBounds_ne (by decide)]; exact h5, by rw [Array.getElem?_setIfInBounds_ne (by decide)]; exact h6, by simp [hsz], rN, hNe, (other _ hNe).trans gN, hdN, hfl⟩
  · by_cases r : T₁ = e
    · subst r
      rw [ge] at h10; cases h10
      rw [hd] at h11; cases h11
      exact ⟨oe₀, vs₀, a0, T₁, _, _, fl₁, h1, (other _ q).trans h2, h3, h4, h5, h6, h7, h8, h9, ge', hd', by rw [Array.getElem?_setIfInBounds_ne (by decide)]; exact h12⟩
    · exact ⟨oe₀, vs₀, a0, T₁, oT₁, ts₁, fl₁, h1, (other _ q).trans h2, h3, h4, h5, h6, h7, h8, h9, (other _ r).trans h10, h11, h12⟩
section
variable {W : Wrld} {ht : Nat} {sc : Scope} {ρ : Vars} {obs : Obs} {A : Around} {env : Env} {base : Heap} {reg : Reg} {s : Shared}
theorem Here.obchg {h' : Heap} {tk : Nat} (H : Here W ht sc ρ obs A env base reg s) (k : ∀ a o, s.heap.get? a = some o → reg a ≠ .ob → ∃ sl, h'.get? a = some { o with slots := sl } ∧ (¬ Loose reg a → sl = o.slots))
    (k' : ∀ a o, s.heap.get? a = some o → ∃ o', h'.get? a = some o') (kc : ∀ c e, Exc reg s.heap c e → Exc reg h' c e) : Here W ht sc ρ obs A env base reg { s with heap := h', toks := tk } ∧ Step reg s reg { s with heap := h', toks := tk } := by
  have S := H.sta
  have data : ∀ {a o}, s.heap.get? a = some o → reg a ≠ .ob → ∃ o', h'.get? a = some o' ∧ o'.data = o.data := fun g n => let ⟨sl, e, _⟩ := k _ _ g n; ⟨_, e, rfl⟩
  have ex : ∀ {a o}, s.heap.get? a = some o → ∀ {w : Own}, reg a = w → w ≠ .ob → w ≠ .fr → w ≠ .fo → h'.get? a = some o := fun {a o} g {w} e h1 h2 h3 => by
    obtain ⟨sl, g', q⟩ := k a o g (by rw [e]; exact h1)
    rw [q (not_loose e h2 h3)] at g'; exact g'
  have cell : ∀ {c v}, reg c = .fr → s.heap.IsCell c v → h'.IsCell c v := fun e ⟨o, g, d⟩ => by
    obtain ⟨o', g', d'⟩ := data g (by rw [e]; intro z; contradiction)
    exact ⟨o', g', d'.trans d⟩
  have nsk : ∀ {c m}, reg c = .fr → s.heap.Ns c m → h'.Ns c m := fun e ⟨o, es, ep, g, d, r⟩ => by
    obtain ⟨o', g', d'⟩ := data g (by rw [e]; intro z; contradiction)
    exact ⟨o', es, ep, g', d'.trans d, r⟩
  refine ⟨⟨H.sc, H.eok, H.amb, ⟨fun a o e n => ?_, S.low, fun a e => ?_, S.locs, fun n c e => ?_, S.inj, S.allc, ?_, S.keys, fun y c e => ?_, ?_⟩, H.ksh, H.fos, fun c e => let ⟨e, h1, h2⟩ := H.hnd c e; ⟨e, h1, kc c e h2⟩⟩, ⟨⟨h', tk, rfl⟩, fun a o g q => ⟨?_, rfl⟩⟩⟩
  · obtain ⟨sl, g, q⟩ := S.keep a o e n
    have lw := S.low a o e n
    obtain ⟨sl', g', q'⟩ := k a _ g (by rcases lw with z | z | z <;> rw [z] <;> intro z <;> contradiction)
    refine ⟨sl', g', fun f => ?_⟩
    rcases lw with z | z | z
    · exact (q' (not_loose z)).trans (q f)
    · exact (q' (not_loose z)).trans (q f)
    · exact absurd z f
  · refine S.high a ?_
    cases q : s.heap.get? a with
    | none => rfl
    | some o => obtain ⟨o', g⟩ := k' a o q; rw [show h'.get? a = none from e] at g; contradiction
  · obtain ⟨q1, q2, v, q⟩ := S.cels n c e
    exact ⟨q1, q2, v, cell q1 q⟩
  · obtain ⟨m, n⟩ := S.ns
    exact ⟨m, nsk S.locs n⟩
  · rcases S.vars y c e with rfl | ⟨u, V, r⟩
    · exact .inl rfl
    refine .inr ⟨u, ?_, r.mono (fun a o q g => ⟨ex g q (by intro z; contradiction) (by intro z; contradiction) (by intro z; contradiction), q⟩) (fun a o q g => ⟨ex g q (by intro z; contradiction) (by intro z; contradiction) (by intro z; contradiction), q⟩)⟩
    rcases V with ⟨e, m, n, q⟩ | ⟨e, c, lc, q⟩
    · exact .inl ⟨e, m, nsk S.locs n, q⟩
    · exact .inr ⟨e, c, lc, cell (S.cels y c lc).1 q⟩
  · obtain ⟨L, o, e1, e0, e2, e3, e4⟩ := S.frm
    obtain ⟨o', g, d⟩ := data e3 (by rw [e0]; intro z; contradiction)
    exact ⟨L, o', e1, e0, e2, g, fun vs => d ▸ e4 vs⟩
  · obtain ⟨sl, g', q'⟩ := k a o g (by rcases q with z | z | z | z <;> rw [z] <;> intro z <;> contradiction)
    refine ⟨sl, g', fun f => q' ?_⟩
    rintro (z | z)
    · exact q.fr z
    · exact f z
inductive ExTr (reg : Reg) (h : Heap) (x : XD) (v : Value) : Prop
  | mk (e : Addr) (oe : Obj) (vs : Array Value) (a0 : Value) (T : Addr) (oT : Obj) (ts : Array Value) (fl : Value) (q : v = .ref e) (re : reg e = .ob) (ge : h.get? e = some oe) (hc : oe.cls = x.cls) (hd : oe.data = .fields vs) (h0 : vs[0]? = some a0) (ra : XArgs reg h x a0) (hn : x.nc = true → vs[2]? = some .none) (hz : 2 < vs.size)
      (h1 : vs[1]? = some (.ref T)) (rT : reg T = .ob) (n : T ≠ e) (gT : h.get? T = some oT) (dT : oT.data = .fields ts) (h3 : ts[3]? = some fl)
theorem ExTr.at {h : Heap} {x : XD} {v : Value} (X : ExTr reg h x v) : ExAt reg h x v := by
  obtain ⟨e, oe, vs, a0, T, oT, ts, fl, h1, h2, h3, h4, h5, h6, h7, hn, hz, h8, h9, h10, h11, h12, h13⟩ := X
  exact ⟨e, oe, vs, a0, h1, h2, h3, h4, h5, h6, h7, hn, hz, .inr ⟨T, oT, ts, fl, h8, h9, h10, h11, h12, h13⟩⟩
theorem flight_any {x : XD} {e T : Addr} {oe oT : Obj} {vs ts : Array Value} {a0 fl u : Value} {Q : Unit → Shared → Prop} {E : Value → Shared → Prop} (H : Here W ht sc ρ obs A env base reg s)
    (re : reg e = .ob) (ge : s.heap.get? e = some oe) (hc : oe.cls = x.cls) (hd : oe.data = .fields vs) (h0 : vs[0]? = some a0) (ra : XArgs reg s.heap x a0)
    (h1 : vs[1]? = some (.ref T)) (rT : reg T = .ob) (hTe : T ≠ e) (gT : s.heap.get? T = some oT) (hdT : oT.data = .fields ts) (h3 : ts[3]? = some fl)
    (hQ : ∀ s' oT' ts', Here W ht sc ρ obs A env base reg s' → Step reg s reg s' → s'.heap.get? e = some oe → XArgs reg s'.heap x a0 → s'.heap.get? T = some oT' → oT'.data = .fields ts' → ts'[3]? = some u → Q () s') : wpAny W.M A (setField (.ref T) 3 u) Q E s := by
  have hsz : 3 < ts.size := (Array.getElem?_eq_some_iff.mp h3).1
  refine wpAny_setField gT hdT hsz ?_
  have hd' := Obj.data_mapFields hdT (·.setIfInBounds 3 u)
  have gT' := Heap.get?_update_self (Obj.mapFields (·.setIfInBounds 3 u)) gT (Obj.isFreed_of_fields hd')
  have other : ∀ b, b ≠ T → (s.heap.update T (Obj.mapFields (·.setIfInBounds 3 u))).get? b = s.heap.get? b := fun b hb => Heap.get?_update_other _ _ (Ne.symm hb)
  obtain ⟨H', st⟩ := H.obchg (h' := s.heap.update T (Obj.mapFields (·.setIfInBounds 3 u))) (tk := s.toks) (fun a o g n => ⟨o.slots, (other a (by rintro rfl; exact n rT)).trans g, fun _ => rfl⟩) (fun a o g => by
    by_cases ha : a = T
    · subst ha; exact ⟨_, gT'⟩
    · exact ⟨o, (other a ha).trans g⟩) (fun c e' X => Exc.set3 X gT hdT gT' hd' (Obj.cls_mapFields _ _) hsz other)
  exact hQ _ _ _ H' st ((other e (Ne.symm hTe)).trans ge) (ra.mono fun a o q g => ⟨(other a (by rintro rfl; rw [show reg a = .sh from q] at rT; contradiction)).trans g, q⟩) gT' hd' (by simp [hsz])
theorem note_any {x : XD} {v : Value} {Q : Unit → Shared → Prop} {E : Value → Shared → Prop} (H : Here W ht sc ρ obs A env base reg s) (X : ExAt reg s.heap x v)
    (hQ : ∀ s' reg', Here W ht sc ρ obs A env base reg' s' → Step reg s reg' s' → ExTr reg' s'.heap x v → Q () s') : wpAny W.M A (noteFrame v env) Q E s := by
  obtain ⟨e, oe, vs, a0, rfl, re, ge, hc, hd, h0, ra, hnc, hz2, tb⟩ := X
  obtain ⟨L, oL, f1, f0, f2, f3, f4⟩ := H.sta.frm
  have entry : ∀ (s₁ : Shared) (head : Value) (hn : Bool), Here W ht sc ρ obs A env base reg s₁ → Step reg s reg s₁ → s₁.heap.get? e = some oe → XArgs reg s₁.heap x a0 → 1 < vs.size →
      wpAny W.M A (do setField (.ref e) 1 (← EntryCells.newEntry head (← PySem.frameOf env) .none (rawInt L) .none (← entryPlaceOf L hn))) Q E s₁ := by
    intro s₁ head hn H₁ st₁ ge₁ ra₁ hsz
    obtain ⟨fenv, outer, e1, e2, e3, e4⟩ := H₁.amb.frames
    obtain ⟨outer', e1', fr⟩ := H₁.call.frames
    rw [e1] at e1'; cases e1'
    refine wpAny_bind (frameOf_any e1 e2 fr f1 fun h₂ so => ?_)
    have inF : ∀ a, a ∈ (fenv :: outer).filterMap (·.frame) → inFrames A a := fun a ha => ⟨_, e1, ha⟩
    have k2 : Slk (Loose reg) s₁.heap h₂ := fun a o g => by
      obtain ⟨sl, g'⟩ := so.2.2 a o g
      refine ⟨sl, g', fun n => ?_⟩
      have := so.2.1 a (fun q => n (H₁.loose (inF a q)))
      rw [this, g] at g'
      have := Option.some.inj g'
      rw [this]
    have x2 : Ext (Loose reg) s₁ { s₁ with heap := h₂ } := ⟨h₂, s₁.toks, rfl, k2⟩
    have H₂ := H₁.ext x2
    refine wpAny_bind (wpAny_entryPlaceOf fun pl hpl => ?_)
    unfold EntryCells.newEntry newFields
    refine wpAny_bind (wpAny_newObj_type ?_ (hpl.sizeOk5 _ _ _ _ _))
    generalize hob : ({ cls := .type "traceback", dict := none, data := .fields ([head, .ref L, .none, rawInt L, .none] ++ (if pl.isEmpty then List.replicate 6 Value.none else pl)).toArray } : Obj) = ob
    have ge₂ : h₂.get? e = some oe := k2.exact (not_loose re) ge₁
    have ge₃ : (h₂.push ob).get? e = some oe := Heap.get?_push_of_some _ ge₂
    have gN : (h₂.push ob).get? h₂.objs.size = some ob := Heap.get?_push_size _ (by rw [← hob]; rfl)
    have x3 : Ext (Loose reg) { s₁ with heap := h₂ } { s₁ with heap := h₂.push ob } := Ext.push _ _ _
    have H₃ := H₂.claim (T := (· = h₂.objs.size)) (w := .ob) x3 (fun a q => by rw [q]; exact fresh_none _) (fun a (q : a = _) => by subst q; exact ⟨_, gN⟩)
    have st₃ := (Step.ext x2).trans (Step.claim (T := (· = h₂.objs.size)) (w := .ob) x3 (fun a q => by rw [q]; exact fresh_none _))
    generalize hreg : claim reg (· = h₂.objs.size) .ob = reg₃ at H₃ st₃
    have hne : h₂.objs.size ≠ e := Nat.ne_of_gt (Heap.lt_size ge₂)
    have re₃ : reg₃ e = .ob := by rw [← hreg]; exact (claim_old fun q => hne q.symm).trans re
    have rN₃ : reg₃ h₂.objs.size = .ob := by rw [← hreg]; exact claim_new rfl
    have ra₃ : XArgs reg₃ (h₂.push ob) x a0 := (ra₁.mono fun a o q g => ⟨x2.exact (not_loose q) g, q⟩).mono fun a o q g => ⟨Heap.get?_push_of_some _ g, by rw [← hreg]; exact (claim_old fun z => by rw [z, fresh_none] at g; contradiction).trans q⟩
    refine wpAny_setField ge₃ hd hsz ?_
    have hd₄ := Obj.data_mapFields hd (·.setIfInBounds 1 (Value.ref h₂.objs.size))
    have ge₄ := Heap.get?_update_self (Obj.mapFields (·.setIfInBounds 1 (Value.ref h₂.objs.size))) ge₃ (Obj.isFreed_of_fields hd₄)
    have other : ∀ b, b ≠ e → ((h₂.push ob).update e (Obj.mapFields (·.setIfInBounds 1 (Value.ref h₂.objs.size)))).get? b = (h₂.push ob).get? b := fun b hb => Heap.get?_update_other _ _ (Ne.symm hb)
    obtain ⟨H₄, st₄⟩ := H₃.obchg (h' := (h₂.push ob).update e (Obj.mapFields (·.setIfInBounds 1 (Value.ref h₂.objs.size)))) (tk := s₁.toks) (fun a o g n => ⟨o.slots, (other a (by rintro rfl; exact n re₃)).trans g, fun _ => rfl⟩) (fun a o g => by
      by_cases ha : a = e
      · subst ha; exact ⟨_, ge₄⟩
      · exact ⟨o, (other a ha).trans g⟩) (fun c e' X => Exc.set1 X ge₃ hd ge₄ hd₄ (Obj.cls_mapFields _ _) hsz other rN₃ gN (by rw [← hob]) (fl := rawInt L) (by first | (simp; done) | (rcases hpl with rfl | ⟨_, _, _, _, _, _, _, rfl⟩ <;> simp)) (fun _ => hne))
    refine hQ _ reg₃ H₄ (st₁.trans (st₃.trans st₄)) ⟨e, _, _, a0, h₂.objs.size, ob, _, rawInt L, rfl, re₃, ge₄, (Obj.cls_mapFields _ _).trans hc, hd₄, ?_, ?_, (fun e => by rw [Array.getElem?_setIfInBounds_ne (by decide)]; exact hnc e), by simpa using hz2, ?_, rN₃, hne, (other _ hne).trans gN, by rw [← hob], ?_⟩
    · rw [Array.getElem?_setIfInBounds_ne (by decide)]; exact h0
    · exact ra₃.mono fun a o q g => ⟨(other a (by rintro rfl; rw [show reg₃ a = .sh from q] at re₃; contradiction)).trans g, q⟩
    · simp [hsz]
    · first | (simp; done) | (rcases hpl with rfl | ⟨_, _, _, _, _, _, _, rfl⟩ <;> simp)
  unfold noteFrame
  simp only [f1]
  rcases tb with h1 | ⟨T, oT, ts, fl, h1, rT, hTe, gT, hdT, h3⟩
  · refine wpAny_bind (wpAny_field ge hd h1 ?_)
    rw [if_neg (by decide)]
    exact entry s .none _ H (Step.refl _ _) ge ra (Array.getElem?_eq_some_iff.mp h1).1
  · refine wpAny_bind (wpAny_field ge hd h1 ?_)
    rw [if_pos (show (Value.ref T != Value.none) = true from by simp)]
    refine wpAny_bind (wpAny_field gT hdT h3 ?_)
    by_cases hfl : (fl == rawInt L) = true
    · rw [if_pos hfl]
      exact wpAny_pure (hQ s reg H (Step.refl _ _) ⟨e, oe, vs, a0, T, oT, ts, fl, rfl, re, ge, hc, hd, h0, ra, hnc, hz2, h1, rT, hTe, gT, hdT, h3⟩)
    · rw [if_neg hfl]
      refine wpAny_bind (flight_any (u := .none) H re ge hc hd h0 ra h1 rT hTe gT hdT h3 fun s' oT' ts' H' st ge' ra' _ _ _ => ?_)
      exact entry s' _ _ H' st ge' ra' (Array.getElem?_eq_some_iff.mp h1).1
theorem setFlight_any {x : XD} {v : Value} {fr : Option Addr} {Q : Unit → Shared → Prop} {E : Value → Shared → Prop} (H : Here W ht sc ρ obs A env base reg s) (X : ExTr reg s.heap x v)
    (hQ : ∀ s', Here W ht sc ρ obs A env base reg s' → Step reg s reg s' → ExTr reg s'.heap x v → Q () s') : wpAny W.M A (setFlight v fr) Q E s := by
  obtain ⟨e, oe, vs, a0, T, oT, ts, fl, rfl, re, ge, hc, hd, h0, ra, hnc, hz2, h1, rT, hTe, gT, hdT, h3⟩ := X
  unfold setFlight
  refine wpAny_bind (wpAny_field ge hd h1 ?_)
  rw [if_pos (show (Value.ref T != Value.none) = true from by simp)]
  exact flight_any H re ge hc hd h0 ra h1 rT hTe gT hdT h3 fun s' oT' ts' H' st ge' ra' g1 g2 g3 => hQ s' H' st ⟨e, oe, vs, a0, T, oT', ts', _, rfl, re, ge', hc, hd, h0, ra', hnc, hz2, h1, rT, hTe, g1, g2, g3⟩
theorem cameBack_any {x : XD} {v : Value} {E : Value → Shared → Prop} (H : Here W ht sc ρ obs A env base reg s) (X : ExTr reg s.heap x v)
    (hE : ∀ s', Here W ht sc ρ obs A env base reg s' → Step reg s reg s' → ExTr reg s'.heap x v → E v s') : cameBackBy W.M A env E v s := by
  have X' := X
  obtain ⟨e, oe, vs, a0, T, oT, ts, fl, rfl, re, ge, hc, hd, h0, ra, hnc, hz2, h1, rT, hTe, gT, hdT, h3⟩ := X'
  unfold cameBackBy
  refine wpAny_bind (wpAny_field ge hd h1 ?_)
  rw [if_neg (by simp)]
  exact setFlight_any H X hE
theorem noted_any {Post : Out → Prop} {x : XD} {v : Value} {E : Value → Shared → Prop} (H : Here W ht sc ρ obs A env base reg s) (X : ExAt reg s.heap x v) (hE : EOk W ht sc obs A env base reg s Post E) (hP : Post (.ex x ρ)) :
    notedBy W.M A env (cameBackBy W.M A env E) v s := by
  unfold notedBy
  exact note_any H X fun s₁ reg₁ H₁ st₁ X₁ => cameBack_any H₁ X₁ fun s₂ H₂ st₂ X₂ => hE x ρ v s₂ reg₁ hP (st₁.trans st₂) H₂ X₂.at
end
section
variable {W : Wrld} {ht : Nat} {sc : Scope} {ρ : Vars} {obs : Obs} {Post : Out → Prop}
noncomputable def Asg (W : Wrld) (ht : Nat) (sc : Scope) (target : Expr) (d : PyData) (ρ ρ' : Vars) : Prop :=
  ∀ ⦃A : Around⦄ ⦃env : Env⦄ ⦃base : Heap⦄ ⦃reg : Reg⦄ ⦃s : Shared⦄ ⦃v : Value⦄ ⦃obs : Obs⦄ ⦃Q : Unit → Shared → Prop⦄ ⦃E : Value → Shared → Prop⦄, Here W ht sc ρ obs A env base reg s → Rl s.heap (Sh reg) d v →
    (∀ s', Here W ht sc ρ' obs A env base reg s' → Step reg s reg s' → Q () s') → wpAny W.M A (assign target env v) Q E s
theorem Asg.name {x : Str} {p : Pos} {d : PyData} {ρ' : Vars} (hk : sc.names.lookup x = some .local ∨ sc.names.lookup x = some .cell) (u : Upd ρ x (.sh d) ρ') : Asg W ht sc (.Name x p) d ρ ρ' := by
  intro A env base reg s v obs Q E H r hQ
  exact wpAny_assign_Name (store_var (b := .sh d) H hk r u hQ)
noncomputable def AsgAll (W : Wrld) (ht : Nat) (sc : Scope) (ts : List Expr) (ds : List PyData) (ρ ρ' : Vars) : Prop :=
  (∀ env : Env, (assignEach ts env).length = ds.length ∧ (assignEach ts env).findIdx? (·.1) = none) ∧
  ∀ ⦃A : Around⦄ ⦃env : Env⦄ ⦃base : Heap⦄ ⦃reg : Reg⦄ ⦃s : Shared⦄ ⦃vs : List Value⦄ ⦃obs : Obs⦄ ⦃Q : Unit → Shared → Prop⦄ ⦃E : Value → Shared → Prop⦄, Here W ht sc ρ obs A env base reg s → RlAll s.heap (Sh reg) ds vs →
    (∀ s', Here W ht sc ρ' obs A env base reg s' → Step reg s reg s' → Q () s') → wpAny W.M A (assignInOrder ((assignEach ts env).map (·.2)) vs) Q E s
theorem AsgAll.nil : AsgAll W ht sc [] [] ρ ρ := by
  refine ⟨fun _ => ⟨rfl, rfl⟩, ?_⟩
  intro A env base reg s vs obs Q E H r hQ
  cases r
  exact wpAny_assignInOrder_none (hQ _ H (Step.refl _ _))
theorem AsgAll.cons {t : Expr} {ts : List Expr} {d : PyData} {ds : List PyData} {ρ' ρ'' : Vars} (h1 : Asg W ht sc t d ρ ρ') (h2 : AsgAll W ht sc ts ds ρ' ρ'')
    (hp : ∀ env : Env, assignEach (t :: ts) env = (false, assign t env) :: assignEach ts env := by intro _; rfl) : AsgAll W ht sc (t :: ts) (d :: ds) ρ ρ'' := by
  refine ⟨fun env => ?_, ?_⟩
  · rw [hp]
    refine ⟨by simp [(h2.1 env).1], ?_⟩
    rw [List.findIdx?_cons]
    simp [(h2.1 env).2]
  · intro A env base reg s vs obs Q E H r hQ
    obtain ⟨v, vs', rfl, rv, rs⟩ := r
    rw [hp]
    refine wpAny_assignInOrder_more (h1 H rv fun s₁ H₁ st₁ => h2.2 H₁ (RlAll.mono (fun a o q e => st₁.exact e (.inl q) |>.imp id fun z => z.trans q) _ _ rs) fun s₂ H₂ st₂ => hQ s₂ H₂ (st₁.trans st₂))
theorem Asg.tuple {ts : List Expr} {k : Nat} {pos : Pos} {ds : List PyData} {ρ' : Vars} (h : AsgAll W ht sc ts ds ρ ρ') (hc : W.calm = true := by rfl) : Asg W ht sc (.Tuple ts k pos) (.tuple ds) ρ ρ' := by
  intro A env base reg s v obs Q E H r hQ
  obtain ⟨a, vs, n, rfl, p, g, r⟩ := r
  have hl : vs.size = ds.length := by simpa using r.length
  refine wpAny_assign_Tuple (H.amb.handled hc) ⟨_, g, rfl, n, rfl⟩ ((h.1 env).1.trans hl.symm) (h.1 env).2 fun h' xb => ?_
  have k : s.heap.StaysIn h' := fun b o e => xb b o (Nat.ne_of_lt (Heap.lt_size e)) e
  have x : Ext (Loose reg) s { s with heap := h' } := Ext.of k
  exact h.2 (H.ext x) (r.ext x) fun s' H' st => hQ s' H' ((Step.ext x).trans st)
theorem Ex1.assign_tuple {ts : List Expr} {k : Nat} {p pos : Pos} {e : Expr} {d : PyData} {ρ' : Vars} (he : Ev W ht sc ρ obs e d) (ha : Asg W ht sc (.Tuple ts k p) d ρ ρ') (h : Post (.nx ρ'))
    (hs : ∀ env : Env, swapsWithSole [.Tuple ts k p] e pos.line env = pure false := by intro _; rfl) (hw : ∀ env : Env, env.scope = sc → swappedStores [.Tuple ts k p] e env = pure none := by intro _ _; rfl) :
    Ex1 W ht sc ρ obs (.Assign [.Tuple ts k p] e pos) Post := by
  intro A env base reg s Q E H hQ hE
  exact Assign_Tuple (he H fun s₁ v x₁ r => ha (H.ext x₁) r fun s₂ H₂ st => hQ _ _ _ reg h ((Step.ext x₁).trans st) H₂) (hs env) (hw env H.sc)
theorem Sta.itchg {base : Heap} {env : Env} {reg : Reg} {h h' : Heap} {wr : List Addr} (S : Sta base env ρ obs reg h) (hw : ∀ b ∈ wr, reg b = .it) (k : ∀ b o, b ∉ wr → h.get? b = some o → h'.get? b = some o) (ex : ∀ b ∈ wr, ∃ o, h'.get? b = some o) :
    Sta base env ρ obs reg h' := by
  have up : ∀ a o, reg a ≠ .it → h.get? a = some o → h'.get? a = some o := fun a o q g => k a o (fun m => q (hw a m)) g
  refine ⟨fun a o e n => ?_, S.low, fun a e => ?_, S.locs, fun n c e => ?_, S.inj, S.allc, ?_, S.keys, fun x b e => ?_, ?_⟩
  · obtain ⟨sl, g, q⟩ := S.keep a o e n
    refine ⟨sl, up a _ ?_ g, q⟩
    rcases S.low a o e n with q | q | q <;> rw [q] <;> intro z <;> contradiction
  · refine S.high a ?_
    cases q : h.get? a with
    | none => rfl
    | some o =>
      by_cases hm : a ∈ wr
      · obtain ⟨o', g⟩ := ex a hm; rw [g] at e; contradiction
      · rw [k a o hm q] at e; contradiction
  · obtain ⟨q1, q2, v, o, g, d⟩ := S.cels n c e
    exact ⟨q1, q2, v, o, up c o (by rw [q1]; intro z; contradiction) g, d⟩
  · obtain ⟨m, n⟩ := S.ns
    exact ⟨m, n.at' fun o e => up _ o (by rw [S.locs]; intro z; contradiction) e⟩
  · rcases S.vars x b e with rfl | ⟨v, V, r⟩
    · exact .inl rfl
    refine .inr ⟨v, ?_, r.mono (fun a o q g => ⟨up a o (by rw [q]; intro z; contradiction) g, q⟩) (fun a o q g => ⟨up a o (by rw [q]; intro z; contradiction) g, q⟩)⟩
    rcases V with ⟨e, m, n, q⟩ | ⟨e, c, lc, o, g, d⟩
    · exact .inl ⟨e, m, n.at' fun o e => up _ o (by rw [S.locs]; intro z; contradiction) e, q⟩
    · exact .inr ⟨e, c, lc, o, up c o (by rw [(S.cels x c lc).1]; intro z; contradiction) g, d⟩
  · obtain ⟨L, o, e1, e0, e2, e3, e4⟩ := S.frm
    exact ⟨L, o, e1, e0, e2, up L o (by rw [e0]; intro z; contradiction) e3, e4⟩
theorem Sta.letit {base : Heap} {env : Env} {reg : Reg} {h h' : Heap} {wr : List Addr} (S : Sta base env ρ obs reg h) (hw : ∀ b ∈ wr, reg b = .it) (k : ∀ b o, b ∉ wr → h.get? b = some o → h'.get? b = some o) :
    Sta base env ρ obs (Mine.claim reg (· ∈ wr) .sh) h' := by
  have old : ∀ a, reg a ≠ .it → Mine.claim reg (· ∈ wr) .sh a = reg a := fun a q => claim_old fun m => q (hw a m)
  have up : ∀ a o, reg a ≠ .it → h.get? a = some o → h'.get? a = some o := fun a o q g => k a o (fun m => q (hw a m)) g
  have lab : ∀ a o, base.get? a = some o → ¬ obs a → Mine.claim reg (· ∈ wr) .sh a = reg a := fun a o e n => old a (by rcases S.low a o e n with q | q | q <;> rw [q] <;> intro z <;> contradiction)
  refine ⟨fun a o e n => ?_, fun a o e n => by rw [lab a o e n]; exact S.low a o e n, fun a e => ?_, ?_, fun n c e => ?_, S.inj, S.allc, ?_, S.keys, fun x b e => ?_, ?_⟩
  · obtain ⟨sl, g, q⟩ := S.keep a o e n
    rw [lab a o e n]
    refine ⟨sl, up a _ ?_ g, q⟩
    rcases S.low a o e n with q | q | q <;> rw [q] <;> intro z <;> contradiction
  · by_cases hm : a ∈ wr
    · exact claim_new hm
    · rw [claim_old hm]
      refine S.high a ?_
      cases q : h.get? a with
      | none => rfl
      | some o => rw [k a o hm q] at e; contradiction
  · rw [old _ (by rw [S.locs]; intro z; contradiction)]; exact S.locs
  · obtain ⟨q1, q2, v, o, g, d⟩ := S.cels n c e
    exact ⟨(old c (by rw [q1]; intro z; contradiction)).trans q1, q2, v, o, up c o (by rw [q1]; intro z; contradiction) g, d⟩
  · obtain ⟨m, n⟩ := S.ns
    exact ⟨m, n.at' fun o e => up _ o (by rw [S.locs]; intro z; contradiction) e⟩
  · rcases S.vars x b e with rfl | ⟨v, V, r⟩
    · exact .inl rfl
    refine .inr ⟨v, ?_, r.mono (fun a o q g => ⟨up a o (by rw [q]; intro z; contradiction) g, (old a (by rw [q]; intro z; contradiction)).trans q⟩) (fun a o q g => ⟨up a o (by rw [q]; intro z; contradiction) g, (old a (by rw [q]; intro z; contradiction)).trans q⟩)⟩
    rcases V with ⟨e, m, n, q⟩ | ⟨e, c, lc, o, g, d⟩
    · exact .inl ⟨e, m, n.at' fun o e => up _ o (by rw [S.locs]; intro z; contradiction) e, q⟩
    · exact .inr ⟨e, c, lc, o, up c o (by rw [(S.cels x c lc).1]; intro z; contradiction) g, d⟩
  · obtain ⟨L, o, e1, e0, e2, e3, e4⟩ := S.frm
    exact ⟨L, o, e1, (old L (by rw [e0]; intro z; contradiction)).trans e0, e2, up L o (by rw [e0]; intro z; contradiction) e3, e4⟩
theorem Here.letit {A : Around} {env : Env} {base : Heap} {reg : Reg} {s : Shared} {h' : Heap} {tk : Nat} {wr : List Addr} (H : Here W ht sc ρ obs A env base reg s) (hw : ∀ b ∈ wr, reg b = .it) (k : ∀ b o, b ∉ wr → s.heap.get? b = some o → h'.get? b = some o) :
    Here W ht sc ρ obs A env base (Mine.claim reg (· ∈ wr) .sh) { s with heap := h', toks := tk } :=
  ⟨H.sc, H.eok, H.amb, H.sta.letit hw k, fun a o e => ⟨(claim_old fun m => by have := (H.ksh a o e).1; rw [hw a m] at this; contradiction).trans (H.ksh a o e).1, (H.ksh a o e).2⟩,
    fun a e => (H.fos a e).imp id fun q => ⟨(claim_old fun m => by have := q.1; rw [hw a m] at this; contradiction).trans q.1, q.2⟩,
    fun c e => (H.hnd c e).mono fun a o q g => ⟨k a o (fun m => by rw [hw a m] at q; contradiction) g, (claim_old fun m => by rw [hw a m] at q; contradiction).trans q⟩⟩
theorem ExAt.letit {reg : Reg} {h : Heap} {wr : List Addr} {x : XD} {v : Value} (hw : ∀ b ∈ wr, reg b = .it) (X : ExAt reg h x v) : ExAt (Mine.claim reg (· ∈ wr) .sh) h x v := by
  have ob : ∀ {a}, reg a = .ob → Mine.claim reg (· ∈ wr) .sh a = .ob := fun {a} e => (claim_old fun m => by have := hw a m; rw [e] at this; contradiction).trans e
  have sh : ∀ {a}, reg a = .sh → Mine.claim reg (· ∈ wr) .sh a = .sh := fun {a} e => (claim_old fun m => by have := hw a m; rw [e] at this; contradiction).trans e
  obtain ⟨e, oe, vs, a0, h1, h2, h3, h4, h5, h6, h7, hn, hz, h8⟩ := X
  exact ⟨e, oe, vs, a0, h1, ob h2, h3, h4, h5, h6, h7.mono (fun a o q g => ⟨g, sh q⟩), hn, hz, h8.imp id fun ⟨T, oT, ts, fl, a, b, c⟩ => ⟨T, oT, ts, fl, a, ob b, c⟩⟩
noncomputable def Turn (Inv : Vars → Prop) (Post : Out → Prop) : Out → Prop
  | .nx ρ | .ct ρ => Inv ρ
  | .br ρ => Post (.nx ρ)
  | .rt d ρ => Post (.rt d ρ)
  | .ro a ρ => Post (.ro a ρ)
  | .ex x ρ => Post (.ex x ρ)
structure Src (W : Wrld) (A : Around) (tg : Expr) (I : Addr) (fp wr : List Addr) (ds : List PyData) (reg : Reg) (s₂ : Shared) (St : Nat → Heap → Prop) : Prop where
  frame : ∀ i h h', St i h → (∀ b ∈ fp, ∀ o, h.get? b = some o → h'.get? b = some o) → St i h'
  item : ∀ i (s : Shared) (Q : Value → Shared → Prop) (E : Value → Shared → Prop), i < ds.length → St i s.heap →
    (∀ v d h' tk, ds[i]? = some d → (∀ P : Addr → Prop, (∀ a o, reg a = .sh → a ∉ wr → s₂.heap.get? a = some o → h'.get? a = some o ∧ P a) → (∀ a, s.heap.get? a = none → P a) → Rl h' P d v) → St (i + 1) h' →
      (∀ b o, b ∉ wr → s.heap.get? b = some o → h'.get? b = some o) → Q v { s with heap := h', toks := tk }) →
    wpAny W.M A (pyNext (.ref I)) (fun r s₁ => match r with | none => False | some v => wpAny W.M A (letOwnedTupleGo tg (.ref I) v) (fun _ s' => Q v s') E s₁) E s
  done : ∀ (s : Shared) (Q : Option Value → Shared → Prop) (E : Value → Shared → Prop), St ds.length s.heap →
    (∀ h' tk, (∀ b o, b ∉ wr → s.heap.get? b = some o → h'.get? b = some o) → Q none { s with heap := h', toks := tk }) → wpAny W.M A (pyNext (.ref I)) Q E s
structure SrcG (W : Wrld) (ht : Nat) (sc : Scope) (obs : Obs) (A : Around) (env : Env) (base : Heap) (tg : Expr) (I : Addr) (fp wr : List Addr) (ds : List PyData) (reg : Reg) (s₂ : Shared) (Inv : Nat → Vars → Prop) (St : Nat → Heap → Prop) : Prop where
  frame : ∀ i h h', St i h → (∀ b ∈ fp, ∀ o, h.get? b = some o → h'.get? b = some o) → St i h'
  item : ∀ i ρ' reg' (s : Shared) (Q : Value → Shared → Prop) (E : Value → Shared → Prop), i < ds.length → Inv i ρ' → Here W ht sc ρ' obs A env base reg' s → (∀ b ∈ wr, reg' b = .it) → St i s.heap →
    (∀ v d h' tk, ds[i]? = some d → (∀ P : Addr → Prop, (∀ a o, reg a = .sh → a ∉ wr → s₂.heap.get? a = some o → h'.get? a = some o ∧ P a) → (∀ a, s.heap.get? a = none → P a) → Rl h' P d v) → St (i + 1) h' →
      (∀ b o, b ∉ wr → s.heap.get? b = some o → h'.get? b = some o) → Q v { s with heap := h', toks := tk }) →
    wpAny W.M A (pyNext (.ref I)) (fun r s₁ => match r with | none => False | some v => wpAny W.M A (letOwnedTupleGo tg (.ref I) v) (fun _ s' => Q v s') E s₁) E s
  done : ∀ ρ' reg' (s : Shared) (Q : Option Value → Shared → Prop) (E : Value → Shared → Prop), Inv ds.length ρ' → Here W ht sc ρ' obs A env base reg' s → (∀ b ∈ wr, reg' b = .it) → St ds.length s.heap →
    (∀ h' tk, (∀ b o, b ∉ wr → s.heap.get? b = some o → h'.get? b = some o) → Q none { s with heap := h', toks := tk }) → wpAny W.M A (pyNext (.ref I)) Q E s
noncomputable def ItS (W : Wrld) (ht : Nat) (sc : Scope) (ρ : Vars) (obs : Obs) (tg : Expr) (e : Expr) (ds : List PyData) : Prop :=
  ∀ ⦃A : Around⦄ ⦃env : Env⦄ ⦃base : Heap⦄ ⦃reg : Reg⦄ ⦃s : Shared⦄ ⦃Q : Value → Shared → Prop⦄ ⦃E : Value → Shared → Prop⦄, Here W ht sc ρ obs A env base reg s →
    (∀ s' I fp wr St, Ext (Loose reg) s s' → Src W A tg I fp wr ds reg s' St → St 0 s'.heap → (∀ i h, St i h → ∀ b ∈ wr, ∃ o, h.get? b = some o) → (∀ b ∈ wr, s.heap.get? b = none) → (∀ b ∈ fp, (b ∈ wr ∨ reg b = .sh) ∧ ∃ o, s'.heap.get? b = some o) →
      Q (.ref I) s') → wpAny W.M A (eval e env) (fun xv s₁ => wpAny W.M A (pyIter xv) Q E s₁) E s
theorem It.s {tg e : Expr} {ds : List PyData} (h : It W ht sc ρ obs e ds) : ItS W ht sc ρ obs tg e ds := by
  intro A env base reg s Q E H hQ
  refine h H fun s₂ I fp wr P St x₂ Wk hst hex hlet hnew hfp hitem => hQ s₂ I fp wr St x₂ ⟨Wk.frame, fun i s' Q' E' hi st hq => ?_, fun s' Q' E' st hq => Wk.done s' Q' E' st hq⟩ hst hex hnew hfp
  refine Wk.item i s' _ _ hi st fun v h₁ tk₁ hPv st₁ kp₁ => ?_
  obtain ⟨d, hd, rd⟩ := hitem i v hi hPv
  refine hlet (i + 1) _ _ _ _ _ st₁ (hq v d h₁ tk₁ hd (fun P k _ => Rl.mono (fun a o q g => k a o q.1 q.2 g) d v rd) st₁ kp₁)
theorem for_core {target iter : Expr} {body orelse : List Stmt} {pos : Pos} {ds : List PyData} {A : Around} {env : Env} {base : Heap} {reg : Reg} {s : Shared} {Q : Flow → Shared → Prop} {E : Value → Shared → Prop} (H : Here W ht sc ρ obs A env base reg s)
    (hQ : QOk W ht sc obs A env base reg s Post Q) (hE : EOk W ht sc obs A env base reg s Post E)
    (Inv : Nat → Vars → Prop) (h0 : Inv 0 ρ)
    (hit : ∀ (Q : Value → Shared → Prop) (E : Value → Shared → Prop), (∀ s' I fp wr St, Ext (Loose reg) s s' → SrcG W ht sc obs A env base target I fp wr ds reg s' Inv St → St 0 s'.heap → (∀ i h, St i h → ∀ b ∈ wr, ∃ o, h.get? b = some o) → (∀ b ∈ wr, s.heap.get? b = none) → (∀ b ∈ fp, (b ∈ wr ∨ reg b = .sh ∨ reg b = .it) ∧ ∃ o, s'.heap.get? b = some o) →
      Q (.ref I) s') → wpAny W.M A (eval iter env) (fun xv s₁ => wpAny W.M A (pyIter xv) Q E s₁) E s)
    (turn : ∀ (i : Nat) d ρ', ds[i]? = some d → Inv i ρ' → ∃ ρ'', Asg W ht sc target d ρ' ρ'' ∧ Ex W ht sc ρ'' obs body (Turn (Inv (i + 1)) Post)) (done : ∀ ρ', Inv ds.length ρ' → Ex W ht sc ρ' obs orelse Post)
    (hs : ∀ (env : Env) x, foldedSetIterable iter env x = pure x) : wpAny W.M A (exec (.For target iter body orelse pos) env) Q E s := by
  refine wpAny_For (hit _ _ fun s₂ I fp wr St x₂ Wk hst hex hnew hfp => ?_) (hs env)
  let Lies (reg' : Reg) (s' : Shared) : Prop := (∃ h' tk, s' = { s with heap := h', toks := tk }) ∧ (∀ b ∈ wr, reg' b = .it) ∧
    (∀ a o, a ∉ wr → s₂.heap.get? a = some o → Safe reg a → (∃ sl, s'.heap.get? a = some { o with slots := sl } ∧ (reg a ≠ .fo → sl = o.slots)) ∧ reg' a = reg a)
  have toStep : ∀ {reg' : Reg} {s' : Shared} {reg'' : Reg} {s'' : Shared}, Lies reg' s' → (∀ a o, a ∉ wr → s'.heap.get? a = some o → Safe reg' a → s''.heap.get? a = some o ∧ reg'' a = reg' a) → (∃ h' tk, s'' = { s with heap := h', toks := tk }) → Step reg s reg'' s'' := by
    rintro reg' s' reg'' s'' ⟨_, _, l3⟩ k e
    refine ⟨e, fun a o g q => ?_⟩
    have hm : a ∉ wr := fun m => by rw [hnew a m] at g; contradiction
    obtain ⟨sl, g0, z0⟩ := x₂.slk a o g
    obtain ⟨⟨sl', g1, z1⟩, g2⟩ := l3 a _ hm g0 q
    obtain ⟨g3, g4⟩ := k a _ hm g1 (by rw [Safe, g2]; exact q)
    refine ⟨⟨sl', g3, fun n => (z1 n).trans (z0 fun l => ?_)⟩, g4.trans g2⟩
    rcases l with l | l
    · exact q.fr l
    · exact n l
  have liesStep : ∀ {r₁ r₂ : Reg} {t₁ t₂ : Shared}, Lies r₁ t₁ → Step r₁ t₁ r₂ t₂ → (∀ b ∈ wr, ∃ o, t₁.heap.get? b = some o) → Lies r₂ t₂ := fun {r₁ r₂ t₁ t₂} l stp ew => by
    refine ⟨by obtain ⟨h', tk, e⟩ := stp.same; obtain ⟨h'', tk'', e'⟩ := l.1; exact ⟨h', tk, by rw [e, e']⟩, fun b hb => ?_, fun a o hm g q => ?_⟩
    · obtain ⟨o', g'⟩ := ew b hb
      exact ((stp.exact g' (.inr (.inl (l.2.1 b hb)))).2).trans (l.2.1 b hb)
    · obtain ⟨⟨sl, g1, z1⟩, g2⟩ := l.2.2 a o hm g q
      obtain ⟨⟨sl', g3, z3⟩, g4⟩ := stp.safe a _ g1 (by rw [Safe, g2]; exact q)
      exact ⟨⟨sl', g3, fun n => (z3 (by rw [g2]; exact n)).trans (z1 n)⟩, g4.trans g2⟩
  have leave : ∀ {ρ'' : Vars} {reg₄ : Reg} {s₄ : Shared}, Lies reg₄ s₄ → Here W ht sc ρ'' obs A env base reg₄ s₄ → Here W ht sc ρ'' obs A env base (claim reg₄ (· ∈ wr) .sh) s₄ ∧ Step reg s (claim reg₄ (· ∈ wr) .sh) s₄ := fun {ρ'' reg₄ s₄} L₄ H₄ =>
    ⟨H₄.letit (h' := s₄.heap) (tk := s₄.toks) L₄.2.1 fun _ _ _ e => e, toStep L₄ (fun a o hm g _ => ⟨g, claim_old hm⟩) L₄.1⟩
  refine codeAny_forLoop_any (fun n s' => ∃ i ρ' reg', i ≤ ds.length ∧ n = ds.length + 1 - i ∧ Inv i ρ' ∧ Here W ht sc ρ' obs A env base reg' s' ∧ St i s'.heap ∧ Lies reg' s') ?_ (ds.length + 1)
    ⟨0, ρ, claim reg (· ∈ wr) .it, Nat.zero_le _, rfl, h0, H.claim x₂ hnew (hex 0 _ hst), hst, ?_, fun b hb => claim_new hb, fun a o hm g _ => ⟨⟨o.slots, g, fun _ => rfl⟩, claim_old hm⟩⟩
  rotate_left
  · obtain ⟨h', tk, e, _⟩ := x₂; exact ⟨h', tk, e⟩
  rintro n s' ⟨i, ρ', reg', hi, rfl, hinv, H', st, L⟩
  by_cases hlt : i < ds.length
  · refine wpAny_mono (Wk.item i ρ' reg' s' (fun v s₁' => wpAny W.M A (PySem.assign target env v) (fun _ s₂ => wpAny W.M A (execs body env) (fun f s₃ => match f with
            | .next | .cont => ∃ m, m < ds.length + 1 - i ∧ ∃ i ρ' reg', i ≤ ds.length ∧ m = ds.length + 1 - i ∧ Inv i ρ' ∧ Here W ht sc ρ' obs A env base reg' s₃ ∧ St i s₃.heap ∧ Lies reg' s₃
            | .brk => Q .next s₃
            | .ret v => Q (.ret v) s₃) (notedBy W.M A env fun e s' => cameBackBy W.M A env E e s') s₂) (notedBy W.M A env fun e s' => cameBackBy W.M A env E e s') s₁') (notedBy W.M A env fun e s' => cameBackBy W.M A env E e s') hlt hinv H' L.2.1 st fun v d h₁ tk₁ hd hrd st₁ kp₁ => ?_) (fun r s₁ hr => match r, hr with | some v, hr => hr | none, hr => hr.elim) fun _ _ e => e
    obtain ⟨hh', tk', rfl⟩ := L.1
    have H₁ : Here W ht sc ρ' obs A env base reg' { s with heap := h₁, toks := tk₁ } := ⟨H'.sc, H'.eok, H'.amb, H'.sta.itchg L.2.1 kp₁ (hex _ _ st₁), H'.ksh, H'.fos, fun c e => (H'.hnd c e).mono fun a o q g => ⟨kp₁ a o (fun m => by rw [L.2.1 a m] at q; contradiction) g, q⟩⟩
    have rd₁ : Rl h₁ (Sh reg') d v := hrd (Sh reg') (fun a o q1 q2 g => by
      obtain ⟨⟨sl, g1, z⟩, g2⟩ := L.2.2 a o q2 g (.inl q1)
      rw [z (by rw [q1]; intro z; contradiction)] at g1
      exact ⟨kp₁ a o q2 g1, g2.trans q1⟩) fun a e => H'.sta.high a e
    have L₁ : Lies reg' { s with heap := h₁, toks := tk₁ } := ⟨⟨_, _, rfl⟩, L.2.1, fun a o hm g q => by
      obtain ⟨⟨sl, g1, z⟩, g2⟩ := L.2.2 a o hm g q
      exact ⟨⟨sl, kp₁ a _ hm g1, z⟩, g2⟩⟩
    obtain ⟨ρ₁, ha, hbody⟩ := turn i d ρ' hd hinv
    refine ha H₁ rd₁ fun s₃ H₃ st₃ => ?_
    have keepSt : ∀ {r₁ r₂ : Reg} {t₁ t₂ : Shared}, Lies r₁ t₁ → Step r₁ t₁ r₂ t₂ → St (i + 1) t₁.heap → St (i + 1) t₂.heap := fun {r₁ r₂ t₁ t₂} l stp sti =>
      Wk.frame _ _ _ sti fun b hb o e => by
        by_cases hm : b ∈ wr
        · exact (stp.exact e (.inr (.inl (l.2.1 b hm)))).1
        · rcases (hfp b hb).1 with hm' | hsh
          · exact absurd hm' hm
          · obtain ⟨o', g'⟩ := (hfp b hb).2
            obtain ⟨_, g2⟩ := l.2.2 b o' hm g' (hsh.imp id .inl)
            exact (stp.exact e (hsh.imp (g2.trans ·) fun z => .inl (g2.trans z))).1
    have L₃ : Lies reg' s₃ := liesStep L₁ st₃ (hex _ _ st₁)
    have st3 : St (i + 1) s₃.heap := keepSt (t₁ := { s with heap := h₁, toks := tk₁ }) L₁ st₃ st₁
    refine hbody H₃ (fun o f s₄ reg₄ ho st₄ oa => ?_) (fun x ρ'' v' s₄ reg₄ ho st₄ H₄ X₄ => ?_)
    · have L₄ : Lies reg₄ s₄ := liesStep L₃ st₄ (hex _ _ st3)
      have st4 := keepSt L₃ st₄ st3
      cases o with
      | nx ρ'' => cases f <;> first | exact ⟨ds.length + 1 - (i + 1), by omega, i + 1, ρ'', reg₄, hlt, rfl, ho, oa, st4, L₄⟩ | exact oa.elim
      | ct ρ'' => cases f <;> first | exact ⟨ds.length + 1 - (i + 1), by omega, i + 1, ρ'', reg₄, hlt, rfl, ho, oa, st4, L₄⟩ | exact oa.elim
      | br ρ'' =>
        cases f with
        | brk => exact hQ _ _ _ _ ho (leave L₄ oa).2 (leave L₄ oa).1
        | _ => exact oa.elim
      | ro a' ρ'' =>
        cases f with
        | ret v' => exact hQ _ _ _ _ ho (leave L₄ oa.2).2 ⟨oa.1, (leave L₄ oa.2).1⟩
        | _ => exact oa.elim
      | rt d' ρ'' =>
        cases f with
        | ret v' =>
          obtain ⟨a1, a2⟩ := oa
          refine hQ _ _ _ _ ho (leave L₄ a2).2 ⟨Rl.mono (fun a o q g => ⟨g, ?_⟩) _ _ a1, (leave L₄ a2).1⟩
          show claim reg₄ (· ∈ wr) .sh a = .sh
          by_cases hm : a ∈ wr
          · exact claim_new hm
          · rw [claim_old hm]; exact q
        | _ => exact oa.elim
      | ex x ρ'' => cases f <;> exact oa.elim
    · have L₄ : Lies reg₄ s₄ := liesStep L₃ st₄ (hex _ _ st3)
      obtain ⟨H₅, st₅⟩ := leave L₄ H₄
      exact noted_any H₅ (X₄.letit L₄.2.1) (hE.step st₅) ho
  · have hin : i = ds.length := by omega
    subst hin
    refine Wk.done ρ' reg' s' _ _ hinv H' L.2.1 st fun h₁ tk₁ kp₁ => ?_
    obtain ⟨hh', tk', rfl⟩ := L.1
    have H₁ : Here W ht sc ρ' obs A env base (claim reg' (· ∈ wr) .sh) { s with heap := h₁, toks := tk₁ } := H'.letit L.2.1 kp₁
    have st₁ : Step reg s (claim reg' (· ∈ wr) .sh) { s with heap := h₁, toks := tk₁ } := toStep L (fun a o hm g _ => ⟨kp₁ a o hm g, claim_old hm⟩) ⟨_, _, rfl⟩
    exact done ρ' hinv H₁ (hQ.step st₁) fun x ρ'' v' s₄ reg₄ ho st₄ H₄ X₄ => noted_any H₄ X₄ (hE.step (st₁.trans st₄)) ho
theorem Ex1.for_ {target iter : Expr} {body orelse : List Stmt} {pos : Pos} {ds : List PyData} (hit : ItS W ht sc ρ obs target iter ds) (Inv : Nat → Vars → Prop) (h0 : Inv 0 ρ)
    (turn : ∀ (i : Nat) d ρ', ds[i]? = some d → Inv i ρ' → ∃ ρ'', Asg W ht sc target d ρ' ρ'' ∧ Ex W ht sc ρ'' obs body (Turn (Inv (i + 1)) Post)) (done : ∀ ρ', Inv ds.length ρ' → Ex W ht sc ρ' obs orelse Post)
    (hs : ∀ (env : Env) x, foldedSetIterable iter env x = pure x := by intro _ _; rfl) : Ex1 W ht sc ρ obs (.For target iter body orelse pos) Post := by
  intro A env base reg s Q E H hQ hE
  exact for_core H hQ hE Inv h0 (fun _ _ hq => hit H fun s₂ I fp wr St x₂ Wk hst hex hnew hfp => hq s₂ I fp wr St x₂ ⟨Wk.frame, fun i _ _ s Q E hi _ _ _ st => Wk.item i s Q E hi st, fun _ _ s Q E _ _ _ st => Wk.done s Q E st⟩ hst hex hnew fun b hb => ⟨(hfp b hb).1.imp id .inl, (hfp b hb).2⟩) turn done hs
end
section
variable {W : Wrld} {ht : Nat} {sc : Scope} {ρ : Vars} {obs : Obs} {Post : Out → Prop}
noncomputable def EvX (W : Wrld) (ht : Nat) (sc : Scope) (ρ : Vars) (obs : Obs) (e : Expr) (x : XD) : Prop :=
  ∀ ⦃A : Around⦄ ⦃env : Env⦄ ⦃base : Heap⦄ ⦃reg : Reg⦄ ⦃s : Shared⦄ ⦃Q : Value → Shared → Prop⦄ ⦃E : Value → Shared → Prop⦄, Here W ht sc ρ obs A env base reg s →
    (∀ s' reg' v, Step reg s reg' s' → Here W ht sc ρ obs A env base reg' s' → ExAt reg' s'.heap x v → E v s') → wpAny W.M A (eval e env) Q E s
noncomputable def EvTX (W : Wrld) (ht : Nat) (sc : Scope) (ρ : Vars) (obs : Obs) (e : Expr) (x : XD) : Prop :=
  ∀ ⦃A : Around⦄ ⦃env : Env⦄ ⦃base : Heap⦄ ⦃reg : Reg⦄ ⦃s : Shared⦄ ⦃Q : Bool → Shared → Prop⦄ ⦃E : Value → Shared → Prop⦄, Here W ht sc ρ obs A env base reg s →
    (∀ s' reg' v, Step reg s reg' s' → Here W ht sc ρ obs A env base reg' s' → ExAt reg' s'.heap x v → E v s') → wpAny W.M A (isTrue e env (eval e env)) Q E s
theorem Ex1.while_ {test : Expr} {body orelse : List Stmt} {pos : Pos} (Inv : Nat → Vars → Prop) (n : Nat) (h0 : Inv n ρ)
    (turn : ∀ n ρ', Inv n ρ' → (∃ b, EvT W ht sc ρ' obs test b ∧ (b = true → Ex W ht sc ρ' obs body (Turn (fun ρ'' => ∃ m, m < n ∧ Inv m ρ'') Post)) ∧ (b = false → Ex W ht sc ρ' obs orelse Post)) ∨
      ∃ x, EvTX W ht sc ρ' obs test x ∧ Post (.ex x ρ')) :
    Ex1 W ht sc ρ obs (.While test body orelse pos) Post := by
  intro A env base reg s Q E H hQ hE
  refine wpAny_While (codeAny_whileLoop (fun n s' => ∃ ρ' reg', Inv n ρ' ∧ Here W ht sc ρ' obs A env base reg' s' ∧ Step reg s reg' s') ?_ n ⟨ρ, reg, h0, H, Step.refl _ _⟩)
  rintro n s' ⟨ρ', reg', hi, H', st⟩
  have err : ∀ {r₁ : Reg} {t₁ : Shared}, Step reg s r₁ t₁ → EOk W ht sc obs A env base r₁ t₁ Post (notedBy W.M A env fun e s' => cameBackBy W.M A env E e s') := fun st₁ x ρ'' v' s₄ reg₄ ho st₄ H₄ X₄ => noted_any H₄ X₄ (hE.step (st₁.trans st₄)) ho
  rcases turn n ρ' hi with ⟨b, hb, h1, h2⟩ | ⟨x, hx, hp⟩
  · refine hb H' fun s₁ x₁ => ?_
    have st1 := st.trans (Step.ext x₁)
    cases b with
    | true =>
      simp only [if_true]
      refine h1 rfl (H'.ext x₁) (fun o f s₂ reg₂ ho st₂ oa => ?_) (EOk.mono (Post' := Turn (fun ρ'' => ∃ m, m < n ∧ Inv m ρ'') Post) (fun x ρ'' v' s₄ reg₄ ho st₄ H₄ X₄ => err st1 x ρ'' v' s₄ reg₄ ho st₄ H₄ X₄) fun _ h => h)
      have st' := st1.trans st₂
      cases o with
      | nx ρ'' =>
        cases f with
        | next => obtain ⟨m, hm, hinv⟩ := ho; exact ⟨m, hm, ρ'', reg₂, hinv, oa, st'⟩
        | _ => exact oa.elim
      | ct ρ'' =>
        cases f with
        | cont => obtain ⟨m, hm, hinv⟩ := ho; exact ⟨m, hm, ρ'', reg₂, hinv, oa, st'⟩
        | _ => exact oa.elim
      | br ρ'' =>
        cases f with
        | brk => exact hQ _ _ _ _ ho st' oa
        | _ => exact oa.elim
      | ro a ρ'' =>
        cases f with
        | ret v => exact hQ _ _ _ _ ho st' oa
        | _ => exact oa.elim
      | rt d ρ'' =>
        cases f with
        | ret v => exact hQ _ _ _ _ ho st' oa
        | _ => exact oa.elim
      | ex x ρ'' => cases f <;> exact oa.elim
    | false =>
      simp only [Bool.false_eq_true, if_false]
      exact h2 rfl (H'.ext x₁) (hQ.step st1) (err st1)
  · exact hx H' fun s₁ reg₁ v st₁ H₁ X₁ => err st x ρ' v s₁ reg₁ hp st₁ H₁ X₁
end
theorem bindL_off {k : Str → Option NameKind} : ∀ {b : List (Str × Value)} {m : Str → Option Value} {x : Str}, x ∉ b.map (·.1) → bindL k b m x = m x
  | [], _, _, _ => rfl
  | (n, v) :: r, m, x, h => by
    simp only [List.map_cons, List.mem_cons, not_or] at h
    unfold bindL
    rw [bindL_off h.2]
    split
    · simp only [h.1, if_false]
    · rfl
theorem bindC_off {k : Str → Option NameKind} : ∀ {b : List (Str × Value)} {m : Str → Option Value} {x : Str}, x ∉ b.map (·.1) → bindC k b m x = m x
  | [], _, _, _ => rfl
  | (n, v) :: r, m, x, h => by
    simp only [List.map_cons, List.mem_cons, not_or] at h
    unfold bindC
    rw [bindC_off h.2]
    split
    · rfl
    · simp only [h.1, if_false]
theorem bindL_at {k : Str → Option NameKind} {b : List (Str × Value)} {m : Str → Option Value} {x : Str} {v : Value} (nd : (b.map (·.1)).Nodup) (h : (x, v) ∈ b) (hk : k x = some .local) : bindL k b m x = some v := by
  induction b generalizing m with
  | nil => exact absurd h List.not_mem_nil
  | cons p r ih =>
    have nd := List.nodup_cons.mp nd
    unfold bindL
    rcases List.mem_cons.mp h with rfl | h
    · rw [bindL_off nd.1, if_pos hk, if_pos rfl]
    · exact ih nd.2 h
theorem bindC_at {k : Str → Option NameKind} {b : List (Str × Value)} {m : Str → Option Value} {x : Str} {v : Value} (nd : (b.map (·.1)).Nodup) (h : (x, v) ∈ b) (hk : k x ≠ some .local) : bindC k b m x = some v := by
  induction b generalizing m with
  | nil => exact absurd h List.not_mem_nil
  | cons p r ih =>
    have nd := List.nodup_cons.mp nd
    unfold bindC
    rcases List.mem_cons.mp h with rfl | h
    · rw [bindC_off nd.1, if_neg hk, if_pos rfl]
    · exact ih nd.2 h
theorem zip_mem {α β : Type} {R : α → β → Prop} {ps : List Str} {xs : List α} {ys : List β} (hl : xs.length = ys.length) (k : ∀ (i : Nat) x y, xs[i]? = some x → ys[i]? = some y → R x y) {n : Str} {x : α} (h : (n, x) ∈ ps.zip xs) : ∃ y, (n, y) ∈ ps.zip ys ∧ R x y := by
  obtain ⟨i, hi⟩ := List.getElem?_of_mem h
  obtain ⟨h1, h2⟩ := List.getElem?_zip_eq_some.mp hi
  have hlt : i < ys.length := hl ▸ (List.getElem?_eq_some_iff.mp h2).1
  have h3 := List.getElem?_eq_getElem hlt
  exact ⟨_, List.mem_of_getElem? (List.getElem?_zip_eq_some.mpr ⟨h1, h3⟩), k i _ _ h2 h3⟩
inductive Fgt : Vars → Vars → Prop
  | nil : Fgt [] []
  | same {p : Str × B} {r r' : Vars} : Fgt r r' → Fgt (p :: r) (p :: r')
  | un {x : Str} {b : B} {r r' : Vars} : Fgt r r' → Fgt ((x, b) :: r) ((x, .un) :: r')
theorem Fgt.refl : ∀ ρ : Vars, Fgt ρ ρ
  | [] => .nil
  | _ :: r => .same (Fgt.refl r)
theorem Fgt.keys {ρ ρ' : Vars} (f : Fgt ρ ρ') : ρ'.map (·.1) = ρ.map (·.1) := by
  induction f with
  | nil => rfl
  | same _ ih => simp [ih]
  | un _ ih => simp [ih]
theorem Fgt.mem {ρ ρ' : Vars} (f : Fgt ρ ρ') : ∀ x b, (x, b) ∈ ρ' → b = .un ∨ (x, b) ∈ ρ := by
  induction f with
  | nil => intro x b h; contradiction
  | same _ ih =>
    intro x b h
    rcases List.mem_cons.mp h with e | h
    · exact .inr (e ▸ .head _)
    · exact (ih x b h).imp id (.tail _)
  | un _ ih =>
    intro x b h
    rcases List.mem_cons.mp h with e | h
    · cases e; exact .inl rfl
    · exact (ih x b h).imp id (.tail _)
theorem Sta.fgt {base : Heap} {env : Env} {ρ ρ' : Vars} {obs : Obs} {reg : Reg} {h : Heap} (S : Sta base env ρ obs reg h) (f : Fgt ρ ρ') : Sta base env ρ' obs reg h :=
  { S with keys := f.keys ▸ S.keys, vars := fun x b e => (f.mem x b e).elim .inl (S.vars x b) }
section
variable {W : Wrld} {ht : Nat} {sc : Scope} {ρ ρ' : Vars} {obs : Obs} {Post : Out → Prop} {A : Around} {env : Env} {base : Heap} {reg : Reg} {s : Shared}
theorem Here.fgt (H : Here W ht sc ρ obs A env base reg s) (f : Fgt ρ ρ') : Here W ht sc ρ' obs A env base reg s := ⟨H.sc, H.eok, H.amb, H.sta.fgt f, H.ksh, H.fos, H.hnd⟩
theorem Ex.fgt {ss : List Stmt} (f : Fgt ρ ρ') (h : Ex W ht sc ρ' obs ss Post) : Ex W ht sc ρ obs ss Post := by
  intro A env base reg s Q E H hQ hE
  exact h (H.fgt f) hQ hE
theorem Asg.fgt {t : Expr} {d : PyData} {ρ'' : Vars} (f : Fgt ρ ρ') (h : Asg W ht sc t d ρ' ρ'') : Asg W ht sc t d ρ ρ'' := by
  intro A env base reg s v obs Q E H r hQ
  exact h (H.fgt f) r hQ
theorem EvT.fgt {e : Expr} {b : Bool} (f : Fgt ρ ρ') (h : EvT W ht sc ρ' obs e b) : EvT W ht sc ρ obs e b := by
  intro A env base reg s Q E H hQ
  exact h (H.fgt f) hQ
noncomputable def TurnS {σ : Type} (F : σ → Vars) (P : σ → Prop) (Post : Out → Prop) : Out → Prop
  | .nx ρ | .ct ρ => ∃ s, P s ∧ Fgt ρ (F s)
  | .br ρ => Post (.nx ρ)
  | .rt d ρ => Post (.rt d ρ)
  | .ro a ρ => Post (.ro a ρ)
  | .ex x ρ => Post (.ex x ρ)
theorem Ex1.forS {σ : Type} {target iter : Expr} {body orelse : List Stmt} {pos : Pos} {ds : List PyData} (hit : ItS W ht sc ρ obs target iter ds) (F : σ → Vars) (P : Nat → σ → Prop) (s0 : σ) (h0 : P 0 s0) (f0 : Fgt ρ (F s0))
    (turn : ∀ (i : Nat) d s, ds[i]? = some d → P i s → ∃ ρ'', Asg W ht sc target d (F s) ρ'' ∧ Ex W ht sc ρ'' obs body (TurnS F (P (i + 1)) Post)) (done : ∀ s, P ds.length s → Ex W ht sc (F s) obs orelse Post)
    (hs : ∀ (env : Env) x, foldedSetIterable iter env x = pure x := by intro _ _; rfl) : Ex1 W ht sc ρ obs (.For target iter body orelse pos) Post := by
  refine Ex1.for_ hit (fun i ρ' => ∃ s, P i s ∧ Fgt ρ' (F s)) ⟨s0, h0, f0⟩ ?_ ?_ hs
  · rintro i d ρ' hd ⟨s, hs, f⟩
    obtain ⟨ρ'', a, b⟩ := turn i d s hd hs
    refine ⟨ρ'', a.fgt f, b.mono fun o ho => ?_⟩
    cases o <;> exact ho
  · rintro ρ' ⟨s, hs, f⟩
    exact (done s hs).fgt f
theorem Ex1.whileS {σ : Type} {test : Expr} {body orelse : List Stmt} {pos : Pos} (F : σ → Vars) (P : Nat → σ → Prop) (n : Nat) (s0 : σ) (h0 : P n s0) (f0 : Fgt ρ (F s0))
    (turn : ∀ (n : Nat) s, P n s → ∃ b, EvT W ht sc (F s) obs test b ∧ (b = true → Ex W ht sc (F s) obs body (TurnS F (fun s => ∃ m, m < n ∧ P m s) Post)) ∧ (b = false → Ex W ht sc (F s) obs orelse Post)) :
    Ex1 W ht sc ρ obs (.While test body orelse pos) Post := by
  refine Ex1.while_ (fun n ρ' => ∃ s, P n s ∧ Fgt ρ' (F s)) n ⟨s0, h0, f0⟩ ?_
  rintro n ρ' ⟨s, hs, f⟩
  obtain ⟨b, h1, h2, h3⟩ := turn n s hs
  refine .inl ⟨b, h1.fgt f, fun e => ((h2 e).fgt f).mono fun o ho => ?_, fun e => (h3 e).fgt f⟩
  cases o with
  | nx ρ => obtain ⟨s, ⟨m, a, b⟩, c⟩ := ho; exact ⟨m, a, s, b, c⟩
  | ct ρ => obtain ⟨s, ⟨m, a, b⟩, c⟩ := ho; exact ⟨m, a, s, b, c⟩
  | br ρ => exact ho
  | rt d ρ => exact ho
  | ro a ρ => exact ho
  | ex x ρ => exact ho
end
noncomputable def nth {α : Type} : Nat → List α → Option α
  | _, [] => none
  | 0, x :: _ => some x
  | n + 1, _ :: r => nth n r
noncomputable def fnBody (p : Program) (i : Nat) : List Stmt := match nth i p.main.body with
  | some (.FunctionDef _ _ b _ _ _ _ _ _ _) => b
  | _ => []
noncomputable def fnScope (p : Program) (i : Nat) : Scope := match nth i p.main.body with
  | some (.FunctionDef _ _ _ _ _ _ s _ _ _) => s
  | _ => default
noncomputable def funcD : Data → Option FuncData
  | .func f => some f
  | _ => none
theorem funcD_of {d : Data} {f : FuncData} (h : funcD d = some f) : d = .func f := by
  cases d <;> first | contradiction | exact congrArg _ (Option.some.inj h)
noncomputable def dictE : Data → Option (Array DictEntry)
  | .dict es _ => some es
  | _ => none
theorem dictE_of {d : Data} {es : Array DictEntry} (h : dictE d = some es) : ∃ n, d = .dict es n := by
  cases d <;> first | contradiction | exact ⟨_, by rw [Option.some.inj h]⟩
noncomputable def isS : Value → Bool
  | .str _ _ => true
  | _ => false
theorem isS_of {v : Value} (h : isS v = true) : ∃ x t, v = .str x t := by
  cases v <;> first | contradiction | exact ⟨_, _, rfl⟩
noncomputable def fnO (K : Frag) (a : Addr) : Option FuncData := (K.lookup a).bind fun o => funcD o.data
noncomputable def fdOf (K : Frag) (a : Addr) : FuncData := (fnO K a).getD default
noncomputable def isFn (K : Frag) (a : Addr) : Bool := (fnO K a).isSome
theorem fn_at {K : Frag} {a : Addr} (h : isFn K a = true) : ∃ o, K.lookup a = some o ∧ o.data = .func (fdOf K a) := by
  obtain ⟨f, e⟩ := Option.isSome_iff_exists.mp h
  obtain ⟨o, ho, hd⟩ := Option.bind_eq_some_iff.mp e
  exact ⟨o, ho, by unfold fdOf; rw [e]; exact funcD_of hd⟩
noncomputable def nsO (K : Frag) (a : Addr) : Option (Array DictEntry) := (K.lookup a).bind fun o => dictE o.data
noncomputable def nsE (K : Frag) (a : Addr) : Array DictEntry := (nsO K a).getD #[]
noncomputable def nsOk (K : Frag) (a : Addr) : Bool := (nsO K a).isSome && (nsE K a).toList.all fun e => isS e.key
theorem ns_ok {K : Frag} {h : Heap} {a : Addr} (X : K.In h) (e : nsOk K a = true) : h.Ns a fun x => nsFind (nsE K a) x := by
  obtain ⟨e1, e2⟩ := Bool.and_eq_true_iff.mp e
  obtain ⟨es, hes⟩ := Option.isSome_iff_exists.mp e1
  obtain ⟨o, ho, hd⟩ := Option.bind_eq_some_iff.mp hes
  obtain ⟨n, hd⟩ := dictE_of hd
  have q : nsE K a = es := by unfold nsE; rw [hes]; rfl
  rw [q] at e2 ⊢
  exact ⟨o, es, n, X _ _ ho, hd, fun en hen => isS_of (List.all_eq_true.mp e2 en (by simpa using hen)), fun _ => rfl⟩
noncomputable def gmapOf (K : Frag) : Str → Option Value := fun x => nsFind (nsE K 3) x
structure FnOk (W : Wrld) (a : Addr) (fd : FuncData) (sc : Scope) (body : List Stmt) (ps ls : List Str) : Prop where
  at_ : ∃ o, W.K.lookup a = some o ∧ o.data = .func fd
  scope : fd.scope = sc
  body : fd.body = .stmts body
  clo : fd.closure = []
  glob : fd.globals = mainGlobals
  bi : fd.builtins = builtinsNs
  code : codeIn W.K fd.code fd.qualname = true
  co : fd.scope.isCoroutine = false
  gen : fd.scope.isGenerator = false
  kind : fd.scope.kind = .function
  nofree : fd.scope.names.all (fun y => y.2 != .free) = true
  params : ps.all (fun x => fd.scope.names.lookup x == some .local || fd.scope.names.lookup x == some .cell) = true
  nodup : (ps ++ ls).Nodup
  bind : ∀ vs : List Value, vs.length = ps.length → bindArgs fd ⟨vs, []⟩ = pure (ps.zip vs)
noncomputable def fnLook (K : Frag) (a : Addr) (fd : FuncData) (ps : List Str) := (isFn K a, fd.scope, fd.body, fd.closure, fd.globals, fd.builtins, codeIn K fd.code fd.qualname, fd.scope.isCoroutine, fd.scope.isGenerator, fd.scope.kind, fd.scope.names.all (fun y => y.2 != .free), ps.all (fun x => fd.scope.names.lookup x == some .local || fd.scope.names.lookup x == some .cell))
theorem FnOk.look {W : Wrld} {a : Addr} {sc : Scope} {body : List Stmt} {ps ls : List Str} (h : fnLook W.K a (fdOf W.K a) ps = (true, sc, .stmts body, [], mainGlobals, builtinsNs, true, false, false, .function, true, true)) (nd : (ps ++ ls).Nodup)
    (b : ∀ vs : List Value, vs.length = ps.length → bindArgs (fdOf W.K a) ⟨vs, []⟩ = pure (ps.zip vs)) : FnOk W a (fdOf W.K a) sc body ps ls := by
  simp only [fnLook, Prod.mk.injEq] at h
  obtain ⟨h1, h2, h3, h4, h5, h6, h7, h8, h9, h10, h11, h12⟩ := h
  exact ⟨fn_at h1, h2, h3, h4, h5, h6, h7, h8, h9, h10, h11, h12, nd, b⟩
theorem args0 {P : List Value → Prop} (h : P []) (vs : List Value) (e : vs.length = 0) : P vs := List.eq_nil_of_length_eq_zero e ▸ h
theorem argsN {n : Nat} {P : List Value → Prop} (h : ∀ a, ∀ vs : List Value, vs.length = n → P (a :: vs)) (vs : List Value) (e : vs.length = n + 1) : P vs := by
  cases vs with
  | nil => contradiction
  | cons a l => exact h a l (Nat.succ.inj e)
theorem args1 {P : List Value → Prop} (h : ∀ a, P [a]) : ∀ vs : List Value, vs.length = 1 → P vs := argsN fun a => args0 (h a)
theorem args2 {P : List Value → Prop} (h : ∀ a b, P [a, b]) : ∀ vs : List Value, vs.length = 2 → P vs := argsN fun a => args1 (h a)
theorem args3 {P : List Value → Prop} (h : ∀ a b c, P [a, b, c]) : ∀ vs : List Value, vs.length = 3 → P vs := argsN fun a => args2 (h a)
theorem args4 {P : List Value → Prop} (h : ∀ a b c d, P [a, b, c, d]) : ∀ vs : List Value, vs.length = 4 → P vs := argsN fun a => args3 (h a)
theorem args5 {P : List Value → Prop} (h : ∀ a b c d e, P [a, b, c, d, e]) : ∀ vs : List Value, vs.length = 5 → P vs := argsN fun a => args4 (h a)
theorem args6 {P : List Value → Prop} (h : ∀ a b c d e f, P [a, b, c, d, e, f]) : ∀ vs : List Value, vs.length = 6 → P vs := argsN fun a => args5 (h a)
theorem argsS {P : List Value → Prop} (h0 : P []) (h1 : ∀ a, P [a]) (h2 : ∀ a b, P [a, b]) (h3 : ∀ a b c, P [a, b, c]) (h4 : ∀ a b c d, P [a, b, c, d]) (h5 : ∀ a b c d e, P [a, b, c, d, e]) (h6 : ∀ a b c d e f, P [a, b, c, d, e, f]) (vs : List Value) (h : vs.length ≤ 6) : P vs := by
  rcases (by (lia -abstractProof) : vs.length = 0 ∨ vs.length = 1 ∨ vs.length = 2 ∨ vs.length = 3 ∨ vs.length = 4 ∨ vs.length = 5 ∨ vs.length = 6) with e | e | e | e | e | e | e
  · exact args0 h0 _ e
  · exact args1 h1 _ e
  · exact args2 h2 _ e
  · exact args3 h3 _ e
  · exact args4 h4 _ e
  · exact args5 h5 _ e
  · exact args6 h6 _ e
open Classical in
noncomputable def entryReg (base : Heap) (A : Around) (P : Addr → Prop) (L : Addr) (cells : List (Str × Addr)) : Reg := fun a =>
  if inFrames A a then .fo else if (base.get? a).isSome then (if P a then .sh else .no) else if a = L ∨ ∃ n, cells.lookup n = some a then .fr else .sh
noncomputable def Ends (d : PyData) : Out → Prop
  | .rt d' _ => d' = d
  | .nx _ => d = .none
  | _ => False
noncomputable def ConP (W : Wrld) (ht : Nat) (f : Value) (ds : List PyData) (R : PyData → Prop) : Prop :=
  ∀ ⦃A : Around⦄ ⦃s : Shared⦄ ⦃vs : List Value⦄ ⦃P : Addr → Prop⦄ ⦃Q : Value → Shared → Prop⦄ ⦃E : Value → Shared → Prop⦄, AmbC W ht A s.heap → (∀ a, (s.heap.get? a = none ∨ ∃ o, W.base.get? a = some o) → P a) → (∀ a, inFrames A a → ¬ P a) → RlAll s.heap P ds vs →
    (∀ d s' v, R d → Ext (inFrames A) s s' → Rl s'.heap P d v → Q v s') → wpAny W.M A (call f vs) Q E s
noncomputable def EndsP (R : PyData → Prop) : Out → Prop
  | .rt d' _ => R d'
  | .nx _ => R .none
  | _ => False
noncomputable def Left (A : Around) (P : Addr → Prop) (s : Shared) (reg' : Reg) (s' : Shared) : Prop :=
  (∃ h' tk, s' = { s with heap := h', toks := tk }) ∧ ∀ b o, s.heap.get? b = some o → (∃ sl, s'.heap.get? b = some { o with slots := sl } ∧ (¬ inFrames A b → sl = o.slots)) ∧ (reg' b = .sh → P b) ∧ ∀ x, reg' b ≠ .va x
theorem enter_of {W : Wrld} {ht : Nat} {a : Addr} {fd : FuncData} {sc : Scope} {body : List Stmt} {ps ls : List Str} {ds : List PyData} {Post : Out → Prop} {A : Around} {s : Shared} {vs : List Value} {P : Addr → Prop} {Q E : Value → Shared → Prop} (F : FnOk W a fd sc body ps ls) (hl : ds.length = ps.length)
    (h : Ex W ht sc (ps.zip (ds.map .sh) ++ ls.map fun x => (x, .un)) (fun _ => False) body Post) (hnest : W.nest = none) (M : AmbC W (ht + 1) A s.heap) (hP : ∀ a, (s.heap.get? a = none ∨ ∃ o, W.base.get? a = some o) → P a) (hF : ∀ a, inFrames A a → ¬ P a) (r : RlAll s.heap P ds vs)
    (hx : ∀ x ρ, ¬ Post (.ex x ρ)) (hb : ∀ ρ, ¬ Post (.br ρ)) (hc : ∀ ρ, ¬ Post (.ct ρ))
    (hR : ∀ o v s' reg' env', Post o → Left A P s reg' s' → OutAt W ht sc (fun _ => False) (A.deeper env') env' s.heap reg' s' o (.ret v) → Q v s') (hN : ∀ ρ s' reg', Post (.nx ρ) → Left A P s reg' s' → Q .none s') : wpAny W.M A (call (.ref a) vs) Q E s := by
  obtain ⟨o, hk, hdat⟩ := F.at_
  have hsc := F.scope
  subst hsc
  have hvl : vs.length = ps.length := r.length.trans hl
  have hpar : ∀ x ∈ ps, fd.scope.names.lookup x = some .local ∨ fd.scope.names.lookup x = some .cell := fun x hx => by simpa using List.all_eq_true.mp F.params x hx
  have hin : ∀ x ∈ ps.zip vs, x.1 ∈ ps := fun x hx => (List.of_mem_zip (show (x.1, x.2) ∈ ps.zip vs from hx)).1
  refine wpAny_call (codeAny_call_cells (by have := M.depth; (lia -abstractProof)) (M.ok.k _ _ hk) hdat M.ok.nolim (codeRec_of M.ok.k F.code) F.body (F.bind vs hvl) F.clo (fun x hx => ?_) (fun s₁ X => ?_) F.co F.gen F.kind)
  · rcases hpar x.1 (hin x hx) with q | q
    · exact .inl q
    · obtain ⟨c, hc⟩ := cellsFrom_has fd.scope.names (s.heap.objs.size + 1) x.1 (mem_of_lookup q)
      exact .inr ⟨q, by rw [hc]; rfl⟩
  · generalize henv : callEnvC fd s.heap.objs.size a = env at X ⊢
    have eL : env.locals = s.heap.objs.size := by rw [← henv]; rfl
    have eC : env.cells = cellsFrom (s.heap.objs.size + 1) fd.scope.names [] := by rw [← henv]; rfl
    have eS : env.scope = fd.scope := by rw [← henv]; rfl
    have eK : ∀ x, env.kindOf x = fd.scope.names.lookup x := fun x => by show env.scope.names.lookup x = _; rw [eS]
    have eF : env.frame = some env.locals := by rw [← henv]; rfl
    have eG : env.globals = mainGlobals := by rw [← henv]; exact F.glob
    have eB : env.builtins = builtinsNs := by rw [← henv]; exact F.bi
    have nL : s.heap.get? env.locals = none := by rw [eL]; exact fresh_none _
    have cm : ∀ n c, env.cells.lookup n = some c → s.heap.get? c = none ∧ c ≠ env.locals := fun n c e => by
      have := X.above n c (mem_of_lookup e)
      exact ⟨none_of_le (by rw [← eL]; exact Nat.le_of_lt this), Nat.ne_of_gt this⟩
    let reg := entryReg s.heap A P env.locals env.cells
    have nof : ∀ b, s.heap.get? b = none → ¬ inFrames A b := fun b e q => by obtain ⟨_, o, g, _⟩ := M.fresh q; rw [e] at g; contradiction
    have rfo : ∀ b, inFrames A b → reg b = .fo := fun b q => if_pos q
    have rold : ∀ b o, s.heap.get? b = some o → ¬ inFrames A b → (P b → reg b = .sh) ∧ (¬ P b → reg b = .no) := fun b o e n => by
      simp only [reg, entryReg, e, Option.isSome_some, if_true, if_neg n]
      exact ⟨fun q => if_pos q, fun q => if_neg q⟩
    have rnew : ∀ b, s.heap.get? b = none → ¬ (b = env.locals ∨ ∃ n, env.cells.lookup n = some b) → reg b = .sh := fun b e q => by
      simp only [reg, entryReg, e, Option.isSome_none, Bool.false_eq_true, if_false, if_neg (nof b e)]
      exact if_neg q
    have rfr : ∀ b, s.heap.get? b = none → (b = env.locals ∨ ∃ n, env.cells.lookup n = some b) → reg b = .fr := fun b e q => by
      simp only [reg, entryReg, e, Option.isSome_none, Bool.false_eq_true, if_false, if_neg (nof b e)]
      exact if_pos q
    have rsh : ∀ b o, s.heap.get? b = some o → P b → reg b = .sh := fun b o e q => (rold b o e fun z => hF b z q).1 q
    have rsafe : ∀ b o, s.heap.get? b = some o → Safe reg b := fun b o e => by
      by_cases q : inFrames A b
      · exact .inr (.inr (.inr (rfo b q)))
      · by_cases q' : P b
        · exact .inl ((rold b o e q).1 q')
        · exact .inr (.inr (.inl ((rold b o e q).2 q')))
    obtain ⟨h₁, tk₁, e₁⟩ := X.toInCall.same
    have H : Here W ht fd.scope (ps.zip (ds.map .sh) ++ ls.map fun x => (x, .un)) (fun _ => False) (A.deeper env) env s.heap reg s₁ := by
      refine ⟨eS, ⟨by rw [eS]; exact F.kind, eG, eB⟩, ⟨M.ok, M.handled, ?_, ?_, ?_⟩, ⟨fun b o e _ => ⟨o.slots, X.toInCall.keep b o e, fun _ => rfl⟩, fun b o e _ => ?_, fun b e => ?_, rfr _ nL (.inl rfl), fun n c e => ?_, fun n n' c e e' => ?_, fun n e => ?_, ⟨_, X.toInCall.ns⟩, by rw [List.map_append, List.map_fst_zip (by simp [hl]), List.map_map]; simpa [Function.comp_def] using F.nodup, fun x b e => ?_, ?_⟩, fun b o e => ⟨rsh b o (M.ok.stays _ _ e) (hP b (.inr ⟨o, e⟩)), fun z => z⟩, fun b e => ?_, fun c e => by rw [hnest] at e; contradiction⟩
      · have := M.depth; show A.depth + 1 + ht < _; (lia -abstractProof)
      · have := M.units; show A.units + 3 + 100 * ht + 200 < _; (lia -abstractProof)
      · obtain ⟨outer, o1, o2⟩ := M.frames
        exact ⟨env, outer, by show A.frames.map (env :: ·) = _; rw [o1]; rfl, rfl, by rw [eS, F.kind]; decide, o2⟩
      · rcases rsafe b o e with q | q | q | q
        · exact .inl q
        · by_cases z : inFrames A b
          · rw [rfo b z] at q; contradiction
          · by_cases z' : P b
            · rw [(rold b o e z).1 z'] at q; contradiction
            · rw [(rold b o e z).2 z'] at q; contradiction
        · exact .inr (.inl q)
        · exact .inr (.inr q)
      · refine rnew b ?_ ?_
        · cases q : s.heap.get? b with
          | none => rfl
          | some o => rw [X.toInCall.keep b o q] at e; contradiction
        · rintro (rfl | ⟨n, q⟩)
          · obtain ⟨o, _, _, g, _⟩ := X.toInCall.ns; rw [g] at e; contradiction
          · obtain ⟨o, g, _⟩ := X.cell n b q; rw [g] at e; contradiction
      · exact ⟨rfr c (cm n c e).1 (.inr ⟨n, e⟩), (cm n c e).2, _, X.cell n c e⟩
      · exact name_of_addr X.apart (mem_of_lookup e) (mem_of_lookup e')
      · rw [eK, eC] at *
        rcases e with e | e
        · exact cellsFrom_has _ _ n (mem_of_lookup e)
        · have := List.all_eq_true.mp F.nofree _ (mem_of_lookup e)
          simp at this
      · rcases List.mem_append.mp e with e | e
        rotate_left
        · obtain ⟨x', _, e⟩ := List.mem_map.mp e
          cases e; exact .inl rfl
        obtain ⟨v, hm, hr⟩ := zip_mem (R := fun (b : B) v => BRel reg s₁.heap x b v) (ps := ps) (xs := ds.map .sh) (ys := vs) (by simp [r.length]) (fun i b v h1 h2 => by
          rw [List.getElem?_map] at h1
          obtain ⟨d', hd', rfl⟩ := Option.map_eq_some_iff.mp h1
          obtain ⟨v', hv', rv⟩ := r.get hd'
          rw [h2] at hv'; cases hv'
          exact Rl.mono (fun c o q g => ⟨X.toInCall.keep c o g, rsh c o g q⟩) d' v rv) e
        refine .inr ⟨v, ?_, hr⟩
        have hx : x ∈ ps := (List.of_mem_zip hm).1
        have nd : ((ps.zip vs).map (·.1)).Nodup := by rw [List.map_fst_zip (by (lia -abstractProof))]; exact (List.nodup_append.mp F.nodup).1
        rcases hpar x hx with q | q
        · have q' : env.kindOf x = some .local := (eK x).trans q
          exact .inl ⟨q', _, X.toInCall.ns, bindL_at nd hm q'⟩
        · have q' : env.kindOf x = some .cell := (eK x).trans q
          obtain ⟨c, hc⟩ := cellsFrom_has fd.scope.names (s.heap.objs.size + 1) x (mem_of_lookup q)
          have hc' : env.cells.lookup x = some c := by rw [eC]; exact hc
          refine .inr ⟨.inl q', c, hc', ?_⟩
          have := X.cell x c hc'
          rw [bindC_at nd hm (by rw [q']; decide)] at this
          exact this
      · obtain ⟨o, es, ep, g, dd, _⟩ := X.toInCall.ns
        exact ⟨env.locals, o, eF, rfr _ nL (.inl rfl), nL, g, fun vs q => by rw [dd] at q; contradiction⟩
      · obtain ⟨l, l1, l2⟩ := e
        have l1' : A.frames.map (env :: ·) = some l := l1
        obtain ⟨outer, o1, o2⟩ := M.frames
        rw [o1] at l1'
        cases l1'
        rw [List.filterMap_cons, eF] at l2
        rcases List.mem_cons.mp l2 with l2 | l2
        · exact .inl (by rw [l2]; exact eF)
        · exact .inr ⟨rfo b ⟨outer, o1, l2⟩, fun z => z⟩
    refine h H (fun o f s' reg' ho st oa => ?_) fun x ρ' v s' reg' ho => (hx _ _ ho).elim
    obtain ⟨h', tk', e'⟩ := st.same
    have lf : Left A P s reg' s' := by
      refine ⟨⟨h', tk', by rw [e', e₁]⟩, fun b o e => ?_⟩
      obtain ⟨⟨sl, g, z⟩, l⟩ := st.safe b o (X.toInCall.keep b o e) (rsafe b o e)
      refine ⟨⟨sl, g, fun n => z fun q => n ?_⟩, fun q => ?_, fun x q => ?_⟩
      · refine Classical.byContradiction fun m => ?_
        by_cases hp : P b
        · rw [(rold b o e m).1 hp] at q; contradiction
        · rw [(rold b o e m).2 hp] at q; contradiction
      · refine Classical.byContradiction fun hp => ?_
        rw [q] at l
        by_cases z : inFrames A b
        · rw [rfo b z] at l; contradiction
        · rw [(rold b o e z).2 hp] at l; contradiction
      · rw [l] at q
        exact (rsafe b o e).va q
    cases f with
    | ret v => exact hR o v s' reg' env ho lf oa
    | next =>
      cases o with
      | nx ρ' => exact hN ρ' s' reg' ho lf
      | _ => exact oa.elim
    | brk =>
      cases o with
      | br ρ' => exact (hb _ ho).elim
      | _ => exact oa.elim
    | cont =>
      cases o with
      | ct ρ' => exact (hc _ ho).elim
      | _ => exact oa.elim
theorem ConP.of {W : Wrld} {ht : Nat} {a : Addr} {fd : FuncData} {sc : Scope} {body : List Stmt} {ps ls : List Str} {ds : List PyData} {R : PyData → Prop} (F : FnOk W a fd sc body ps ls) (hl : ds.length = ps.length)
    (h : Ex W ht sc (ps.zip (ds.map .sh) ++ ls.map fun x => (x, .un)) (fun _ => False) body (EndsP R)) (hnest : W.nest = none := by rfl) : ConP W (ht + 1) (.ref a) ds R := by
  intro A s vs P Q E M hP hF r hQ
  have fin : ∀ d v s' reg', R d → Left A P s reg' s' → Rl s'.heap (Sh reg') d v → Q v s' := fun d v s' reg' hR lf rv => by
    obtain ⟨⟨h', tk, e⟩, l⟩ := lf
    refine hQ d s' v hR ⟨h', tk, e, fun b o g => by have := (l b o g).1; rwa [e] at this⟩ (Rl.mono (fun c o q g => ⟨g, ?_⟩) d v rv)
    cases qq : s.heap.get? c with
    | none => exact hP c (.inl qq)
    | some o' => exact (l c o' qq).2.1 q
  refine enter_of F hl h hnest M hP hF r (fun _ _ z => z) (fun _ z => z) (fun _ z => z) (fun o v s' reg' env' ho lf oa => ?_) fun ρ s' reg' ho lf => fin .none .none s' reg' ho lf rfl
  cases o with
  | rt d' ρ' => exact fin d' v s' reg' ho lf oa.1
  | nx => exact oa.elim
  | _ => exact ho.elim
theorem Con.of {W : Wrld} {ht : Nat} {a : Addr} {fd : FuncData} {sc : Scope} {body : List Stmt} {ps ls : List Str} {ds : List PyData} {d : PyData} (F : FnOk W a fd sc body ps ls) (hl : ds.length = ps.length)
    (h : Ex W ht sc (ps.zip (ds.map .sh) ++ ls.map fun x => (x, .un)) (fun _ => False) body (Ends d)) (hnest : W.nest = none := by rfl) : Con W (ht + 1) (.ref a) ds d := by
  intro A s vs P Q E M hP hF r hQ
  refine ConP.of (R := fun d' => d' = d) F hl (h.mono fun o q => ?_) hnest M hP hF r fun d' s' v hd x r => hQ s' v x (hd ▸ r)
  cases o with
  | rt => exact q
  | nx => exact Eq.symm q
  | br => exact q
  | ct => exact q
  | ro => exact q
  | ex => exact q
section
variable {W : Wrld} {ht : Nat} {sc : Scope} {ρ : Vars} {obs : Obs} {Post : Out → Prop}
theorem EvG.list {es : List Expr} {pos : Pos} {ds : List PyData} (h : EvAll W ht sc ρ obs es ds) (hz : ds.length ≤ sizeLine := by decide) : EvG true W ht sc ρ obs (.List es pos) (.list ds) := by
  intro A env base reg s Q E H hQ
  refine List_ (h.2 pos H fun s₁ vs x₁ r => wpAny_newList ?_ (r.length ▸ hz))
  refine hQ _ _ (x₁.trans (Ext.push _ _ _)) ⟨_, vs.toArray, 0, rfl, (H.ext x₁).sta.high _ (fresh_none _), Heap.get?_push_size _ rfl, RlAll.mono (fun a o p g => ⟨Heap.get?_push_of_some _ g, p⟩) _ _ r⟩ fun _ => ⟨_, rfl, x₁.none (fresh_none _)⟩
theorem EvG.list_add {l r : Expr} {pos : Pos} {xs ys : List PyData} (hl : Ev W ht sc ρ obs l (.list xs)) (hr : Ev W ht sc ρ obs r (.list ys)) (hz : xs.length + ys.length ≤ sizeLine) : EvG true W ht sc ρ obs (.BinOp l .Add r pos) (.list (xs ++ ys)) := by
  intro A env base reg s Q E H hQ
  refine wpAny_BinOp (hl H fun s₁ v₁ x₁ r₁ => hr (H.ext x₁) fun s₂ v₂ x₂ r₂ => ?_)
  obtain ⟨a, us, n, rfl, p, g, ru⟩ := r₁.ext x₂
  obtain ⟨b, ws, n', rfl, p', g', rw'⟩ := r₂
  have e1 : us.size = xs.length := by simpa using ru.length
  have e2 : ws.size = ys.length := by simpa using rw'.length
  refine concat_meets ⟨_, g, rfl⟩ ⟨_, g', rfl⟩ noFill_list_add seq_list_add PySem.F.slot_list_add PySem.F.entry_list_add (PySem.F.args_list_add_2 _ _) (list_addW a b us ws n n' none none #[] #[] (by (lia -abstractProof))) ⟨g, g', ?_⟩
  have x₃ : Ext (Loose reg) s₂ { s₂ with heap := s₂.heap.push { cls := Value.type "list", data := Data.seq (us ++ ws) }, toks := s₂.toks } := Ext.push _ _ _
  refine hQ _ _ ((x₁.trans x₂).trans x₃) ⟨_, us ++ ws, 0, rfl, ((H.ext x₁).ext x₂).sta.high _ (fresh_none _), Heap.get?_push_size _ rfl, ?_⟩ fun _ => ⟨_, rfl, (x₁.trans x₂).none (fresh_none _)⟩
  rw [Array.toList_append]
  exact RlAll.append (ru.ext x₃) (rw'.ext x₃)
theorem flat_rep {α : Type} : ∀ (k : Nat) (vs : Array α), (List.foldl (fun x1 x2 => x1 ++ x2) #[] (List.replicate k vs)).toList = (List.replicate k vs.toList).flatten := by
  have gen : ∀ (k : Nat) (vs acc : Array α), (List.foldl (fun x1 x2 => x1 ++ x2) acc (List.replicate k vs)).toList = acc.toList ++ (List.replicate k vs.toList).flatten := by
    intro k
    induction k with
    | zero => intro vs acc; simp
    | succ k ih => intro vs acc; rw [List.replicate_succ, List.foldl_cons, ih]; simp [List.replicate_succ]
  intro k vs; rw [gen]; simp
theorem RlAll.reps {h : Heap} {P : Addr → Prop} {xs : List PyData} {vs : List Value} (r : RlAll h P xs vs) : ∀ k, RlAll h P (List.replicate k xs).flatten (List.replicate k vs).flatten
  | 0 => rfl
  | k + 1 => by rw [List.replicate_succ, List.replicate_succ]; exact RlAll.append r (RlAll.reps r k)
theorem EvG.list_mul {l r : Expr} {pos : Pos} {xs : List PyData} {k : Int} (hl : Ev W ht sc ρ obs l (.list xs)) (hr : Ev W ht sc ρ obs r (.int k)) (hne : xs ≠ []) (hz : xs.length * k.toNat ≤ 2 ^ 24) (hk : -(2 ^ 63) ≤ k) (hk' : k < 2 ^ 63) : EvG true W ht sc ρ obs (.BinOp l .Mult r pos) (.list (List.replicate k.toNat xs).flatten) := by
  intro A env base reg s Q E H hQ
  refine wpAny_BinOp (hl H fun s₁ v₁ x₁ r₁ => hr (H.ext x₁) fun s₂ v₂ x₂ r₂ => ?_)
  obtain ⟨a, us, n, rfl, p, g, ru⟩ := r₁.ext x₂
  obtain ⟨t, rfl⟩ := r₂
  have e1 : us.size = xs.length := by simpa using ru.length
  have hz' : us.size * k.toNat ≤ 2 ^ 24 := by rw [e1]; exact hz
  have hne' : us.isEmpty = false := by
    cases xs with
    | nil => exact absurd rfl hne
    | cons x xs => simp [Array.isEmpty, e1]
  refine wpAny_binaryOp_repeat_ref (T := "list") (U := "int") (by decide) ⟨_, g, rfl⟩ (fun s' => typeIs_int s' k t) noFill_list_mul PySem.F.fills_int_mul PySem.F.slot_int_rmul repeat_list PySem.F.slot_int_index.lookup
    (call_meets PySem.F.slot_int_rmul (typeIs_int s₂ k t) PySem.F.entry_int_rmul (PySem.F.args_int_rmul_2 _ _) (int___rmul___int_list k t a us n)
      ⟨g, rfl, ⟨_, g, rfl⟩, call_meets PySem.F.slot_list_mul ⟨_, g, rfl⟩ PySem.F.entry_list_mul (PySem.F.args_list_mul_2 _ _)
        (AutoListH.list___mul___list_int_3 a us n k t (by simp [Builtin.List.listFitsIndex]; (lia -abstractProof)) (by (lia -abstractProof)) (by simp [Builtin.List.listTooLong, sizeLine]; (lia -abstractProof)))
        ⟨g, ?_⟩⟩)
  rw [hne']
  simp only [Bool.false_eq_true, if_false]
  generalize hvs : List.foldl (fun x1 x2 => x1 ++ x2) #[] (List.replicate k.toNat us) = ws
  have hf : ws.toList = (List.replicate k.toNat us.toList).flatten := by rw [← hvs]; exact flat_rep _ _
  have x₃ : Ext (Loose reg) s₂ { s₂ with heap := s₂.heap.push { cls := Value.type "list", data := Data.seq ws }, toks := s₂.toks } := Ext.push _ _ _
  refine hQ _ _ ((x₁.trans x₂).trans x₃) ⟨_, ws, 0, rfl, ((H.ext x₁).ext x₂).sta.high _ (fresh_none _), Heap.get?_push_size _ rfl, ?_⟩ fun _ => ⟨_, rfl, (x₁.trans x₂).none (fresh_none _)⟩
  rw [hf]
  exact RlAll.reps (ru.ext x₃) _
theorem comp_used {fr : Bool} {elt iter tg : Expr} {y : Str} {py pos spos : Pos} {ifs : List Expr} {scope : Scope} {ds : List PyData} {f : PyData → PyData} {p : PyData → Bool} {xs : List Str} {sp : PyData → List PyData} {b : B} {ρ' : Vars} (hit : It W ht sc ρ obs iter ds) (hok : scopeOk sc scope xs = true) (hsp : ∀ d ∈ ds, (sp d).length = xs.length)
    (hasg : ∀ A env, (W.calm = true → A.handled = none) → CompAsg W A scope env tg xs sp ds) {ρf : Vars} (hpk : Pick ρ (freeNames scope) ρf)
    (ht1 : ∀ d ∈ ds, EvIfs W ht (relab sc scope) ((xs.zip (sp d)).map (fun p => (p.1, .sh p.2)) ++ ρf) obs ifs (p d)) (ht2 : ∀ d ∈ ds, p d = true → EvG fr W ht (relab sc scope) ((xs.zip (sp d)).map (fun p => (p.1, .sh p.2)) ++ ρf) obs elt (f d)) (hz : ds.length ≤ sizeLine)
    (hk : sc.names.lookup y = some .local ∨ sc.names.lookup y = some .cell) (u : Upd ρ y b ρ') (h : Post (.nx ρ'))
    (own : ∀ (reg : Reg) (h₀ h : Heap) (D C : Addr) (ys : Array Value), h₀.get? D = none → h.PlainList D ys → (∀ a, h₀.get? a = none → reg a = .sh) → RlAll h (fun a => reg a = .sh ∧ a ≠ C ∧ a ≠ D) ((ds.filter p).map f) ys.toList → (fr = true → ∃ bs : List Addr, ys.toList = bs.map .ref ∧ bs.Nodup ∧ ∀ b ∈ bs, h₀.get? b = none ∧ b ≠ C ∧ b ≠ D) → C ≠ D →
      ∃ T : Addr → Prop, (∀ a, T a → h₀.get? a = none ∧ a ≠ C ∧ ∃ o, h.get? a = some o) ∧ BRel (claim reg (fun a => T a) (.va y)) h y b (.ref D) ∧ BRel (claim (claim reg (fun a => T a) (.va y)) (· = C) .it) h y b (.ref D))
    (hsw : ∀ env : Env, env.scope = sc → swapsWith (.ListComp elt [⟨tg, iter, ifs, 0⟩] scope pos) (some (.Name y py)) spos.line env = pure true)
    (hs : ∀ (env : Env) x, foldedSetIterable iter env x = pure x) : Ex1 W ht sc ρ obs (.Assign [.Name y py] (.ListComp elt [⟨tg, iter, ifs, 0⟩] scope pos) spos) Post := by
  intro A env base reg s Q E H hQ hE
  have ok := ScopeOk.of hok
  have hfr : ∀ y ∈ scope.names, y.2 = .free → ∃ c, env.cells.lookup y.1 = some c := fun y hy e => H.sta.allc _ (by have := ok.free y hy e; rw [← H.sc] at this; exact this)
  obtain ⟨cl, e, h1, h2⟩ := closure_of hfr
  rw [exec_Assign_Name_used _ _ _ _ (hsw env H.sc)]
  refine wpAny_bind (wpAny_standAt (wpAny_bind ?_))
  show wpAny _ A (do let _ ← comprehension (.ListComp elt [⟨tg, iter, ifs, 0⟩] scope pos) scope env _ (newList []) false (eval iter env) (some (assign (.Name y py) env))) _ _ s
  refine wpAny_bind (wpAny_mono (wpAny_comprehension_free (use := some (assign (.Name y py) env)) (Q := fun _ s' => Q .next s') rfl (hs env) e ok.kind (fun y hy hl => hl ▸ ok.all y hy) ?_) (fun _ s' hq => wpAny_pure (wpAny_pure hq)) fun _ _ e => e)
  refine hit H fun s₂ I fp wr P St x₂ Wk hst hex hlet hnew hfp hitem => ?_
  refine comp_core (R := fun acc C => compPost W.M A E (some (assign (.Name y py) env)) (fun _ s' => Q .next s') acc C) H ok hsp (hasg A env H.amb.handled) hpk h1 h2 x₂ Wk hst hex hlet hnew hfp hitem hz ht1 ht2 ?_
  intro s' D C ys m x' nD nC hCD hns pl r hfb
  obtain ⟨T, hT, _, hB⟩ := own reg s.heap s'.heap D C ys nD pl H.sta.high r hfb hCD
  have H₁ := H.claim (T := fun a => T a) (w := .va y) x' (fun a q => (hT a q).1) (fun a q => (hT a q).2.2)
  have st₁ := Step.claim (T := fun a => T a) (w := .va y) x' (fun a q => (hT a q).1)
  have cT : ¬ T C := fun q => (hT C q).2.1 rfl
  have key : Here W ht sc ρ obs A env base (claim (claim reg (fun a => T a) (.va y)) (· = C) .it) s' ∧ Step reg s (claim (claim reg (fun a => T a) (.va y)) (· = C) .it) s' := by
    have eq : claim (claim reg (fun a => T a) (.va y)) (· = C) .it = claim (claim reg (· = C) .it) (fun a => T a) (.va y) := by
      funext a
      unfold claim
      by_cases h1 : a = C
      · subst h1; simp [cT]
      · simp [h1]
    have H₂ := H.claim (T := fun a => T a ∨ a = C) (w := .it) x' (fun a q => q.elim (fun q => (hT a q).1) (fun q => q ▸ nC)) (fun a q => q.elim (fun q => (hT a q).2.2) (fun q => by obtain ⟨o, _, _, g, _⟩ := hns; exact ⟨o, q ▸ g⟩))
    have st₂ := Step.claim (T := fun a => T a ∨ a = C) (w := .it) x' (fun a q => q.elim (fun q => (hT a q).1) (fun q => q ▸ nC))
    have lab : ∀ a o, s.heap.get? a = some o → claim (claim reg (fun a => T a) (.va y)) (· = C) .it a = reg a := fun a o g => (claim_old fun q => by rw [q, nC] at g; contradiction).trans (claim_old fun q => by rw [(hT a q).1] at g; contradiction)
    have lab' : ∀ a o, s.heap.get? a = some o → claim reg (fun a => T a ∨ a = C) .it a = reg a := fun a o g => claim_old fun q => by
      rcases q with q | q
      · rw [(hT a q).1] at g; contradiction
      · rw [q, nC] at g; contradiction
    refine ⟨⟨H.sc, H.eok, H.amb, ?_, fun a o e => ⟨(lab a o (H.ok.stays a o e)).trans (H.ksh a o e).1, (H.ksh a o e).2⟩, fun a e => (H.fos a e).imp id fun q => ⟨(let ⟨_, o, g, _⟩ := H.call.fresh e; lab a o g).trans q.1, q.2⟩, fun c e => (H.hnd c e).mono fun a o q g => ⟨x'.exact (not_loose q) g, (lab a o g).trans q⟩⟩, ⟨st₂.same, fun a o g q => ⟨(st₂.safe a o g q).1, lab a o g⟩⟩⟩
    have S := H.sta
    have S' := H₂.sta
    refine ⟨fun a o e n => ?_, fun a o e n => ?_, fun a e => ?_, ?_, fun n c e => ?_, S.inj, S.allc, S'.ns, S.keys, fun z c e => ?_, ?_⟩
    · obtain ⟨sl, g, q⟩ := S.keep a o e n
      obtain ⟨sl', g', q'⟩ := S'.keep a o e n
      exact ⟨sl', g', by rw [lab a _ g]; rw [lab' a _ g] at q'; exact q'⟩
    · obtain ⟨sl, g, q⟩ := S.keep a o e n
      rw [lab a _ g]; exact S.low a o e n
    · have h0 := x'.none e
      have nT : ¬ T a := fun q => by obtain ⟨_, _, o, g⟩ := hT a q; rw [g] at e; contradiction
      have nCa : a ≠ C := fun q => by subst q; obtain ⟨o, _, _, g, _⟩ := hns; rw [g] at e; contradiction
      rw [claim_old (T := (· = C)) nCa, claim_old nT]; exact S.high a h0
    · obtain ⟨m, o, _, _, g, _⟩ := S.ns
      exact (lab _ _ g).trans S.locs
    · obtain ⟨q1, q2, v, o, g, r⟩ := S.cels n c e
      exact ⟨(lab _ _ g).trans q1, q2, v, x'.slk.cell ⟨o, g, r⟩⟩
    · rcases S.vars z c e with rfl | ⟨v, V, r⟩
      · exact .inl rfl
      exact .inr ⟨v, V.slk x'.slk, r.mono (fun a o q g => ⟨x'.exact (not_loose q) g, (lab a o g).trans q⟩) (fun a o q g => ⟨x'.exact (not_loose q) g, (lab a o g).trans q⟩)⟩
    · obtain ⟨L, o, e1, e0, e2, e3, e4⟩ := S.frm
      obtain ⟨o', g, d⟩ := x'.slk.data e3
      exact ⟨L, o', e1, (lab _ _ e3).trans e0, e2, g, fun vs => d ▸ e4 vs⟩
  show wpAny _ A (assign (.Name y py) env (.ref D)) _ _ _
  refine wpAny_assign_Name (store_var (b := b) key.1 hk hB u fun s₄ H₄ st₄ => ?_)
  have rC : claim (claim reg (fun a => T a) (.va y)) (· = C) .it C = .it := claim_new rfl
  obtain ⟨oC, _, _, gC, dC⟩ := id hns
  obtain ⟨gC₄, _⟩ := st₄.exact gC (.inr (.inl rC))
  refine ⟨m, ⟨oC, _, _, gC₄, dC⟩, fun h'' sb => ?_⟩
  have H₅ := H₄.letit (h' := h'') (tk := s₄.toks) (wr := [C]) (fun b hb => by rw [List.mem_singleton.mp hb]; exact rC) (fun b o hb g => sb.extBut b o (fun q => hb (by rw [q]; exact List.mem_cons_self)) g)
  have st₅ := key.2.trans st₄
  refine hQ _ _ _ _ h ⟨by obtain ⟨h', tk, e⟩ := st₅.same; exact ⟨h'', s₄.toks, by rw [e]⟩, fun a o g q => ?_⟩ H₅
  have hne : a ≠ C := fun z => by rw [z, nC] at g; contradiction
  obtain ⟨⟨sl, g', z⟩, l⟩ := st₅.safe a o g q
  exact ⟨⟨sl, sb.extBut a _ hne g', z⟩, (claim_old fun m => hne (List.mem_singleton.mp m)).trans l⟩
theorem Ex1.assign_comp_any {elt iter tg : Expr} {y : Str} {py pos spos : Pos} {ifs : List Expr} {scope : Scope} {ds : List PyData} {f : PyData → PyData} {p : PyData → Bool} {xs : List Str} {sp : PyData → List PyData} {ρ' : Vars} (hit : It W ht sc ρ obs iter ds) (hok : scopeOk sc scope xs = true) (hsp : ∀ d ∈ ds, (sp d).length = xs.length)
    (hasg : ∀ A env, (W.calm = true → A.handled = none) → CompAsg W A scope env tg xs sp ds) {ρf : Vars} (hpk : Pick ρ (freeNames scope) ρf)
    (ht1 : ∀ d ∈ ds, EvIfs W ht (relab sc scope) ((xs.zip (sp d)).map (fun p => (p.1, .sh p.2)) ++ ρf) obs ifs (p d)) (ht2 : ∀ d ∈ ds, p d = true → Ev W ht (relab sc scope) ((xs.zip (sp d)).map (fun p => (p.1, .sh p.2)) ++ ρf) obs elt (f d)) (hz : ds.length ≤ sizeLine)
    (hk : sc.names.lookup y = some .local ∨ sc.names.lookup y = some .cell) (u : Upd ρ y (.sh (.list ((ds.filter p).map f))) ρ') (h : Post (.nx ρ'))
    (hsw : ∀ env : Env, env.scope = sc → swapsWith (.ListComp elt [⟨tg, iter, ifs, 0⟩] scope pos) (some (.Name y py)) spos.line env = pure true)
    (hs : ∀ (env : Env) x, foldedSetIterable iter env x = pure x) : Ex1 W ht sc ρ obs (.Assign [.Name y py] (.ListComp elt [⟨tg, iter, ifs, 0⟩] scope pos) spos) Post := by
  refine comp_used (fr := false) hit hok hsp hasg hpk ht1 (fun d hd hp => EvG.of (ht2 d hd hp)) hz hk u h ?_ hsw hs
  intro reg h₀ h D C ys nD pl high r _ hCD
  obtain ⟨n, g⟩ := pl
  refine ⟨fun _ => False, fun a q => q.elim, ⟨D, ys, n, rfl, ?_, g, RlAll.mono (fun a o q g => ⟨g, ?_⟩) _ _ r⟩, ⟨D, ys, n, rfl, ?_, g, RlAll.mono (fun a o q g => ⟨g, ?_⟩) _ _ r⟩⟩
  · exact (claim_old fun q => q).trans (high D nD)
  · exact (claim_old fun q => q).trans q.1
  · exact (claim_old fun q => hCD q.symm).trans ((claim_old fun q => q).trans (high D nD))
  · show claim _ _ _ a = _
    rw [claim_old (T := (· = C)) q.2.1, claim_old fun q => q]; exact q.1
theorem RlAll.flats {h h' : Heap} {P P' : Addr → Prop} : ∀ {xs : List PyData} {vs : List Value}, (∀ d ∈ xs, flat d = true) → RlAll h P xs vs → RlAll h' P' xs vs
  | [], _, _, r => r
  | x :: xs, _, k, ⟨v, vs', e, r, rs⟩ => ⟨v, vs', e, r.flat (k x List.mem_cons_self), RlAll.flats (fun d hd => k d (List.mem_cons_of_mem _ hd)) rs⟩
theorem own_l2 {y : Str} {ds : List PyData} {f : PyData → List PyData} {p : PyData → Bool} (hfl : ∀ d ∈ ds, ∀ c ∈ f d, flat c = true) (reg : Reg) (h₀ h : Heap) (D C : Addr) (ys : Array Value) (nD : h₀.get? D = none) (pl : h.PlainList D ys) (r : RlAll h (fun a => reg a = .sh ∧ a ≠ C ∧ a ≠ D) ((ds.filter p).map fun d => .list (f d)) ys.toList)
    (hfb : ∃ bs : List Addr, ys.toList = bs.map .ref ∧ bs.Nodup ∧ ∀ b ∈ bs, h₀.get? b = none ∧ b ≠ C ∧ b ≠ D) (hCD : C ≠ D) :
    ∃ T : Addr → Prop, (∀ a, T a → h₀.get? a = none ∧ a ≠ C ∧ ∃ o, h.get? a = some o) ∧ BRel (claim reg (fun a => T a) (.va y)) h y (.l2 ((ds.filter p).map f)) (.ref D) ∧ BRel (claim (claim reg (fun a => T a) (.va y)) (· = C) .it) h y (.l2 ((ds.filter p).map f)) (.ref D) := by
  obtain ⟨bs, b1, b2, b3⟩ := hfb
  have hl : bs.length = ((ds.filter p).map f).length := by
    have := r.length
    rw [b1] at this; simpa using this
  have inner : ∀ (i : Nat) b xs', bs[i]? = some b → ((ds.filter p).map f)[i]? = some xs' → ∃ us, h.PlainList b us ∧ (∀ c ∈ xs', flat c = true) ∧ RlAll h (fun _ => True) xs' us.toList := fun i b xs' h1 h2 => by
    rw [List.getElem?_map] at h2
    obtain ⟨d, hd, rfl⟩ := Option.map_eq_some_iff.mp h2
    obtain ⟨v, hv, rv⟩ := r.get (i := i) (d := .list (f d)) (by rw [List.getElem?_map, hd]; rfl)
    rw [b1, List.getElem?_map, h1] at hv
    cases hv
    obtain ⟨a, us, n, e, _, g, ru⟩ := rv
    cases e
    have hfl' := hfl d ((List.mem_filter.mp (List.mem_of_getElem? hd)).1)
    exact ⟨us, ⟨n, g⟩, hfl', RlAll.flats hfl' ru⟩
  have here : ∀ b ∈ bs, ∃ o, h.get? b = some o := fun b hb => by
    obtain ⟨i, hi⟩ := List.getElem?_of_mem hb
    have hlt : i < ((ds.filter p).map f).length := by have := (List.getElem?_eq_some_iff.mp hi).1; (lia -abstractProof)
    obtain ⟨us, ⟨n, g⟩, _⟩ := inner i b _ hi (by rw [List.getElem?_eq_getElem hlt])
    exact ⟨_, g⟩
  have tD : ∀ (reg' : Reg), (∀ a, (a = D ∨ a ∈ bs) → reg' a = .va y) → BRel reg' h y (.l2 ((ds.filter p).map f)) (.ref D) := fun reg' k => by
    obtain ⟨n, g⟩ := pl
    refine ⟨D, bs, rfl, k D (.inl rfl), ⟨n, ?_⟩, hl, b2, fun b hb => ⟨(b3 b hb).2.2, k b (.inr hb)⟩, fun i b xs' h1 h2 => ?_⟩
    · rw [← b1]; exact g
    · obtain ⟨us, pu, fl, ru⟩ := inner i b xs' h1 h2
      exact ⟨us, pu, RlAll.flats fl ru⟩
  refine ⟨fun a => a = D ∨ a ∈ bs, fun a q => ?_, tD _ fun a q => claim_new q, tD _ fun a q => ?_⟩
  · rcases q with rfl | q
    · obtain ⟨n, g⟩ := pl; exact ⟨nD, fun z => hCD z.symm, _, g⟩
    · exact ⟨(b3 a q).1, (b3 a q).2.1, here a q⟩
  · refine (claim_old fun z => ?_).trans (claim_new q)
    rcases q with rfl | q
    · exact hCD z.symm
    · exact (b3 a q).2.1 z
theorem Ex1.assign_comp_l2 {elt iter : Expr} {y x : Str} {px py pos spos : Pos} {ifs : List Expr} {scope : Scope} {ds : List PyData} {f : PyData → List PyData} {p : PyData → Bool} {ρ' : Vars} (hit : It W ht sc ρ obs iter ds) (hok : scopeOk sc scope [x] = true)
    {ρf : Vars} (hpk : Pick ρ (freeNames scope) ρf) (ht1 : ∀ d ∈ ds, EvIfs W ht (relab sc scope) ((x, .sh d) :: ρf) obs ifs (p d)) (ht2 : ∀ d ∈ ds, p d = true → EvG true W ht (relab sc scope) ((x, .sh d) :: ρf) obs elt (.list (f d))) (hfl : ∀ d ∈ ds, ∀ c ∈ f d, flat c = true) (hz : ds.length ≤ sizeLine)
    (hk : sc.names.lookup y = some .local ∨ sc.names.lookup y = some .cell) (u : Upd ρ y (.l2 ((ds.filter p).map f)) ρ') (h : Post (.nx ρ'))
    (hsw : ∀ env : Env, env.scope = sc → swapsWith (.ListComp elt [⟨.Name x px, iter, ifs, 0⟩] scope pos) (some (.Name y py)) spos.line env = pure true)
    (hs : ∀ (env : Env) x, foldedSetIterable iter env x = pure x := by intro _ _; rfl) : Ex1 W ht sc ρ obs (.Assign [.Name y py] (.ListComp elt [⟨.Name x px, iter, ifs, 0⟩] scope pos) spos) Post := by
  refine comp_used (fr := true) (f := fun d => .list (f d)) (xs := [x]) (sp := fun d => [d]) hit hok (fun _ _ => rfl) (fun _ _ _ => CompAsg.name (ScopeOk.of hok).kind ((ScopeOk.of hok).tgt x List.mem_cons_self)) hpk ht1 ht2 hz hk u h (fun reg h₀ h D C ys nD pl _ r hfb hCD => own_l2 hfl reg h₀ h D C ys nD pl r (hfb rfl) hCD) hsw hs
theorem Ex1.assign_comp_l2c {elt iter : Expr} {y x : Str} {px py pos spos : Pos} {ifs : List Expr} {scope : Scope} {ds : List PyData} {f : PyData → List PyData} {p : PyData → Bool} {ρ' : Vars} (hit : It W ht sc ρ obs iter ds) (hok : scopeOk sc scope [x] = true)
    {ρf : Vars} (hpk : Pick ρ (freeNames scope) ρf) (ht1 : ∀ d ∈ ds, EvIfs W ht (relab sc scope) ((x, .sh d) :: ρf) obs ifs (p d)) (ht2 : ∀ d ∈ ds, p d = true → EvG true W ht (relab sc scope) ((x, .sh d) :: ρf) obs elt (.list (f d))) (hfl : ∀ d ∈ ds, ∀ c ∈ f d, flat c = true) (hz : ds.length ≤ sizeLine)
    (hk : sc.names.lookup y = some .local ∨ sc.names.lookup y = some .cell) (u : Upd ρ y (.l2 ((ds.filter p).map f)) ρ') (h : Post (.nx ρ'))
    (hsw : ∀ env : Env, env.scope = sc → swapsWith (.ListComp elt [⟨.Name x px, iter, ifs, 0⟩] scope pos) (some (.Name y py)) spos.line env = pure false)
    (hs : ∀ (env : Env) x, foldedSetIterable iter env x = pure x := by intro _ _; rfl) : Ex1 W ht sc ρ obs (.Assign [.Name y py] (.ListComp elt [⟨.Name x px, iter, ifs, 0⟩] scope pos) spos) Post := by
  intro A env base reg s Q E H hQ hE
  have ok := ScopeOk.of hok
  have hfr : ∀ y ∈ scope.names, y.2 = .free → ∃ c, env.cells.lookup y.1 = some c := fun y hy e => H.sta.allc _ (by have := ok.free y hy e; rw [← H.sc] at this; exact this)
  obtain ⟨cl, e, h1, h2⟩ := closure_of hfr
  refine wpAny_Assign_Name ?_ (hsw env H.sc)
  rw [eval_ListComp]
  refine wpAny_comprehension_free (use := none) rfl (hs env) e ok.kind (fun y hy hl => hl ▸ ok.all y hy) ?_
  refine hit H fun s₂ I fp wr P St x₂ Wk hst hex hlet hnew hfp hitem => ?_
  refine comp_core (fr := true) (f := fun d => .list (f d)) (xs := [x]) (sp := fun d => [d]) (R := fun acc C => compPost W.M A E none (fun v s₁ => wpAny W.M A (storeName env y v) (fun _ => Q .next) E s₁) acc C) H ok (fun _ _ => rfl) (CompAsg.name ok.kind (ok.tgt x List.mem_cons_self)) hpk h1 h2 x₂ Wk hst hex hlet hnew hfp hitem hz ht1 ht2 ?_
  intro s' D C ys m x' nD nC hCD hns pl r hfb
  refine ⟨m, hns, fun h'' sb => ?_⟩
  have x'' : Ext (Loose reg) s { s' with heap := h'' } := by
    obtain ⟨h', tk, rfl, k⟩ := x'
    exact ⟨h'', tk, rfl, fun b o e => let ⟨sl, g, q⟩ := k b o e; ⟨sl, sb.extBut b _ (by rintro rfl; rw [nC] at e; contradiction) g, q⟩⟩
  have pl'' : h''.PlainList D ys := let ⟨n, g⟩ := pl; ⟨n, sb.extBut _ _ (Ne.symm hCD) g⟩
  have r'' : RlAll h'' (fun a => reg a = .sh ∧ a ≠ C ∧ a ≠ D) ((ds.filter p).map fun d => .list (f d)) ys.toList := RlAll.mono (fun a o q g => ⟨sb.extBut a o q.2.1 g, q⟩) _ _ r
  obtain ⟨T, hT, hB, _⟩ := own_l2 (y := y) hfl reg s.heap h'' D C ys nD pl'' r'' (hfb rfl) hCD
  have H₁ := H.claim (T := fun a => T a) (w := .va y) x'' (fun a q => (hT a q).1) (fun a q => (hT a q).2.2)
  exact store_var (b := .l2 ((ds.filter p).map f)) H₁ hk hB u fun s₃ H₃ st₃ => hQ _ _ _ _ h ((Step.claim (T := fun a => T a) (w := .va y) x'' (fun a q => (hT a q).1)).trans st₃) H₃
end
section
variable {W : Wrld} {ht : Nat} {sc : Scope} {ρ : Vars} {obs : Obs} {Post : Out → Prop}
theorem Ev.fdivP {l r : Expr} {pos : Pos} {a b : Int} (hl : Ev W ht sc ρ obs l (.int a)) (hr : Ev W ht sc ρ obs r (.int b)) (hb : 0 < b := by decide) (hn : b < 1073741824 := by decide) : Ev W ht sc ρ obs (.BinOp l .FloorDiv r pos) (.int (a / b)) := by
  have := Ev.fdiv (pos := pos) hl hr (by (lia -abstractProof)) (by (lia -abstractProof))
  rwa [Int.fdiv_eq_ediv_of_nonneg _ (by (lia -abstractProof))] at this
theorem Ev.modP {l r : Expr} {pos : Pos} {a b : Int} (hl : Ev W ht sc ρ obs l (.int a)) (hr : Ev W ht sc ρ obs r (.int b)) (hb : 0 < b := by decide) : Ev W ht sc ρ obs (.BinOp l .Mod r pos) (.int (a % b)) := by
  have := Ev.mod (pos := pos) hl hr (by lia)
  rwa [Int.fmod_eq_emod_of_nonneg _ (by lia)] at this
theorem Ev.ifexp_str {t x y : Expr} {pos : Pos} {b : Bool} {d e : Str} (hb : EvT W ht sc ρ obs t b) (hx : Ev W ht sc ρ obs x (.str d)) (hy : Ev W ht sc ρ obs y (.str e)) : Ev W ht sc ρ obs (.IfExp t x y pos) (.str (if b then d else e)) := by
  refine Ev.ifexp hb (fun h => ?_) fun h => ?_
  · rw [h]; exact hx
  · rw [h]; exact hy
noncomputable def SLen (s : Str) (n : Nat) : Prop := s.length ≤ n
theorem SLen.app {a b : Str} {m n : Nat} (ha : SLen a m) (hb : SLen b n) : SLen (a ++ b) (m + n) := by
  obtain ⟨a⟩ := a; obtain ⟨b⟩ := b
  show (a ++ b).size ≤ m + n
  rw [Array.size_append]; exact Nat.add_le_add ha hb
theorem SLen.ite {c : Bool} {a b : Str} {n : Nat} (ha : SLen a n) (hb : SLen b n) : SLen (if c = true then a else b) n := by split <;> assumption
theorem SLen.one {c : Nat} : SLen ⟨#[c]⟩ 1 := Nat.le_refl 1
theorem SLen.fit {s : Str} {n : Nat} (h : SLen s n) (hn : n ≤ 1000) : s.length ≤ sizeLine := by
  have : (1000 : Nat) ≤ sizeLine := by decide
  exact Nat.le_trans h (Nat.le_trans hn this)
noncomputable def ForG (W : Wrld) (ht : Nat) (sc : Scope) (obs : Obs) (target : Expr) (body orelse : List Stmt) (Post : Out → Prop) : List PyData → Vars → Prop
  | [], ρ => Ex W ht sc ρ obs orelse Post
  | d :: ds, ρ => ∃ ρ', Asg W ht sc target d ρ ρ' ∧ Ex W ht sc ρ' obs body (Turn (ForG W ht sc obs target body orelse Post ds) Post)
theorem Ex1.forU {target iter : Expr} {body orelse : List Stmt} {pos : Pos} {ds : List PyData} (hit : ItS W ht sc ρ obs target iter ds) (h : ForG W ht sc obs target body orelse Post ds ρ)
    (hs : ∀ (env : Env) x, foldedSetIterable iter env x = pure x := by intro _ _; rfl) : Ex1 W ht sc ρ obs (.For target iter body orelse pos) Post := by
  refine Ex1.for_ hit (fun i ρ' => ForG W ht sc obs target body orelse Post (ds.drop i) ρ') (by simpa using h) (fun i d ρ' hd hi => ?_) (fun ρ' hi => ?_) hs
  · have hlt := (List.getElem?_eq_some_iff.mp hd).1
    have e : ds.drop i = d :: ds.drop (i + 1) := by
      rw [List.drop_eq_getElem_cons hlt, (List.getElem?_eq_some_iff.mp hd).2]
    rw [e] at hi
    exact hi
  · rw [List.drop_length] at hi
    exact hi
end
section
variable {prog : Program} {w : World} {A : Around} {E : Value → Shared → Prop} {s : Shared}
theorem nextOf_tup_item {it t : Addr} {i : Nat} {items : Array Value} {x : Value} {Q : Value → Shared → Prop} (hit : s.heap.IsTupleIter it t i) (ht : s.heap.IsTuple t items) (hx : items[i]? = some x)
    (hQ : ∀ h', h'.IsTupleIter it t (i + 1) → Heap.SameBut it s.heap h' → Q x { s with heap := h' }) : wpAny (model prog w) A (Builtin.SmallTypes.nextOf (.ref it)) Q E s := by
  obtain ⟨o, ho, hc, hd⟩ := id hit
  obtain ⟨ol, hol, _, nl, hdl⟩ := ht
  unfold Builtin.SmallTypes.nextOf
  refine wpAny_bind (wpAny_callSpecial?_slot (name := Str.ofString "__next__") hit.typeIs PySem.F.slot_tuple_iterator_next (wpAny_call_entry PySem.F.slot_tuple_iterator_next hit.typeIs PySem.F.entry_tuple_iterator_next ?_ (PySem.F.args_tuple_iterator_next_1 _)))
  show wpAny _ _ (field (.ref it) 0 >>= _) _ _ s
  refine wpAny_bind (wpAny_field ho hd (x := .ref t) rfl ?_)
  show wpAny _ _ (if (Value.ref t == Value.none) = true then _ else _) _ _ s
  rw [if_neg (show ¬ ((Value.ref t == Value.none) = true) from Bool.false_ne_true)]
  show wpAny _ _ (field (.ref it) 1 >>= _) _ _ s
  refine wpAny_bind (wpAny_field ho hd (x := .int i 0) rfl ?_)
  show wpAny _ _ (seqItems? (.ref t) >>= _) _ _ s
  refine wpAny_bind (wpAny_seqItems hol hdl ?_)
  simp only [Int.toNat_natCast, hx]
  refine wpAny_bind (wpAny_setField ho hd (by simp) (wpAny_pure ⟨x, rfl, wpAny_pure (hQ _ ?_ (Heap.SameBut.update ..))⟩))
  exact ⟨_, Heap.get?_update_self _ ho (Obj.isFreed_of_fields (Obj.data_mapFields hd _)), (Obj.cls_mapFields ..).trans hc, by rw [Obj.data_mapFields hd]; simp [rawInt]⟩
theorem nextOf_tup_end {it t : Addr} {i : Nat} {items : Array Value} {Q : Value → Shared → Prop} (hh : A.handled = none) (hit : s.heap.IsTupleIter it t i) (ht : s.heap.IsTuple t items) (hx : items[i]? = none)
    (hE : ∀ h' e, Heap.ExtBut it s.heap h' → (∃ o, h'.get? e = some o ∧ o.cls = .type "StopIteration") → E (.ref e) { s with heap := h' }) : wpAny (model prog w) A (Builtin.SmallTypes.nextOf (.ref it)) Q E s := by
  obtain ⟨o, ho, hc, hd⟩ := id hit
  obtain ⟨ol, hol, _, nl, hdl⟩ := ht
  unfold Builtin.SmallTypes.nextOf
  refine wpAny_bind (wpAny_callSpecial?_slot (name := Str.ofString "__next__") hit.typeIs PySem.F.slot_tuple_iterator_next (wpAny_call_entry PySem.F.slot_tuple_iterator_next hit.typeIs PySem.F.entry_tuple_iterator_next ?_ (PySem.F.args_tuple_iterator_next_1 _)))
  show wpAny _ _ (field (.ref it) 0 >>= _) _ _ s
  refine wpAny_bind (wpAny_field ho hd (x := .ref t) rfl ?_)
  show wpAny _ _ (if (Value.ref t == Value.none) = true then _ else _) _ _ s
  rw [if_neg (show ¬ ((Value.ref t == Value.none) = true) from Bool.false_ne_true)]
  show wpAny _ _ (field (.ref it) 1 >>= _) _ _ s
  refine wpAny_bind (wpAny_field ho hd (x := .int i 0) rfl ?_)
  show wpAny _ _ (seqItems? (.ref t) >>= _) _ _ s
  refine wpAny_bind (wpAny_seqItems hol hdl ?_)
  simp only [Int.toNat_natCast, hx]
  refine wpAny_bind (wpAny_rule (wpAny_bind (wpAny_setField ho hd (by simp) ?_)))
  show wpAny _ _ (newExc (.type "StopIteration") [] >>= _) _ _ _
  refine wpAny_bind ?_
  simp only [newExc, newTuple]
  refine wpAny_bind (wpAny_newObj_type ?_ (by size_fits))
  refine wpAny_bind (m := firstArgMember _ _) (wpAny_of_eq (a := Value.none) (by first | rfl | (simp only [firstArgMember]; rfl)) ?_)
  refine wpAny_newObj_type ?_ (by size_fits)
  simp only [raiseNew]
  refine wpAny_bind (wpAny_handled ?_)
  first | rw [show A.in1.handled = none from hh] | rw [hh]
  refine wpAny_bind (wpAny_pure (wpAny_throw ?_))
  exact hE _ _ (((Heap.SameBut.update ..).extBut.push _).push _) ⟨_, Heap.get?_push_size _ rfl, rfl⟩
end
theorem draws_tuple {prog : Program} {w : World} {A : Around} (hh : A.handled = none) (it t : Addr) (hne : t ≠ it) (items : Array Value) :
    Draws prog w A it [it, t] items.size (fun i v => items[i]? = some v) (fun i h => h.IsTupleIter it t i ∧ h.IsTuple t items) where
  live := fun _ _ st => let ⟨o, ho, _⟩ := st.1; ⟨o, ho⟩
  frame := fun _ _ _ st hk => ⟨let ⟨o, g, r⟩ := st.1; ⟨o, hk it (by simp) o g, r⟩, let ⟨o, g, r⟩ := st.2; ⟨o, hk t (by simp) o g, r⟩⟩
  item := fun i s Q E hi st hQ => by
    refine nextOf_tup_item st.1 st.2 (x := items[i]) (by simp [hi]) fun h' hit' hs' => ?_
    exact hQ _ h' s.toks (by simp [hi]) ⟨hit', let ⟨o, g, r⟩ := st.2; ⟨o, hs'.extBut _ _ hne g, r⟩⟩ hs'
  done := fun s Q E st hE => nextOf_tup_end hh st.1 st.2 (by simp) hE
theorem pure_any {α : Type} {M : Model} {A : Around} {s : Shared} {x : α} {Q : α → Shared → Prop} {E : Value → Shared → Prop} (h : ∀ b, Q b s) : wpAny M A (pure x) Q E s := wpAny_pure (h x)
set_option maxHeartbeats 1000000 in
theorem enum_newT (t : Addr) (items : Array Value) (n : Nat) :
    Meets (Builtin.«enumerate.__new__» ⟨[.type "enumerate", .ref t], []⟩) (fun _ R s => s.heap.get? t = some { cls := .type "tuple", dict := none, data := .seq items n, slots := #[] } ∧
      R (.ok (.ret (.ref (s.heap.push { cls := .type "tuple_iterator", data := .fields #[.ref t, .int 0 0] }).objs.size)))
        { s with heap := (s.heap.push { cls := .type "tuple_iterator", data := .fields #[.ref t, .int 0 0] }).push { cls := .type "enumerate", data := .fields #[.none, .bool false, .ref s.heap.objs.size, rawInt 0, .none, .none] } }) :=
  .of_wp fun prog w A R s h => by
    obtain ⟨hp, g, d, tk, os⟩ := s; obtain ⟨hl, h⟩ := h
    have hsub := sub_enumerate
    have hL : Heap.IsTuple (Shared.heap ⟨hp, g, d, tk, os⟩) t items := ⟨_, hl, rfl, n, rfl⟩
    wp_walk using wpAny_loadPart' hl
    refine wpAny_stack_any fun st => pure_any fun b => ?_
    cases b
    · wp_walk using wpAny_loadPart' hl, wpAny_pyIter_tuple hL
      exact ⟨_, rfl, h⟩
    · wp_walk using wpAny_loadPart' hl, wpAny_pyIter_tuple hL
      exact ⟨_, rfl, h⟩
section
variable {W : Wrld} {ht : Nat} {sc : Scope} {ρ : Vars} {obs : Obs} {Post : Out → Prop}
noncomputable def enumD : Nat → List PyData → List PyData
  | _, [] => []
  | i, d :: ds => .tuple [.int i, d] :: enumD (i + 1) ds
theorem enumD_len : ∀ (i : Nat) (ds : List PyData), (enumD i ds).length = ds.length
  | _, [] => rfl
  | i, _ :: ds => by simp [enumD, enumD_len (i + 1) ds]
theorem enumD_get : ∀ (j i : Nat) (ds : List PyData) (d : PyData), ds[i]? = some d → (enumD j ds)[i]? = some (.tuple [.int ((j + i : Nat) : Int), d])
  | _, i, [], _, h => by simp at h
  | j, 0, _ :: _, d, h => by simp at h; subst h; simp [enumD]
  | j, i + 1, _ :: ds, d, h => by
    simp only [List.getElem?_cons_succ] at h
    have := enumD_get (j + 1) i ds d h
    simp only [enumD, List.getElem?_cons_succ, this]
    rw [show j + 1 + i = j + (i + 1) from by (lia -abstractProof)]
theorem ItS.enum_tuple {x : Str} {p pos tp : Pos} {k : Nat} {elts : List Expr} {e : Expr} {ds : List PyData} (hx : sc.names.lookup x = some .globalImplicit) (hm : W.G x = none) (hv : bootBuiltins x = some (.type "enumerate")) (he : Ev W ht sc ρ obs e (.tuple ds))
    (hn : x ≠ "__name__" := by decide) (hd : (x == ("__debug__" : Str)) = false := by decide) (hp : Plain e := by intro _ _; rfl) (hc : W.calm = true := by rfl) : ItS W ht sc ρ obs (.Tuple elts k tp) (.Call (.Name x p) [e] [] pos) (enumD 0 ds) := by
  intro A env base reg s Q E H hQ
  have e1 : backTo pos (starEach [e] env) = [(false, eval e env)] := by rw [hp env []]; rfl
  refine Call_Name e1 (name_builtin H hx hm hv (PySem.callWith_type rfl (evalArgs_plain (spliced_cons (he H fun s₁ v x₁ r => spliced_nil ?_)))) hn hd)
  obtain ⟨a, vs, n, rfl, pa, g, r⟩ := r
  refine callType_new PySem.F.called_enumerate (by decide) (PySem.F.typeCall_enumerate_1 _) (PySem.F.newCall_enumerate_1 _) (fun obj => PySem.F.args_object_init_2 obj _) PySem.F.entry_enumerate_new (enum_newT a vs n) ⟨g, ?_⟩
  generalize hB : s₁.heap.objs.size = B
  have hz : (s₁.heap.push { cls := .type "tuple_iterator", data := .fields #[.ref a, .int 0 0] }).objs.size = B + 1 := by rw [Heap.size_push, hB]
  show _ ∧ _
  rw [hz]
  have gi : (s₁.heap.push { cls := .type "tuple_iterator", data := .fields #[.ref a, .int 0 0] }).get? B = some { cls := .type "tuple_iterator", data := .fields #[.ref a, .int 0 0] } := by rw [← hB]; exact Heap.get?_push_size _ rfl
  have ge : IsEnum ((s₁.heap.push { cls := .type "tuple_iterator", data := .fields #[.ref a, .int 0 0] }).push { cls := .type "enumerate", data := .fields #[.none, .bool false, .ref B, rawInt 0, .none, .none] }) (B + 1) B 0 .none := by
    have := Heap.get?_push_size (s₁.heap.push { cls := .type "tuple_iterator", data := .fields #[.ref a, .int 0 0] }) (o := { cls := .type "enumerate", data := .fields #[.none, .bool false, .ref B, rawInt 0, .none, .none] }) rfl
    rw [hz] at this; exact this
  refine ⟨⟨_, ge, rfl⟩, ?_⟩
  refine wpAny_pyIter_enum ge ?_
  have x₂ : Ext (Loose reg) s₁ { s₁ with heap := (s₁.heap.push { cls := .type "tuple_iterator", data := .fields #[.ref a, .int 0 0] }).push { cls := .type "enumerate", data := .fields #[.none, .bool false, .ref B, rawInt 0, .none, .none] } } := (Ext.push s₁ _ s₁.toks).trans (Ext.push _ _ _)
  have hab : a ≠ B := by rw [← hB]; exact Nat.ne_of_lt (Heap.lt_size g)
  have hab' : a ≠ B + 1 := by rw [← hB]; exact Nat.ne_of_lt (Nat.lt_succ_of_lt (Heap.lt_size g))
  have hl : vs.size = ds.length := by simpa using r.length
  have D := draws_tuple (prog := W.prog) (w := W.w) (A := A.in1) (H.amb.handled hc) B a hab vs
  have hBf : B + 1 ∉ [B, a] := fun q => by
    rcases List.mem_cons.mp q with q | q
    · exact Nat.ne_of_gt (Nat.lt_succ_self B) q
    · exact hab' (List.mem_singleton.mp q).symm
  have WT := WalksT.enumerateD D (B + 1) (Nat.ne_of_gt (Nat.lt_succ_self B)) hBf (by simp)
  have fn : ∀ b, B ≤ b → s.heap.get? b = none := fun b hb => x₁.none (none_of_le (by rw [hB]; exact hb))
  refine hQ _ _ _ _ _ (x₁.trans x₂) ⟨WT.frame, fun i s' Q' E' hi st hq => ?_, fun s' Q' E' st hq => WT.done s' Q' E' (by rw [enumD_len] at st; rw [hl]; exact st) hq⟩ ⟨⟨_, ge⟩, ⟨_, Heap.get?_push_of_some _ gi, rfl, rfl⟩, ⟨_, Heap.get?_push_of_some _ (Heap.get?_push_of_some _ g), rfl, n, rfl⟩⟩ ?_ ?_ ?_
  · rw [enumD_len] at hi
    obtain ⟨⟨old, he⟩, hst⟩ := st
    refine wpAny_pyNext_enum_itemD D he hst (by rw [hl]; exact hi) (Nat.ne_of_gt (Nat.lt_succ_self B)) hBf fun xv h' tk hxv ho hst' gT hsz kp => ?_
    have hBl : B + 1 < s'.heap.objs.size := Heap.lt_size he
    refine wpAny_letOwnedTupleGo_enum ho fun h'' he'' sb => ?_
    have kp' : ∀ b o, b ∉ [B + 1, B] → s'.heap.get? b = some o → h''.get? b = some o := fun b o hb g => by
      have h1 : b ≠ B + 1 := fun q => hb (by simp [q])
      have h2 : b ≠ B := fun q => hb (by simp [q])
      exact sb.extBut b o h1 (kp b o h1 h2 g)
    have gT' : h''.get? s'.heap.objs.size = some { cls := .type "tuple", data := .seq #[.int i tk, xv] } := sb.extBut _ _ (Nat.ne_of_gt hBl) gT
    obtain ⟨d, hd, rd⟩ := r.get' (by simpa using hxv)
    refine hq (.ref s'.heap.objs.size) _ h'' (tk + 1) (enumD_get 0 i ds d hd) (fun P k1 k2 => ?_) ⟨⟨_, by simpa using he''⟩, D.frame _ _ _ hst' fun b hb o y => sb.extBut b o (fun q => hBf (q ▸ hb)) y⟩ kp'
    refine ⟨_, _, 0, rfl, k2 _ (fresh_none _), gT', ⟨_, _, rfl, ⟨tk, by simp⟩, _, _, rfl, ?_, rfl⟩⟩
    refine Rl.mono (fun c o q g => k1 c o q.1 ?_ ?_) d xv (Rl.mono (P' := fun a => reg a = .sh ∧ s₁.heap.get? a ≠ none) (fun c o q g => ⟨g, q, by rw [g]; intro z; contradiction⟩) d xv rd)
    · intro z
      have : s₁.heap.get? c = none := none_of_le (by
        rw [hB]
        rcases List.mem_cons.mp z with z | z
        · rw [z]; exact Nat.le_succ _
        · rw [List.mem_singleton.mp z]; exact Nat.le_refl _)
      exact q.2 this
    · exact Heap.get?_push_of_some _ (Heap.get?_push_of_some _ g)
  · intro i h st b hb
    obtain ⟨⟨old, he⟩, hst⟩ := st
    rcases List.mem_cons.mp hb with rfl | hb
    · exact ⟨_, he⟩
    · rw [List.mem_singleton.mp hb]
      obtain ⟨o, g', _⟩ := hst.1
      exact ⟨o, g'⟩
  · intro b hb
    rcases List.mem_cons.mp hb with rfl | hb
    · exact fn _ (Nat.le_succ _)
    · rw [List.mem_singleton.mp hb]; exact fn _ (Nat.le_refl _)
  · intro b hb
    rcases List.mem_cons.mp hb with rfl | hb
    · exact ⟨.inl (by simp), _, ge⟩
    · rcases List.mem_cons.mp hb with rfl | hb
      · exact ⟨.inl (by simp), _, Heap.get?_push_of_some _ gi⟩
      · rw [List.mem_singleton.mp hb]
        exact ⟨.inr pa, _, Heap.get?_push_of_some _ (Heap.get?_push_of_some _ g)⟩
end
section
variable {W : Wrld} {ht ht' : Nat} {sc : Scope} {ρ : Vars} {obs : Obs} {Post : Out → Prop}
noncomputable def dataT : PyData → String
  | .str _ => "str"
  | .list _ => "list"
  | .tuple _ => "tuple"
  | .dict _ => "dict"
  | _ => ""
theorem typeOf_data {s : Shared} {P : Addr → Prop} {d : PyData} {v : Value} (h : dataT d ≠ "") (r : Rl s.heap P d v) : s.TypeIs v (dataT d) ∧ ∀ a, v = .ref a → ∃ ob, s.heap.get? a = some ob ∧ ob.dict = none := by
  cases d with
  | str x => obtain ⟨t, rfl⟩ := r; exact ⟨typeIs_str _ _ _, fun a e => nomatch e⟩
  | list xs => obtain ⟨a, vs, n, rfl, p, g, _⟩ := r; exact ⟨⟨_, g, rfl⟩, fun b e => by cases e; exact ⟨_, g, rfl⟩⟩
  | tuple xs => obtain ⟨a, vs, n, rfl, p, g, _⟩ := r; exact ⟨⟨_, g, rfl⟩, fun b e => by cases e; exact ⟨_, g, rfl⟩⟩
  | dict xs => obtain ⟨a, vs, n, rfl, p, _, g, _⟩ := r; exact ⟨⟨_, g, rfl⟩, fun b e => by cases e; exact ⟨_, g, rfl⟩⟩
  | none => exact absurd rfl h
  | bool b => exact absurd rfl h
  | int b => exact absurd rfl h
theorem enumD_inv : ∀ (j i : Nat) (ds : List PyData) (d : PyData), (enumD j ds)[i]? = some d → ∃ x, ds[i]? = some x ∧ d = .tuple [.int ((j + i : Nat) : Int), x]
  | _, i, [], _, h => by simp [enumD] at h
  | j, 0, x :: _, d, h => by simp [enumD] at h; exact ⟨x, rfl, by rw [← h]; simp⟩
  | j, i + 1, _ :: ds, d, h => by
    simp only [enumD, List.getElem?_cons_succ] at h
    obtain ⟨x, h1, h2⟩ := enumD_inv (j + 1) i ds d h
    exact ⟨x, by simpa using h1, by rw [h2, show j + 1 + i = j + (i + 1) from by (lia -abstractProof)]⟩
theorem Ev.meth {o : Expr} {name : Str} {apos pos : Pos} {args : List Expr} {id : String} {d₀ d : PyData} {ds : List PyData} (ho : Ev W ht sc ρ obs o d₀) (ha : EvAll W ht sc ρ obs args ds) (pa : PlainAttrs (dataT d₀)) (slot : Slot (dataT d₀) name id) (hty : typeOf (.builtin id) = pure (.type "method_descriptor"))
    (hc : Con W ht' (.builtin id) (d₀ :: ds) d) (hne : args ≠ [] := by decide) (hT : dataT d₀ ≠ "" := by decide) (hh : ht' ≤ ht := by omega)
    (hbase : ∀ env : Env, attributeBase o name env (eval o env) = eval o env := by intro _; rfl)
    (hfew : ∀ env : Env, ((backTo pos (starEach args env)).all (fun x => !x.1) && (backToKw pos (keywordEach [] env)).all (fun x => x.1.isSome) && decide (args.length + ([] : List Keyword).length + (if ([] : List Keyword).isEmpty then 0 else 1) < 30)) = true := by intro _; rfl)
    (hline : (apos.endLine == pos.line) = true := by rfl) : Ev W ht sc ρ obs (.Call (.Attribute o name apos) args [] pos) d := by
  intro A env base reg s Q E H hQ
  refine wpAny_Call_method (hbase env) (hfew env) hline pa slot hty (ho H fun s₁ v x₁ r₁ => ?_)
  obtain ⟨t1, t2⟩ := typeOf_data hT r₁
  obtain ⟨y, rr, e⟩ := (ha.1 env pos).2 hne
  refine ⟨t1, t2, ?_⟩
  rw [e]
  refine callWith_builtin (by rw [← e]; exact (ha.1 env pos).1) (evalArgs_plain ?_)
  rw [← e]
  exact ha.2 pos (H.ext x₁) fun s₂ vs x₂ r₂ => hc ((((H.ext x₁).ext x₂).call).less hh) ((H.ext x₁).ext x₂).pok ((H.ext x₁).ext x₂).pno ⟨_, _, rfl, r₁.ext x₂, r₂⟩ fun s' u x₃ r₃ => hQ s' u ((x₁.trans x₂).trans (x₃.mono fun _ => ((H.ext x₁).ext x₂).loose)) r₃
theorem Ev.callF {x : Str} {p pos : Pos} {args : List Expr} {a : Addr} {fd : FuncData} {sc' : Scope} {body : List Stmt} {ps ls : List Str} {ds : List PyData} {d : PyData} (F : FnOk W a fd sc' body ps ls) (hx : sc.names.lookup x = some .globalImplicit) (hf : W.G x = some (.ref a))
    (ha : EvAll W ht sc ρ obs args ds) (hc : Con W ht' (.ref a) ds d) (hh : ht' ≤ ht := by omega) (hne : args ≠ [] := by decide) (hd : (x == ("__debug__" : Str)) = false := by decide) : Ev W ht sc ρ obs (.Call (.Name x p) args [] pos) d := by
  obtain ⟨o, h1, h2⟩ := F.at_
  exact Ev.call hx hf h1 h2 ha hc hh hne hd
theorem strs_of {h : Heap} {P : Addr → Prop} : ∀ {ys : List Str} {vs : List Value}, RlAll h P (ys.map .str) vs → StrsAre vs ys
  | [], _, r => by cases r; exact .nil
  | y :: ys, _, ⟨v, vs', e, ⟨t, hv⟩, rs⟩ => by subst e hv; exact .cons y t (strs_of rs)
theorem Con.join {x : Str} {ys : List Str} (hz : (ys.map (·.length)).sum + ys.length * x.length ≤ 16777216) : Con W ht (.builtin "str.join") [.str x, .list (ys.map .str)] (.str (Txt.join x ys)) := by
  intro A s vs P Q E M hP hF r hQ
  obtain ⟨v, vs', rfl, ⟨t, rfl⟩, v', vs'', rfl, ⟨a, us, n, rfl, p, g, r⟩, rs⟩ := r
  cases rs
  exact join_list ⟨_, g, rfl, n, rfl⟩ (strs_of r) hz fun t' k => hQ _ _ (Ext.tok _ _) ⟨_, rfl⟩
end
section
variable {W : Wrld} {ht ht' : Nat} {sc : Scope} {ρ : Vars} {obs : Obs} {Post : Out → Prop}
noncomputable def Sets (W : Wrld) (ht : Nat) (sc : Scope) (ρ : Vars) (obs : Obs) (ss : List Stmt) (x : Str) (d : PyData) : Prop :=
  ∀ ⦃Post : Out → Prop⦄ ⦃ρ' : Vars⦄, Upd ρ x (.sh d) ρ' → Post (.nx ρ') → Ex W ht sc ρ obs ss Post
noncomputable def Set1 (W : Wrld) (ht : Nat) (sc : Scope) (ρ : Vars) (obs : Obs) (st : Stmt) (x : Str) (d : PyData) : Prop :=
  ∀ ⦃Post : Out → Prop⦄ ⦃ρ' : Vars⦄, Upd ρ x (.sh d) ρ' → Post (.nx ρ') → Ex1 W ht sc ρ obs st Post
theorem Set1.assign {x : Str} {p pos : Pos} {e : Expr} {d : PyData} (hk : sc.names.lookup x = some .local ∨ sc.names.lookup x = some .cell) (he : Ev W ht sc ρ obs e d)
    (hs : ∀ env : Env, env.scope = sc → swapsWith e (some (.Name x p)) pos.line env = pure false := by intro _ _; rfl) : Set1 W ht sc ρ obs (.Assign [.Name x p] e pos) x d := fun _ _ u h => Ex1.assign hk he u h hs
theorem Sets.one {st : Stmt} {x : Str} {d : PyData} (h : Set1 W ht sc ρ obs st x d) : Sets W ht sc ρ obs [st] x d := fun _ _ u hp => Ex.cons (h u (Ex.nil hp))
theorem Here.same {x : Str} {b : B} {ρ' : Vars} {A : Around} {env : Env} {base : Heap} {reg : Reg} {s : Shared} (H : Here W ht sc ρ obs A env base reg s) (hx : (x, b) ∈ ρ) (u : Upd ρ x b ρ') : Here W ht sc ρ' obs A env base reg s := by
  refine ⟨H.sc, H.eok, H.amb, { H.sta with keys := u.keys ▸ H.sta.keys, vars := ?_ }, H.ksh, H.fos, H.hnd⟩
  intro y c e
  rcases u.mem H.sta.keys _ _ e with ⟨rfl, rfl⟩ | ⟨_, e⟩
  · exact H.sta.vars _ _ hx
  · exact H.sta.vars _ _ e
theorem Sets.skip {x : Str} {d : PyData} (hx : (x, .sh d) ∈ ρ) : Sets W ht sc ρ obs [] x d := by
  intro Post ρ' u h A env base reg s Q E H hQ hE
  exact Ex.nil h (H.same hx u) hQ hE
theorem Set1.ifs {x : Str} {t : Expr} {ss ss' : List Stmt} {pos : Pos} {b : Bool} {d d' : PyData} (ht' : EvT W ht sc ρ obs t b) (h1 : b = true → Sets W ht sc ρ obs ss x d) (h2 : b = false → Sets W ht sc ρ obs ss' x d') : Set1 W ht sc ρ obs (.If t ss ss' pos) x (if b then d else d') := by
  intro Post ρ' u h
  cases b with
  | true => exact Ex1.ifs ht' (fun e => h1 e u h) (fun e => nomatch e)
  | false => exact Ex1.ifs ht' (fun e => nomatch e) (fun e => h2 e u h)
theorem Ex.set {st : Stmt} {rest : List Stmt} {x : Str} {d : PyData} {ρ' : Vars} (h : Set1 W ht sc ρ obs st x d) (u : Upd ρ x (.sh d) ρ') (hr : Ex W ht sc ρ' obs rest Post) : Ex W ht sc ρ obs (st :: rest) Post := Ex.cons (h u hr)
theorem Set1.of_eq {st : Stmt} {x : Str} {d d' : PyData} (h : Set1 W ht sc ρ obs st x d) (e : d = d') : Set1 W ht sc ρ obs st x d' := e ▸ h
end
noncomputable def swapsB (sc scope : Scope) (y : Str) (py pos : Pos) : Bool := sc.kind == .function && sc.names.lookup y == some .local && py.line == pos.line && !(scope.names.any fun (n, k) => n == y && (k == .local || k == .cell))
theorem swaps_ok {elt : Expr} {gens : List Comprehension} {sc scope : Scope} {pos py : Pos} {y : Str} {line : Nat} (h : swapsB sc scope y py pos = true) : ∀ env : Env, env.scope = sc → swapsWith (.ListComp elt gens scope pos) (some (.Name y py)) line env = pure true := by
  intro env he
  subst he
  have : swapsWith (.ListComp elt gens scope pos) (some (.Name y py)) line env = pure (env.blockKind == .function && env.kindOf y == some .local && py.line == pos.line && !(scope.names.any fun (n, k) => n == y && (k == .local || k == .cell))) := rfl
  rw [this]
  unfold swapsB at h
  have hk : env.scope.kind == .function := by
    cases hh : env.scope.kind == ScopeKind.function
    · rw [hh] at h; simp at h
    · rfl
  have e : env.blockKind = env.scope.kind := by
    unfold Env.blockKind
    rw [beq_iff_eq.mp hk]; rfl
  rw [e]
  exact congrArg pure h
theorem locOk {sc : Scope} {x : Str} (h : (sc.names.lookup x == some .local || sc.names.lookup x == some .cell) = true := by kernel_rfl) : sc.names.lookup x = some .local ∨ sc.names.lookup x = some .cell := by simpa using h
theorem Pick.of {ρ : Vars} {fs fs' : List Str} {ρf : Vars} (h : fs = fs') (p : Pick ρ fs' ρf) : Pick ρ fs ρf := h ▸ p
section
variable {W : Wrld} {ht ht' : Nat} {sc : Scope} {ρ : Vars} {obs : Obs} {Post : Out → Prop}
end
theorem entry_unchain : entryFor table "proto.unchain" = some Builtin.«proto.unchain» := entryFor_of_tree (by kernel_rfl)
structure NewX (h h' : Heap) (e : Addr) (cls : Value) (nc : Bool) : Prop where
  keeps : h.StaysIn h'
  new : h.get? e = none
  there : ∃ ob vs a0, h'.get? e = some ob ∧ ob.cls = cls ∧ ob.data = .fields vs ∧ vs[0]? = some a0 ∧ vs[1]? = some .none ∧ 2 < vs.size ∧ (nc = true → vs[2]? = some .none)
noncomputable def MayRaise (A : Around) (h : Heap) (nc : Bool) : Prop := (nc = true ∧ A.handled = none) ∨ (nc = false ∧ ∃ e oe vs, A.handled = some (.ref e) ∧ h.get? e = some oe ∧ oe.data = .fields vs ∧ vs[2]? = some .none)
section
variable {prog : Program} {w : World} {A : Around} {E : Value → Shared → Prop} {s : Shared}
theorem raiseNew_nest {α : Type} {Q : α → Shared → Prop} {e e0 : Addr} {o o0 : Obj} {vs vs0 : Array Value} (hh : A.handled = some (.ref e0)) (hne : e0 ≠ e) (g0 : s.heap.get? e0 = some o0) (d0 : o0.data = .fields vs0) (n0 : vs0[2]? = some .none)
    (g : s.heap.get? e = some o) (d : o.data = .fields vs) (hz : 2 < vs.size) (h : E (.ref e) { s with heap := s.heap.update e (Obj.mapFields (·.setIfInBounds 2 (.ref e0))) }) : wpAny (model prog w) A (raiseNew (.ref e) : Sem α) Q E s := by
  unfold raiseNew
  refine wpAny_bind (wpAny_handled ?_)
  rw [hh]
  dsimp only
  have hb : (Value.ref e0 != Value.ref e) = true := by simp [hne]
  rw [if_pos hb]
  refine wpAny_bind (wpAny_holding (wpAny_runValue (codeAny_builtin entry_unchain ?_)))
  unfold Builtin.«proto.unchain»
  refine wpAny_bind (wpAny_field g0 d0 n0 ?_)
  rw [if_pos (show (Value.none == Value.none) = true from by decide)]
  refine wpAny_pure ?_
  refine wpAny_bind ?_
  show wpAny _ A (setField (.ref e) 2 (.ref e0)) _ _ _
  refine wpAny_setField g d hz ?_
  exact wpAny_throw h
theorem raiseWords_any {α : Type} {cls msg : String} {nc : Bool} {Q : α → Shared → Prop} (hp : PlainExc cls) (hh : MayRaise A s.heap nc)
    (h : ∀ h' tk e, NewX s.heap h' e (.type cls) nc → E (.ref e) { s with heap := h', toks := tk }) : wpAny (model prog w) A (raiseErrorWords cls msg : Sem α) Q E s := by
  rcases hh with ⟨rfl, hh⟩ | ⟨rfl, e0, o0, vs0, hh, g0, d0, n0⟩
  · refine wpAny_raiseErrorWords hp hh fun h' tk e X => h h' tk e ⟨X.keeps, X.new, ?_⟩
    obtain ⟨ob, t, h1, h2, h3⟩ := X.there
    exact ⟨ob, _, t, h1, h2, h3, rfl, rfl, by simp, fun _ => rfl⟩
  · unfold raiseErrorWords
    refine wpAny_bind (wpAny_mkText (wpAny_bind ?_))
    unfold newExc newTuple
    refine wpAny_bind (wpAny_newObj_type ?_)
    refine wpAny_bind (m := firstArgMember _ _) (wpAny_of_eq (a := Value.none) (by simp only [firstArgMember, hp.first]; rfl) ?_)
    rw [hp.own]
    refine wpAny_newObj_type ?_
    have g1 : ∀ (b : Addr) (o : Obj) (p q : Obj), s.heap.get? b = some o → ((s.heap.push p).push q).get? b = some o := fun b o p q e => Heap.get?_push_of_some _ (Heap.get?_push_of_some _ e)
    have hne : e0 ≠ s.heap.objs.size + 1 := Nat.ne_of_lt (Nat.lt_succ_of_lt (Heap.lt_size g0))
    have hz : (s.heap.push { cls := Value.type "tuple", data := Data.seq [Value.str (Str.ofString msg) s.toks].toArray }).objs.size = s.heap.objs.size + 1 := Heap.size_push ..
    refine raiseNew_nest hh (by rw [Heap.size_push]; exact hne) (g1 _ _ _ _ g0) d0 n0 (Heap.get?_push_size _ rfl) rfl (by simp) ?_
    refine h _ _ _ ⟨fun b o e => ?_, Heap.get?_none_of_le (by simp), ?_⟩
    · rw [Heap.get?_update_other _ _ (by rw [Heap.size_push]; exact Nat.ne_of_gt (Nat.lt_succ_of_lt (Heap.lt_size e)))]
      exact g1 _ _ _ _ e
    · refine ⟨_, _, Value.ref s.heap.objs.size, Heap.get?_update_self _ (Heap.get?_push_size _ rfl) rfl, rfl, rfl, ?_, ?_, ?_, fun z => nomatch z⟩
      · simp
      · simp
      · simp
theorem listOut_any {l : Addr} {items : Array Value} {k : Int} {t : Tok} {nc : Bool} {Q : Value → Shared → Prop} (hA : MayRaise A s.heap nc) (hl : s.heap.IsList l items)
    (hout : (items.size : Int) ≤ k) (hhi : k < 2 ^ 63)
    (hE : ∀ h' tk e, NewX s.heap h' e (.type "IndexError") nc → E (.ref e) { s with heap := h', toks := tk }) :
    wpAny (model prog w) A (getItem (.ref l) (.int k t)) Q E s := by
  obtain ⟨o, ho, hc, ne, hd⟩ := id hl
  unfold getItem
  try with_reducible refine wpAny_holding ?_
  first | refine wpAny_bind (wpAny_pure ?_) | skip
  refine wpAny_bind (wpAny_sequenceKey hl.typeIs (by decide) ?_)
  refine wpAny_bind (wpAny_callSpecial?_slot (name := Str.ofString "__getitem__") hl.typeIs slot_list_getitem
    (wpAny_call_entry slot_list_getitem hl.typeIs entry_list_getitem ?_ (args_list_getitem _ _)))
  show wpAny _ _ (Builtin.List.listSubscript? (.int k t) >>= _) _ _ s
  refine wpAny_bind (wpAny_listSubscript_int (fitsIndex_both (by (lia -abstractProof)) hhi) ?_)
  cases k with
  | ofNat j =>
    have hx : items[j]? = none := Array.getElem?_eq_none (by have : (items.size : Int) ≤ (j : Int) := hout; (lia -abstractProof))
    show wpAny _ _ ((seqItemAt l j >>= fun r => pure (r.map (j, ·))) >>= _) _ _ s
    refine wpAny_bind (wpAny_bind (wpAny_seqItemAt ho hd (wpAny_pure ?_)))
    rw [hx]
    have hA' : MayRaise A.in1 s.heap nc := hA
    first
      | exact wpAny_bind (wpAny_rule (raiseWords_any (A := A.in1) plainExc_IndexError hA' hE))
      | exact wpAny_bind (wpAny_rule (wpAny_bind (raiseWords_any plainExc_IndexError hA' hE)))
      | exact wpAny_bind (wpAny_bind (wpAny_rule (raiseWords_any plainExc_IndexError hA' hE)))
      | exact wpAny_rule (raiseWords_any plainExc_IndexError hA' hE)
  | negSucc j => exact absurd hout (by have := Int.negSucc_lt_zero j; (lia -abstractProof))
end
section
variable {W : Wrld} {ht : Nat} {sc : Scope} {ρ : Vars} {obs : Obs} {Post : Out → Prop} {A : Around} {env : Env} {base : Heap} {reg : Reg} {s : Shared}
noncomputable def Wrld.Rs (W : Wrld) : Prop := W.calm = true ∨ (W.calm = false ∧ ∃ c, W.nest = some c)
theorem Here.mayRaise (H : Here W ht sc ρ obs A env base reg s) (hw : W.Rs) : MayRaise A s.heap W.calm := by
  rcases hw with h | ⟨h, c, h'⟩
  · exact .inl ⟨h, H.amb.handled h⟩
  · obtain ⟨e, h1, oe, vs, a0, T, oT, ts, fl, q1, q2, q3, q4, q5, q6, _⟩ := H.hnd c h'
    exact .inr ⟨h, e, oe, vs, h1, q2, q4, q6⟩
theorem Here.newX {h' : Heap} {tk : Nat} {e : Addr} {cls : Value} {nc : Bool} {d : PyData} (H : Here W ht sc ρ obs A env base reg s) (X : NewX s.heap h' e cls nc) :
    ∃ reg', Here W ht sc ρ obs A env base reg' { s with heap := h', toks := tk } ∧ Step reg s reg' { s with heap := h', toks := tk } ∧ ExAt reg' h' ⟨cls, d, nc, false⟩ (.ref e) := by
  obtain ⟨ob, vs, a0, h1, h2, h3, h4, h5, h6, h7⟩ := X.there
  have x : Ext (Loose reg) s { s with heap := h', toks := tk } := Ext.of X.keeps
  refine ⟨Mine.claim reg (· = e) .ob, H.claim x (fun a q => by rw [q]; exact X.new) (fun a (q : a = e) => by subst q; exact ⟨ob, h1⟩), Step.claim x (fun a q => by rw [q]; exact X.new), ?_⟩
  exact ⟨e, ob, vs, a0, rfl, claim_new rfl, h1, h2, h3, h4, (fun z => nomatch z), h7, h6, .inl h5⟩
theorem EvX.item_out {v i : Expr} {pos : Pos} {xs : List PyData} {k : Int} {d : PyData} (hv : Ev W ht sc ρ obs v (.list xs)) (hi : Ev W ht sc ρ obs i (.int k)) (h0 : (xs.length : Int) ≤ k) (hfit : k < 2 ^ 63) (hw : W.Rs)
    (hs : NoSlice i := by intro _ _; rfl) : EvX W ht sc ρ obs (.Subscript v i pos) ⟨.type "IndexError", d, W.calm, false⟩ := by
  intro A env base reg s Q E H hE
  refine Subscript_ (hv H fun s₁ v₁ x₁ r₁ => hi (H.ext x₁) fun s₂ v₂ x₂ r₂ => ?_)
  obtain ⟨t, rfl⟩ := r₂
  obtain ⟨a, vs, n, rfl, p, g, r⟩ := Rl.ext x₂ r₁
  have hl : s₂.heap.IsList a vs := ⟨_, g, rfl, n, rfl⟩
  have hz : vs.size = xs.length := by simpa using r.length
  have H₂ := (H.ext x₁).ext x₂
  refine tail_any hl.typeIs slot_list_getitem.lookup (listOut_any (H₂.mayRaise hw) hl (by (lia -abstractProof)) hfit fun h' tk e X => ?_) (hs _ _)
  obtain ⟨reg', H', st, ex⟩ := H₂.newX (tk := tk) (d := d) X
  exact hE _ reg' _ ((Step.ext (x₁.trans x₂)).trans st) H' ex
theorem EvTX.cmpL {l r : Expr} {op : CmpOp} {pos : Pos} {x : XD} (h : EvX W ht sc ρ obs l x) (hm : behindInMarks op r = false := by with_unfolding_all rfl) : EvTX W ht sc ρ obs (.Compare l [op] [r] pos) x := by
  intro A env base reg s Q E H hE
  refine wpAny_isTrue_Compare1 ?_ hm
  exact h H hE
theorem Ex1.assignX {ts : Expr} {pos : Pos} {e : Expr} {x : XD} (he : EvX W ht sc ρ obs e x) (h : Post (.ex x ρ)) (hs : ∀ env : Env, env.scope = sc → swapsWith e (some ts) pos.line env = pure false := by intro _ _; rfl) {nm : Str} {p : Pos} (ht' : ts = .Name nm p := by rfl) :
    Ex1 W ht sc ρ obs (.Assign [ts] e pos) Post := by
  subst ht'
  intro A env base reg s Q E H hQ hE
  exact wpAny_Assign_Name (he H fun s' reg' v st H' X => hE x ρ v s' reg' h st H' X) (hs env H.sc)
end
noncomputable def Wrld.off (W : Wrld) (n : Option Value) : Wrld := { W with calm := false, nest := n }
section
variable {W : Wrld} {ht : Nat} {sc : Scope} {ρ ρ' : Vars} {obs : Obs} {Post : Out → Prop} {A : Around} {env : Env} {base : Heap} {reg reg' : Reg} {s s' : Shared}
theorem Wrld.Good.off {n : Option Value} (g : W.Good) : (W.off n).Good := ⟨g.k, g.g, g.b, g.nolim, g.nodig⟩
theorem Wrld.Good.on {n : Option Value} (g : (W.off n).Good) : W.Good := ⟨g.k, g.g, g.b, g.nolim, g.nodig⟩
theorem Here.mark {v : Value} {n : Option Value} (H : Here W ht sc ρ obs A env base reg s) (hn : ∀ c, n = some c → ∃ e, v = .ref e ∧ Exc reg s.heap c e) : Here (W.off n) ht sc ρ obs (A.mark (some v)) env base reg s :=
  ⟨H.sc, H.eok, ⟨⟨H.amb.ok.good.off, H.amb.ok.stays⟩, (fun z => nomatch z), H.amb.depth, H.amb.units, H.amb.frames⟩, H.sta, H.ksh, H.fos, fun c e => by
    obtain ⟨e, rfl, X⟩ := hn c e
    exact ⟨e, rfl, X⟩⟩
theorem Here.unmark {v : Value} {n : Option Value} (hh : W.calm = true → A.handled = none) (hn : W.nest = none) (H : Here (W.off n) ht sc ρ obs (A.mark (some v)) env base reg s) : Here W ht sc ρ obs A env base reg s :=
  ⟨H.sc, H.eok, ⟨⟨H.amb.ok.good.on, H.amb.ok.stays⟩, hh, H.amb.depth, H.amb.units, H.amb.frames⟩, H.sta, H.ksh, H.fos, fun c e => by rw [hn] at e; contradiction⟩
theorem OutAt.unmark {v : Value} {n : Option Value} {o : Out} {f : Flow} (hh : W.calm = true → A.handled = none) (hn : W.nest = none) (h : OutAt (W.off n) ht sc obs (A.mark (some v)) env base reg s o f) : OutAt W ht sc obs A env base reg s o f := by
  cases o <;> cases f <;> first | exact h.elim | exact Here.unmark hh hn h | exact ⟨h.1, Here.unmark hh hn h.2⟩
theorem ExTr.ext {x : XD} {v : Value} (X : ExTr reg s.heap x v) (k : Ext (Loose reg) s s') : ExTr reg s'.heap x v := by
  obtain ⟨e, oe, vs, a0, T, oT, ts, fl, h1, h2, h3, h4, h5, h6, h7, hn, hz, h8, h9, h10, h11, h12, h13⟩ := X
  exact ⟨e, oe, vs, a0, T, oT, ts, fl, h1, h2, k.exact (not_loose h2) h3, h4, h5, h6, h7.mono fun a o q g => ⟨k.exact (not_loose q) g, q⟩, hn, hz, h8, h9, h10, k.exact (not_loose h9) h11, h12, h13⟩
theorem ExTr.exc {x : XD} {v : Value} {h : Heap} (X : ExTr reg h x v) (hn : x.nc = true) : ∃ e, v = .ref e ∧ Exc reg h x.cls e := by
  obtain ⟨e, oe, vs, a0, T, oT, ts, fl, h1, h2, h3, h4, h5, h6, h7, hnc, hz, h8, h9, h10, h11, h12, h13⟩ := X
  exact ⟨e, h1, oe, vs, a0, T, oT, ts, fl, h2, h3, h4, h5, h6, hnc hn, h8, h9, h10, h11, h12, h13⟩
theorem Exc.tr {x : XD} {e : Addr} {h : Heap} (X : Exc reg h x.cls e) (har : x.ar = false) : ExTr reg h x (.ref e) := by
  obtain ⟨oe, vs, a0, T, oT, ts, fl, h1, h2, h3, h4, h5, h6, h7, h8, h9, h10, h11, h12⟩ := X
  exact ⟨e, oe, vs, a0, T, oT, ts, fl, rfl, h1, h2, h3, h4, h5, (fun z => by rw [har] at z; contradiction), fun _ => h6, (Array.getElem?_eq_some_iff.mp h6).1, h7, h8, h9, h10, h11, h12⟩
theorem passOn_any {α : Type} {x : XD} {v : Value} {what : String} {Q : α → Shared → Prop} {E : Value → Shared → Prop} (H : Here W ht sc ρ obs A env base reg s) (X : ExTr reg s.heap x v)
    (hE : ∀ s', Here W ht sc ρ obs A env base reg s' → Step reg s reg s' → ExTr reg s'.heap x v → E v s') : wpAny W.M A (PySem.passOn what v env : Sem α) Q E s := by
  have X' := X
  obtain ⟨e, oe, vs, a0, T, oT, ts, fl, rfl, h2, h3, h4, h5, h6, h7, hnc, hz, h8, h9, h10, h11, h12, h13⟩ := X'
  unfold PySem.passOn
  refine wpAny_bind (wpAny_field h3 h5 h8 ?_)
  rw [if_neg (by simp)]
  exact wpAny_bind (setFlight_any H X fun s' H' st X'' => wpAny_throw (hE s' H' st X''))
noncomputable def EvV (W : Wrld) (ht : Nat) (sc : Scope) (ρ : Vars) (obs : Obs) (e : Expr) (c : Value) : Prop :=
  ∀ ⦃A : Around⦄ ⦃env : Env⦄ ⦃base : Heap⦄ ⦃reg : Reg⦄ ⦃s : Shared⦄ ⦃Q : Value → Shared → Prop⦄ ⦃E : Value → Shared → Prop⦄, Here W ht sc ρ obs A env base reg s →
    (∀ s', Ext (Loose reg) s s' → Q c s') → wpAny W.M A (eval e env) Q E s
theorem EvV.builtin {x : Str} {p : Pos} {v : Value} (hx : sc.names.lookup x = some .globalImplicit) (hm : W.G x = none) (hv : bootBuiltins x = some v) (hn : x ≠ "__name__" := by decide) (hd : (x == ("__debug__" : Str)) = false := by decide) :
    EvV W ht sc ρ obs (.Name x p) v := fun _ _ _ _ _ _ _ H hQ => name_builtin H hx hm hv (hQ _ (Ext.refl _)) hn hd
theorem EvV.global {x : Str} {p : Pos} {v : Value} (hx : sc.names.lookup x = some .globalImplicit) (hv : W.G x = some v) (hd : (x == ("__debug__" : Str)) = false := by decide) :
    EvV W ht sc ρ obs (.Name x p) v := fun _ _ _ _ _ _ _ H hQ => name_global H hx hv (hQ _ (Ext.refl _)) hd
noncomputable def Mtch (W : Wrld) (cls c : Value) (b : Bool) : Prop :=
  ∀ ⦃A : Around⦄ ⦃s : Shared⦄ ⦃e : Addr⦄ ⦃o : Obj⦄ ⦃Q : Bool → Shared → Prop⦄ ⦃E : Value → Shared → Prop⦄, W.Ok s.heap → s.heap.get? e = some o → o.cls = cls → Q b s → wpAny W.M A (excMatches (.ref e) c) Q E s
theorem Mtch.types {X T : String} {b : Bool} (hexc : isSubtype (.type T) (.type "BaseException") = pure true) (hnt : isSubtype (.type ((Manifest.find? T).elim "type" fun x => x.metatype)) (.type "tuple") = pure false)
    (hsub : isSubtype (.type X) (.type T) = pure b) : Mtch W (.type X) (.type T) b := by
  intro A s e o Q E ok g hc h
  exact wpAny_excMatches_type ⟨o, g, hc⟩ hexc hnt hsub h
theorem Mtch.B {X T : String} {b : Bool} (h1 : subB T (.type "BaseException") = some true := by decide +kernel) (h2 : subB ((Manifest.find? T).elim "type" fun x => x.metatype) (.type "tuple") = some false := by decide +kernel)
    (h3 : subB X (.type T) = some b := by decide +kernel) : Mtch W (.type X) (.type T) b := Mtch.types (isSubtype_of_subB h1) (isSubtype_of_subB h2) (isSubtype_of_subB h3)
noncomputable def nestOf (x : XD) : Option Value := if x.nc then some x.cls else none
noncomputable def TryP (W : Wrld) (ht : Nat) (sc : Scope) (obs : Obs) (c : Value) (suite : List Stmt) (Post : Out → Prop) : Out → Prop
  | .ex x ρ' => ∃ b, Mtch W x.cls c b ∧ (b = true → Ex (W.off (nestOf x)) ht sc ρ' obs suite Post) ∧ (b = false → Post (.ex x ρ'))
  | o => Post o
theorem suite_err {v : Value} {n : Option Value} {E : Value → Shared → Prop} (hh : W.calm = true → A.handled = none) (hn : W.nest = none) (hE : EOk W ht sc obs A env base reg s Post E) :
    EOk (W.off n) ht sc obs (A.mark (some v)) env base reg s Post (notedBy W.M (A.mark (some v)) env (cameBackBy W.M A env E)) := by
  intro x ρ' u s₁ reg₁ ho st₁ H₁ X₁
  unfold notedBy
  exact note_any (W := W.off n) H₁ X₁ fun s₂ reg₂ H₂ st₂ X₂ => cameBack_any (Here.unmark hh hn H₂) X₂ fun s₃ H₃ st₃ X₃ => hE x ρ' u s₃ reg₂ ho (st₁.trans (st₂.trans st₃)) H₃ X₃.at
theorem Ex1.try1 {body suite : List Stmt} {b₀ : Stmt} {t : Expr} {hpos pos : Pos} {c : Value} (hb : Ex W ht sc ρ obs body (TryP W ht sc obs c (b₀ :: suite) Post)) (htst : ∀ n ρ', EvV (W.off n) ht sc ρ' obs t c) (hn : W.nest = none := by rfl) :
    Ex1 W ht sc ρ obs (.Try body [.ExceptHandler (some t) none (b₀ :: suite) hpos] [] [] pos) Post := by
  intro A env base reg s Q E H hQ hE
  refine wpAny_Try_except (hb H (fun o f s' reg' ho st oa => ?_) fun x ρ' v s₁ reg₁ ho st₁ H₁ X₁ => ?_)
  · cases o with
    | nx ρ' =>
      cases f with
      | next => exact wpAny_execs_nil (hQ _ _ _ _ ho st oa)
      | _ => exact oa.elim
    | br ρ' => cases f <;> first | exact oa.elim | exact hQ _ _ _ _ ho st oa
    | ct ρ' => cases f <;> first | exact oa.elim | exact hQ _ _ _ _ ho st oa
    | rt d ρ' => cases f <;> first | exact oa.elim | exact hQ _ _ _ _ ho st oa
    | ro d ρ' => cases f <;> first | exact oa.elim | exact hQ _ _ _ _ ho st oa
    | ex x ρ' => cases f <;> exact oa.elim
  · refine note_any H₁ X₁ fun s₂ reg₂ H₂ st₂ X₂ => setFlight_any H₂ X₂ fun s₃ H₃ st₃ X₃ => ?_
    obtain ⟨b, hm, h1, h2⟩ := ho
    have X₃' := X₃
    obtain ⟨e, oe, _, _, _, _, _, _, rfl, re, ge, hcl, _⟩ := X₃'
    have hh := H.amb.handled
    have mk : ∀ {t}, ExTr reg₂ t x (.ref e) → ∀ c, nestOf x = some c → ∃ e', Value.ref e = .ref e' ∧ Exc reg₂ t c e' := fun X c q => by
      unfold nestOf at q
      split at q
      · rename_i z; cases q; exact X.exc z
      · contradiction
    have HM := H₃.mark (n := nestOf x) (v := .ref e) (mk X₃)
    have st := st₁.trans (st₂.trans st₃)
    refine wpAny_handleBy_cons (codeAny_handlers_test (htst _ _ HM fun s₄ x₄ => ?_)) (by intro q; contradiction)
    have X₄ := X₃.ext x₄
    have H₄ := HM.ext x₄
    refine hm (Here.unmark hh hn H₄).ok (x₄.exact (not_loose re) ge) hcl ?_
    cases b with
    | true =>
      refine codeAny_handlers_suite (setFlight_any (W := W.off (nestOf x)) H₄ X₄ fun s₅ H₅ st₅ X₅ => ?_)
      refine h1 rfl H₅ (fun o f s' reg' ho st' oa => ?_) (suite_err hh hn (hE.step (st.trans ((Step.ext x₄).trans st₅))))
      exact hQ o f s' reg' ho ((st.trans ((Step.ext x₄).trans st₅)).trans st') (oa.unmark hh hn)
    | false =>
      refine wpAny_handleBy_nil (passOn_any (Here.unmark hh hn H₄) X₄ fun s₅ H₅ st₅ X₅ => ?_)
      exact hE x ρ' _ s₅ reg₂ (h2 rfl) (st.trans ((Step.ext x₄).trans st₅)) H₅ X₅.at
noncomputable def FinX (Post : Out → Prop) (x : XD) : Out → Prop
  | .nx ρ => Post (.ex x ρ)
  | o => Post o
noncomputable def FinP (W : Wrld) (ht : Nat) (sc : Scope) (obs : Obs) (final : List Stmt) (Post : Out → Prop) : Out → Prop
  | .nx ρ => Ex W ht sc ρ obs final Post
  | .ex x ρ => x.nc = true ∧ x.ar = false ∧ Ex (W.off (some x.cls)) ht sc ρ obs final (FinX Post x)
  | _ => False
theorem Ex1.tryf {body fs : List Stmt} {f₀ : Stmt} {pos : Pos} (hb : Ex W ht sc ρ obs body (FinP W ht sc obs (f₀ :: fs) Post)) (hn : W.nest = none := by rfl) : Ex1 W ht sc ρ obs (.Try body [] [] (f₀ :: fs) pos) Post := by
  intro A env base reg s Q E H hQ hE
  have hh := H.amb.handled
  refine wpAny_Try_finally (hb H (fun o f s' reg' ho st oa => ?_) fun x ρ' v s₁ reg₁ ho st₁ H₁ X₁ => ?_)
  · cases o with
    | nx ρ' =>
      cases f with
      | next =>
        refine wpAny_execs_nil ?_
        refine ho oa (fun o g s'' reg'' ho' st' oa' => ?_) (fun x ρ'' u s₂ reg₂ ho' st₂ H₂ X₂ => noted_any H₂ X₂ (hE.step (st.trans st₂)) ho')
        have := hQ o g s'' reg'' ho' (st.trans st') oa'
        cases g <;> exact this
      | _ => exact oa.elim
    | ex x ρ' => cases f <;> exact oa.elim
    | _ => exact ho.elim
  · obtain ⟨hnc, har, ho⟩ := ho
    refine note_any H₁ X₁ fun s₂ reg₂ H₂ st₂ X₂ => ?_
    have hb : v ≠ byPass := by obtain ⟨e, _, _, _, _, _, _, _, rfl, _⟩ := X₂; exact ref_ne_byPass e
    refine ⟨hb, note_any H₂ X₂.at fun s₃ reg₃ H₃ st₃ X₃ => setFlight_any H₃ X₃ fun s₄ H₄ st₄ X₄ => ?_⟩
    have st := st₁.trans (st₂.trans (st₃.trans st₄))
    obtain ⟨e, rfl, Xe⟩ := X₄.exc hnc
    have HM := H₄.mark (n := some x.cls) (v := .ref e) (fun c q => by cases q; exact ⟨e, rfl, Xe⟩)
    have last : ∀ {ρ'' : Vars} {reg' : Reg} {s' : Shared}, Here (W.off (some x.cls)) ht sc ρ'' obs (A.mark (some (.ref e))) env base reg' s' → ExTr reg' s'.heap x (.ref e) := fun H' => by
      obtain ⟨e', q, X'⟩ := H'.hnd x.cls rfl
      cases (show (some (Value.ref e)).or A.handled = some (.ref e') from q)
      exact X'.tr har
    refine ho HM (fun o g s' reg' ho' st' oa => ?_) (suite_err hh hn fun y ρ'' u s₅ reg₅ hy st₅ H₅ X₅ => hE y ρ'' u s₅ reg₅ hy (st.trans st₅) H₅ X₅)
    have st5 := st.trans st'
    cases o with
    | nx ρ'' =>
      cases g with
      | next => exact passOn_any (Here.unmark hh hn oa) (last oa) fun s₆ H₆ st₆ X₆ => hE x ρ'' _ s₆ reg' ho' (st5.trans st₆) H₆ X₆.at
      | _ => exact oa.elim
    | br ρ'' =>
      cases g with
      | brk => exact setFlight_any (Here.unmark hh hn oa) (last oa) fun s₆ H₆ st₆ _ => hQ (.br ρ'') .brk s₆ reg' ho' (st5.trans st₆) H₆
      | _ => exact oa.elim
    | ct ρ'' =>
      cases g with
      | cont => exact setFlight_any (Here.unmark hh hn oa) (last oa) fun s₆ H₆ st₆ _ => hQ (.ct ρ'') .cont s₆ reg' ho' (st5.trans st₆) H₆
      | _ => exact oa.elim
    | ro a ρ'' =>
      cases g with
      | ret u => exact setFlight_any (Here.unmark hh hn oa.2) (last oa.2) fun s₆ H₆ st₆ _ => hQ (.ro a ρ'') (.ret u) s₆ reg' ho' (st5.trans st₆) ⟨oa.1, H₆⟩
      | _ => exact oa.elim
    | rt d ρ'' =>
      cases g with
      | ret u =>
        refine setFlight_any (Here.unmark hh hn oa.2) (last oa.2) fun s₆ H₆ st₆ _ => hQ (.rt d ρ'') (.ret u) s₆ reg' ho' (st5.trans st₆) ⟨?_, H₆⟩
        exact Rl.mono (fun a o q g => st₆.exact g (.inl q) |>.imp id fun z => z.trans q) d u oa.1
      | _ => exact oa.elim
    | ex y ρ'' => cases g <;> exact oa.elim
end
section
variable {W : Wrld} {ht : Nat} {sc : Scope} {ρ ρ' : Vars} {obs : Obs} {Post : Out → Prop}
theorem Ex1.assign2 {x y : Str} {p q pos : Pos} {e : Expr} {d : PyData} {ρ'' : Vars} (hk : sc.names.lookup x = some .local ∨ sc.names.lookup x = some .cell) (hk' : sc.names.lookup y = some .local ∨ sc.names.lookup y = some .cell) (he : Ev W ht sc ρ obs e d)
    (u : Upd ρ x (.sh d) ρ') (u' : Upd ρ' y (.sh d) ρ'') (h : Post (.nx ρ'')) (hw : ∀ env : Env, swappedStores [.Name x p, .Name y q] e env = pure none := by intro _; rfl) : Ex1 W ht sc ρ obs (.Assign [.Name x p, .Name y q] e pos) Post := by
  intro A env base reg s Q E H hQ hE
  refine wpAny_Assign_two (he H fun s₁ v x₁ r => wpAny_assign_Name (store_var (b := .sh d) (H.ext x₁) hk r u fun s₂ H₂ st => ?_)) (hw := hw env)
  refine wpAny_assign_Name (store_var (b := .sh d) H₂ hk' (Rl.mono (fun a o q g => st.exact g (.inl q) |>.imp id fun z => z.trans q) _ _ r) u' fun s₃ H₃ st₃ => hQ _ _ _ reg h ((Step.ext x₁).trans (st.trans st₃)) H₃)
theorem Ex1.aug_add {x : Str} {p pos : Pos} {e : Expr} {a b : Int} (hx : (x, .sh (.int a)) ∈ ρ) (hk : sc.names.lookup x = some .local ∨ sc.names.lookup x = some .cell) (he : Ev W ht sc ρ obs e (.int b)) (u : Upd ρ x (.sh (.int (a + b))) ρ') (h : Post (.nx ρ'))
    (hn : (x == ("__classdict__" : Str)) = false := by decide) : Ex1 W ht sc ρ obs (.AugAssign (.Name x p) .Add e pos) Post := by
  intro A env base reg s Q E H hQ hE
  obtain ⟨v, V, t, rfl⟩ := H.at hx
  refine wpAny_AugAssign_Name (V.load H.eok.kind (he H fun s₁ v x₁ r => ?_) hn)
  obtain ⟨t', rfl⟩ := r
  refine wpAny_iadd_int ?_
  have x₂ : Ext (Loose reg) s₁ { s₁ with toks := s₁.toks + 1 } := Ext.tok _ _
  exact store_var (b := .sh (.int (a + b))) ((H.ext x₁).ext x₂) hk ⟨_, rfl⟩ u fun s₂ H₂ st => hQ _ _ _ reg h ((Step.ext (x₁.trans x₂)).trans st) H₂
theorem Ev.from {v i : Expr} {p pos : Pos} {xs : List PyData} {k : Nat} (hv : Ev W ht sc ρ obs v (.list xs)) (hi : Ev W ht sc ρ obs i (.int k)) (hz : xs.length ≤ sizeLine) (htmp : ∀ o r, letTemporaryGo v o r = pure () := by intro _ _; rfl) :
    Ev W ht sc ρ obs (.Subscript v (.Slice (some i) none none p) pos) (.list (xs.drop k)) := by
  intro A env base reg s Q E H hQ
  refine wpAny_Subscript_Slice list_getitem_lookup (hv H fun s₁ v₁ x₁ r₁ => wpAny_Slice ?_) htmp
  rw [evalPart_some]
  refine hi (H.ext x₁) fun s₂ v₂ x₂ r₂ => ?_
  rw [evalPart_none]
  refine wpAny_pure (wpAny_pure ?_)
  obtain ⟨t, rfl⟩ := r₂
  obtain ⟨a, vs, n, rfl, q, g, r⟩ := Rl.ext x₂ r₁
  have hl : s₂.heap.IsList a vs := ⟨_, g, rfl, n, rfl⟩
  have hlen : vs.size = xs.length := by simpa using r.length
  have x₃ : Ext (Loose reg) s₂ { s₂ with heap := s₂.heap.push { cls := .type "slice", data := .fields #[Value.int (k : Int) t, .none, .none] }, toks := s₂.toks } := Ext.push _ _ _
  refine ⟨(hl.push _).typeIs, wpAny_getItem_list_slice (hl.push _) (Heap.IsSliceOf.new ..) (.int _ _) .none .none (by simp) ?_ (by (lia -abstractProof))⟩
  have H₃ := ((H.ext x₁).ext x₂).ext x₃
  generalize hS : s₂.heap.push { cls := .type "slice", data := .fields #[Value.int (k : Int) t, .none, .none] } = hp at x₃ H₃ ⊢
  rw [slicePick_from']
  have x₄ : Ext (Loose reg) { s₂ with heap := hp, toks := s₂.toks } { s₂ with heap := hp.push { cls := .type "list", data := .seq (vs.toList.drop k).toArray }, toks := s₂.toks } := Ext.push _ _ _
  refine hQ _ _ (((x₁.trans x₂).trans x₃).trans x₄) ⟨_, _, 0, rfl, H₃.sta.high _ (fresh_none _), Heap.get?_push_size _ rfl, ?_⟩
  have key : ∀ (j : Nat) {ys : List PyData} {us : List Value}, RlAll s₂.heap (Sh reg) ys us → RlAll s₂.heap (Sh reg) (ys.drop j) (us.drop j) := by
    intro j
    induction j with
    | zero => intro _ _ r; exact r
    | succ j ih =>
      intro ys us r
      cases ys with
      | nil => cases r; rw [List.drop_nil, List.drop_nil]; rfl
      | cons y ys => obtain ⟨u, us', rfl, _, rs⟩ := r; exact ih rs
  exact ((key k r).ext x₃).ext x₄
theorem Ex1.extend {x : Str} {p apos pos pos' : Pos} {e : Expr} {xs ys : List PyData} (hx : (x, .l1 xs) ∈ ρ) (he : Ev W ht sc ρ obs e (.list ys)) (hz : xs.length + ys.length ≤ sizeLine) (u' : Upd ρ x (.l1 (xs ++ ys)) ρ') (h : Post (.nx ρ'))
    (hline : (apos.endLine == pos.line) = true := by rfl) (hp : Plain e := by intro _ _; rfl) (hn : (x == ("__classdict__" : Str)) = false := by decide) (hd : (x == ("__debug__" : Str)) = false := by decide) :
    Ex1 W ht sc ρ obs (.Expr (.Call (.Attribute (.Name x p) "extend" apos) [e] [] pos) pos') Post := by
  intro A env base reg s Q E H hQ hE
  have e1 : backTo pos (starEach [e] env) = [(false, eval e env)] := by rw [hp env []]; rfl
  obtain ⟨v, V, a, vs, rfl, ra, pl, r⟩ := H.at hx
  have hi : interactive env = false := by unfold interactive; rw [H.eok.kind]; rfl
  refine wpAny_Expr_any (wpAny_Call_method1_late rfl hline e1 (name_var H V ?_ hn hd)) hi rfl
  obtain ⟨n, g⟩ := pl
  refine ⟨"list", "list.extend", PySem.F.plainAttrs_list, PySem.F.slot_list_extend, PySem.F.type_list_extend, ⟨_, g, rfl⟩, fun b e => by cases e; exact ⟨_, g, rfl⟩, ?_⟩
  refine callWith_builtin rfl (evalArgs_plain (spliced_cons (he H fun s₁ v₁ x₁ r₁ => spliced_nil ?_)))
  obtain ⟨b, us, n', rfl, pb, gb, rb⟩ := r₁
  have g₁ := x₁.exact (not_loose ra) g
  have z1 : vs.size = xs.length := by simpa using r.length
  have z2 : us.size = ys.length := by simpa using rb.length
  have hz' : vs.size + us.size ≤ sizeLine := by (lia -abstractProof)
  refine call_meets PySem.F.slot_list_extend ⟨_, g₁, rfl⟩ PySem.F.entry_list_extend (PySem.F.args_list_extend_2 _ _) (AutoSeq1.list_extend_list_list_0 a vs n b us n' (extend_door hz') (Nat.le_trans (Nat.le_add_right _ _) hz') (Nat.le_succ_of_le hz')) ⟨g₁, gb, ?_⟩
  have ho' : (s₁.heap.update a (Obj.mapSeq fun x => x ++ us)).get? a = some { cls := .type "list", data := .seq (vs ++ us) (if (vs ++ us).size == vs.size then n else n + 1) } := by
    rw [Heap.get?_update_self _ g₁ (by rw [mapSeq_app]; rfl), mapSeq_app]
  have sb : Heap.SameBut a s₁.heap (s₁.heap.update a (Obj.mapSeq fun x => x ++ us)) := Heap.SameBut.update ..
  have up : ∀ c o, Sh reg c → s₁.heap.get? c = some o → (s₁.heap.update a (Obj.mapSeq fun x => x ++ us)).get? c = some o ∧ Sh reg c := fun c o q g => ⟨sb.extBut c o (by rintro rfl; rw [show reg c = .sh from q] at ra; contradiction) g, q⟩
  obtain ⟨H', st⟩ := (H.ext x₁).mut (tk := s₁.toks) (b' := .l1 (xs ++ ys)) (V.slk x₁.slk) ra sb ⟨_, ho'⟩ ⟨a, vs ++ us, rfl, ra, ⟨_, ho'⟩, by
    rw [Array.toList_append]
    exact RlAll.append (RlAll.mono up _ _ (r.ext x₁)) (RlAll.mono up _ _ rb)⟩ u'
  exact hQ _ _ _ reg h ((Step.ext x₁).trans st) H'
noncomputable def EvTX2 (W : Wrld) (ht : Nat) (sc : Scope) (ρ : Vars) (obs : Obs) (e : Expr) (x : XD) (ρ' : Vars) : Prop :=
  ∀ ⦃A : Around⦄ ⦃env : Env⦄ ⦃base : Heap⦄ ⦃reg : Reg⦄ ⦃s : Shared⦄ ⦃Q : Bool → Shared → Prop⦄ ⦃E : Value → Shared → Prop⦄, Here W ht sc ρ obs A env base reg s →
    (∀ s' reg' v, Step reg s reg' s' → Here W ht sc ρ' obs A env base reg' s' → ExAt reg' s'.heap x v → E v s') → wpAny W.M A (isTrue e env (eval e env)) Q E s
theorem Ex1.while2 {test : Expr} {body orelse : List Stmt} {pos : Pos} (Inv : Nat → Vars → Prop) (n : Nat) (h0 : Inv n ρ)
    (turn : ∀ n ρ', Inv n ρ' → (∃ b, EvT W ht sc ρ' obs test b ∧ (b = true → Ex W ht sc ρ' obs body (Turn (fun ρ'' => ∃ m, m < n ∧ Inv m ρ'') Post)) ∧ (b = false → Ex W ht sc ρ' obs orelse Post)) ∨
      ∃ x ρ'', EvTX2 W ht sc ρ' obs test x ρ'' ∧ Post (.ex x ρ'')) :
    Ex1 W ht sc ρ obs (.While test body orelse pos) Post := by
  intro A env base reg s Q E H hQ hE
  refine wpAny_While (codeAny_whileLoop (fun n s' => ∃ ρ' reg', Inv n ρ' ∧ Here W ht sc ρ' obs A env base reg' s' ∧ Step reg s reg' s') ?_ n ⟨ρ, reg, h0, H, Step.refl _ _⟩)
  rintro n s' ⟨ρ', reg', hi, H', st⟩
  have err : ∀ {r₁ : Reg} {t₁ : Shared}, Step reg s r₁ t₁ → EOk W ht sc obs A env base r₁ t₁ Post (notedBy W.M A env fun e s' => cameBackBy W.M A env E e s') := fun st₁ x ρ'' v' s₄ reg₄ ho st₄ H₄ X₄ => noted_any H₄ X₄ (hE.step (st₁.trans st₄)) ho
  rcases turn n ρ' hi with ⟨b, hb, h1, h2⟩ | ⟨x, ρ'', hx, hp⟩
  · refine hb H' fun s₁ x₁ => ?_
    have st1 := st.trans (Step.ext x₁)
    cases b with
    | true =>
      simp only [if_true]
      refine h1 rfl (H'.ext x₁) (fun o f s₂ reg₂ ho st₂ oa => ?_) (EOk.mono (Post' := Turn (fun ρ'' => ∃ m, m < n ∧ Inv m ρ'') Post) (fun x ρ'' v' s₄ reg₄ ho st₄ H₄ X₄ => err st1 x ρ'' v' s₄ reg₄ ho st₄ H₄ X₄) fun _ h => h)
      have st' := st1.trans st₂
      cases o with
      | nx ρ'' =>
        cases f with
        | next => obtain ⟨m, hm, hinv⟩ := ho; exact ⟨m, hm, ρ'', reg₂, hinv, oa, st'⟩
        | _ => exact oa.elim
      | ct ρ'' =>
        cases f with
        | cont => obtain ⟨m, hm, hinv⟩ := ho; exact ⟨m, hm, ρ'', reg₂, hinv, oa, st'⟩
        | _ => exact oa.elim
      | br ρ'' =>
        cases f with
        | brk => exact hQ _ _ _ _ ho st' oa
        | _ => exact oa.elim
      | ro a ρ'' =>
        cases f with
        | ret v => exact hQ _ _ _ _ ho st' oa
        | _ => exact oa.elim
      | rt d ρ'' =>
        cases f with
        | ret v => exact hQ _ _ _ _ ho st' oa
        | _ => exact oa.elim
      | ex x ρ'' => cases f <;> exact oa.elim
    | false =>
      simp only [Bool.false_eq_true, if_false]
      exact h2 rfl (H'.ext x₁) (hQ.step st1) (err st1)
  · exact hx H' fun s₁ reg₁ v st₁ H₁ X₁ => err st x ρ'' v s₁ reg₁ hp st₁ H₁ X₁
theorem Ex1.whileX {σ : Type} {test : Expr} {body orelse : List Stmt} {pos : Pos} (F : σ → Vars) (P : Nat → σ → Prop) (n : Nat) (s0 : σ) (h0 : P n s0) (f0 : Fgt ρ (F s0))
    (turn : ∀ (n : Nat) s, P n s → (∃ b, EvT W ht sc (F s) obs test b ∧ (b = true → Ex W ht sc (F s) obs body (TurnS F (fun s => ∃ m, m < n ∧ P m s) Post)) ∧ (b = false → Ex W ht sc (F s) obs orelse Post)) ∨
      ∃ x, EvTX W ht sc (F s) obs test x ∧ Post (.ex x (F s))) :
    Ex1 W ht sc ρ obs (.While test body orelse pos) Post := by
  refine Ex1.while2 (fun n ρ' => ∃ s, P n s ∧ Fgt ρ' (F s)) n ⟨s0, h0, f0⟩ ?_
  rintro n ρ' ⟨s, hs, f⟩
  rcases turn n s hs with ⟨b, h1, h2, h3⟩ | ⟨x, h1, h2⟩
  · refine .inl ⟨b, h1.fgt f, fun e => ((h2 e).fgt f).mono fun o ho => ?_, fun e => (h3 e).fgt f⟩
    cases o with
    | nx ρ => obtain ⟨s, ⟨m, a, b⟩, c⟩ := ho; exact ⟨m, a, s, b, c⟩
    | ct ρ => obtain ⟨s, ⟨m, a, b⟩, c⟩ := ho; exact ⟨m, a, s, b, c⟩
    | br ρ => exact ho
    | rt d ρ => exact ho
    | ro a ρ => exact ho
    | ex x ρ => exact ho
  · exact .inr ⟨x, F s, fun A env base reg s Q E H hE => h1 (H.fgt f) hE, h2⟩
end
inductive VD where
  | none
  | int (i : Int)
  | ref (a : Addr)
noncomputable def VRel : VD → Value → Prop
  | .none, v => v = .none
  | .int i, v => ∃ t, v = .int i t
  | .ref a, v => v = .ref a
inductive All2 {α β : Type} (R : α → β → Prop) : List α → List β → Prop
  | nil : All2 R [] []
  | cons {a : α} {b : β} {as : List α} {bs : List β} : R a b → All2 R as bs → All2 R (a :: as) (b :: bs)
section
variable {α β : Type} {R : α → β → Prop}
theorem All2.length {as : List α} {bs : List β} (h : All2 R as bs) : bs.length = as.length := by
  induction h with
  | nil => rfl
  | cons _ _ ih => simp [ih]
theorem All2.get {as : List α} {bs : List β} (h : All2 R as bs) : ∀ {i : Nat} {a : α}, as[i]? = some a → ∃ b, bs[i]? = some b ∧ R a b := by
  induction h with
  | nil => intro i a e; simp at e
  | cons r _ ih =>
    intro i a e
    cases i with
    | zero => simp at e; subst e; exact ⟨_, rfl, r⟩
    | succ i => simp at e ⊢; exact ih e
theorem All2.append {as as' : List α} {bs bs' : List β} (h : All2 R as bs) (h' : All2 R as' bs') : All2 R (as ++ as') (bs ++ bs') := by
  induction h with
  | nil => exact h'
  | cons r _ ih => exact .cons r ih
theorem All2.set {as : List α} {bs : List β} (h : All2 R as bs) : ∀ {i : Nat} {a : α} {b : β}, R a b → All2 R (as.set i a) (bs.set i b) := by
  induction h with
  | nil => intro _ _ _ _; exact .nil
  | cons r q ih =>
    intro i a b e
    cases i with
    | zero => exact .cons e q
    | succ i => exact .cons r (ih e)
end
inductive OD where
  | inst (C dx : Addr) (sl : List (Option VD))
  | ns (es : List (Str × VD))
  | dct (kvs : List (Int × VD))
  | lst (vs : List VD)
  | raw (o : Obj)
noncomputable def OptR : Option VD → Option Value → Prop
  | .none, v => v = .none
  | .some d, v => ∃ u, v = .some u ∧ VRel d u
noncomputable def NsR (p : Str × VD) (e : DictEntry) : Prop := (∃ t, e.key = .str p.1 t) ∧ VRel p.2 e.val
noncomputable def KvR (p : Int × VD) (e : DictEntry) : Prop := (∃ t, e.key = .int p.1 t) ∧ e.hash = hashInt p.1 ∧ VRel p.2 e.val
noncomputable def ORel : OD → Obj → Prop
  | .inst C dx sl, o => ∃ ss : Array (Option Value), o = { cls := .ref C, dict := some dx, data := .plain, slots := ss } ∧ All2 OptR sl ss.toList
  | .ns es, o => ∃ l n ss, o = { cls := .type "dict", dict := none, data := .dict l n, slots := ss } ∧ All2 NsR es l.toList
  | .dct kvs, o => ∃ l n, o = { cls := .type "dict", data := .dict l n } ∧ (kvs.map (·.1)).Nodup ∧ All2 KvR kvs l.toList
  | .lst vs, o => ∃ l n, o = { cls := .type "list", data := .seq l n } ∧ All2 VRel vs l.toList
  | .raw o', o => o = o'
noncomputable abbrev HM := Addr → Option OD
noncomputable def HM.set (m : HM) (a : Addr) (od : OD) : HM := fun b => if b = a then some od else m b
theorem HM.set_self {m : HM} {a : Addr} {od : OD} : m.set a od a = some od := if_pos rfl
theorem HM.set_ne {m : HM} {a b : Addr} {od : OD} (h : b ≠ a) : m.set a od b = m b := if_neg h
noncomputable def RM (root : Addr) (m : HM) : OwnRel where
  rel O P h v := v = .ref root ∧ ∀ a od, m a = some od → O a ∧ ∃ o, h.get? a = some o ∧ ORel od o
  mono := fun kO kP ⟨e, r⟩ => ⟨e, fun a od q => by
    obtain ⟨h1, o, h2, h3⟩ := r a od q
    exact ⟨(kO a o h1 h2).2, o, (kO a o h1 h2).1, h3⟩⟩
section
variable {W : Wrld} {ht : Nat} {sc : Scope} {ρ ρ' : Vars} {obs : Obs} {Post : Out → Prop} {A : Around} {env : Env} {base : Heap} {reg : Reg} {s s' : Shared} {x : Str} {root : Addr} {m : HM}
theorem Here.own {a : Addr} {od : OD} (H : Here W ht sc ρ obs A env base reg s) (hx : (x, .ow (RM root m)) ∈ ρ) (ha : m a = some od) : reg a = .va x ∧ ∃ o, s.heap.get? a = some o ∧ ORel od o := by
  obtain ⟨v, V, e, r⟩ := H.at hx
  exact r a od ha
theorem Here.mutO {a : Addr} {od od' : OD} {h' : Heap} {o' : Obj} {tk : Nat} (H : Here W ht sc ρ obs A env base reg s) (hx : (x, .ow (RM root m)) ∈ ρ) (ha : m a = some od) (sb : Heap.SameBut a s.heap h') (g : h'.get? a = some o') (hr : ORel od' o')
    (u : Upd ρ x (.ow (RM root (m.set a od'))) ρ') : Here W ht sc ρ' obs A env base reg { s with heap := h', toks := tk } ∧ Step reg s reg { s with heap := h', toks := tk } := by
  obtain ⟨v, V, e, r⟩ := H.at hx
  refine H.mut (b' := .ow (RM root (m.set a od'))) V (r a od ha).1 sb ⟨o', g⟩ ⟨e, fun b ob q => ?_⟩ u
  by_cases hb : b = a
  · subst hb
    rw [HM.set_self] at q; cases q
    exact ⟨(r b od ha).1, o', g, hr⟩
  · rw [HM.set_ne hb] at q
    obtain ⟨h1, o, h2, h3⟩ := r b ob q
    exact ⟨h1, o, sb.extBut b o hb h2, h3⟩
theorem Here.newO {a : Addr} {od : OD} {o : Obj} (H : Here W ht sc ρ obs A env base reg s) (hx : (x, .ow (RM root m)) ∈ ρ) (k : Ext (Loose reg) s s') (hn : s.heap.get? a = none) (g : s'.heap.get? a = some o) (hr : ORel od o)
    (u : Upd ρ x (.ow (RM root (m.set a od))) ρ') : Here W ht sc ρ' obs A env base (Mine.claim reg (· = a) (.va x)) s' ∧ Step reg s (Mine.claim reg (· = a) (.va x)) s' := by
  have H₁ := H.claim (T := (· = a)) (w := .va x) k (fun b q => by rw [q]; exact hn) (fun b (q : b = a) => by subst q; exact ⟨o, g⟩)
  refine ⟨⟨H₁.sc, H₁.eok, H₁.amb, { H₁.sta with keys := u.keys ▸ H₁.sta.keys, vars := fun y c e => ?_ }, H₁.ksh, H₁.fos, H₁.hnd⟩, Step.claim k (fun b q => by rw [q]; exact hn)⟩
  rcases u.mem H₁.sta.keys _ _ e with ⟨rfl, rfl⟩ | ⟨_, e⟩
  · obtain ⟨v, V, e, r⟩ := H₁.at hx
    refine .inr ⟨v, V, e, fun b ob q => ?_⟩
    by_cases hb : b = a
    · subst hb
      rw [HM.set_self] at q; cases q
      exact ⟨claim_new rfl, o, g, hr⟩
    · rw [HM.set_ne hb] at q
      exact r b ob q
  · exact H₁.sta.vars y c e
theorem EvV.rooted {p : Pos} (hx : (x, .ow (RM root m)) ∈ ρ) (hn : (x == ("__classdict__" : Str)) = false := by decide) (hd : (x == ("__debug__" : Str)) = false := by decide) : EvV W ht sc ρ obs (.Name x p) (.ref root) := by
  intro A env base reg s Q E H hQ
  obtain ⟨v, V, rfl, r⟩ := H.at hx
  exact name_var H V (hQ _ (Ext.refl _)) hn hd
theorem EvV.var {y : Str} {p : Pos} {a : Addr} (hx : (y, .ob a) ∈ ρ) (hn : (y == ("__classdict__" : Str)) = false := by decide) (hd : (y == ("__debug__" : Str)) = false := by decide) : EvV W ht sc ρ obs (.Name y p) (.ref a) := by
  intro A env base reg s Q E H hQ
  obtain ⟨v, V, rfl⟩ := H.at hx
  exact name_var H V (hQ _ (Ext.refl _)) hn hd
theorem Ex1.retO {e : Expr} {pos : Pos} {a : Addr} (he : EvV W ht sc ρ obs e (.ref a)) (h : Post (.ro a ρ)) : Ex1 W ht sc ρ obs (.Return (some e) pos) Post := by
  intro A env base reg s Q E H hQ hE
  exact wpAny_Return_some (he H fun s' x => hQ _ _ _ reg h (Step.ext x) ⟨rfl, H.ext x⟩)
theorem Ex1.assignO {y : Str} {p pos : Pos} {e : Expr} {a : Addr} (hk : sc.names.lookup y = some .local ∨ sc.names.lookup y = some .cell) (he : EvV W ht sc ρ obs e (.ref a)) (u : Upd ρ y (.ob a) ρ') (h : Post (.nx ρ'))
    (hs : ∀ env : Env, env.scope = sc → swapsWith e (some (.Name y p)) pos.line env = pure false := by intro _ _; rfl) : Ex1 W ht sc ρ obs (.Assign [.Name y p] e pos) Post := by
  intro A env base reg s Q E H hQ hE
  exact wpAny_Assign_Name (he H fun s₁ x₁ => store_var (b := .ob a) (H.ext x₁) hk rfl u fun s₂ H₂ st => hQ _ _ _ reg h ((Step.ext x₁).trans st) H₂) (hs env H.sc)
end
theorem ns_find : ∀ {es : List (Str × VD)} {l : List DictEntry} {name : Str}, All2 NsR es l → (∀ vd, es.lookup name = some vd → ∃ e, l.find? (·.key.isStr name) = some e ∧ VRel vd e.val) ∧ (es.lookup name = none → l.find? (·.key.isStr name) = none) ∧ l.any (·.refKey) = false := by
  intro es l name h
  induction h with
  | nil => exact ⟨fun vd e => (nomatch e), fun _ => rfl, rfl⟩
  | @cons p e es l r _ ih =>
    obtain ⟨n, d⟩ := p
    obtain ⟨⟨t, hk⟩, hv⟩ := r
    obtain ⟨i1, i2, i3⟩ := ih
    have hkey : e.key.isStr name = (n == name) := by rw [hk]; rfl
    refine ⟨fun vd q => ?_, fun q => ?_, ?_⟩
    · rw [List.lookup_cons] at q
      by_cases hn : name = n
      · subst hn
        simp at q; subst q
        exact ⟨e, by rw [List.find?_cons, hkey]; simp, hv⟩
      · have e1 : (name == n) = false := by simpa using hn
        have e2 : (n == name) = false := by simpa using fun z => hn z.symm
        rw [e1] at q
        obtain ⟨e', h1, h2⟩ := i1 vd q
        exact ⟨e', by rw [List.find?_cons, hkey, e2]; exact h1, h2⟩
    · rw [List.lookup_cons] at q
      by_cases hn : name = n
      · subst hn; simp at q
      · have e1 : (name == n) = false := by simpa using hn
        have e2 : (n == name) = false := by simpa using fun z => hn z.symm
        rw [e1] at q
        rw [List.find?_cons, hkey, e2]; exact i2 q
    · rw [List.any_cons, i3]
      simp [DictEntry.refKey, hk]
theorem ns_look {es : List (Str × VD)} {o : Obj} {name : Str} (h : ORel (.ns es) o) : (∀ vd, es.lookup name = some vd → ∃ v, lookIn name o = some (some v) ∧ VRel vd v) ∧ (es.lookup name = none → lookIn name o = some none) := by
  obtain ⟨l, n, ss, rfl, r⟩ := h
  obtain ⟨i1, i2, i3⟩ := ns_find (name := name) r
  refine ⟨fun vd q => ?_, fun q => ?_⟩
  · obtain ⟨e, h1, h2⟩ := i1 vd q
    exact ⟨e.val, by unfold lookIn; dsimp only; rw [h1], h2⟩
  · unfold lookIn; dsimp only; rw [i2 q, i3]; rfl
theorem VRel.handed {d : VD} {v : Value} (h : VRel d v) : handedIn v = true := by
  cases d with
  | none => subst h; rfl
  | int i => obtain ⟨t, rfl⟩ := h; rfl
  | ref a => subst h; rfl
inductive MO where
  | v (d : PyData) (m : HM)
  | o (a : Addr) (m : HM)
  | x (x : XD) (m : HM)
noncomputable def OwnM (O : Addr → Prop) (h : Heap) (m : HM) : Prop := ∀ a od, m a = some od → O a ∧ ∃ o, h.get? a = some o ∧ ORel od o
structure ExtO (A : Around) (O O' X' : Addr → Prop) (s s' : Shared) : Prop where
  same : ∃ h' tk, s' = { s with heap := h', toks := tk }
  keep : ∀ a o, s.heap.get? a = some o → ¬ O a → ∃ sl, s'.heap.get? a = some { o with slots := sl } ∧ (¬ inFrames A a → sl = o.slots)
  own : ∀ a, O' a → (O a ∨ s.heap.get? a = none) ∧ ∃ o, s'.heap.get? a = some o
  exc : ∀ a, X' a → (O a ∨ s.heap.get? a = none) ∧ ¬ O' a ∧ ∃ o, s'.heap.get? a = some o
inductive ExAtP (X P : Addr → Prop) (h : Heap) (x : XD) (v : Value) : Prop
  | mk (e : Addr) (oe : Obj) (vs : Array Value) (a0 : Value) (q : v = .ref e) (re : X e) (ge : h.get? e = some oe) (hc : oe.cls = x.cls) (hd : oe.data = .fields vs) (h0 : vs[0]? = some a0) (ra : x.ar = true → Rl h P x.args a0) (hn : x.nc = true → vs[2]? = some .none) (hz : 2 < vs.size)
      (tb : vs[1]? = some .none ∨ ∃ T oT ts fl, vs[1]? = some (.ref T) ∧ X T ∧ T ≠ e ∧ h.get? T = some oT ∧ oT.data = .fields ts ∧ ts[3]? = some fl)
noncomputable def MAt (P' O' X' : Addr → Prop) (h : Heap) : MO → Value → Prop
  | .v d m, r => Rl h P' d r ∧ OwnM O' h m
  | .o a m, r => r = .ref a ∧ OwnM O' h m
  | .x x m, r => ExAtP X' P' h x r ∧ OwnM O' h m
noncomputable def MQ (Q E : Value → Shared → Prop) : MO → Value → Shared → Prop
  | .x _ _, v, s => E v s
  | _, v, s => Q v s
noncomputable def RQ (Q E : Value → Shared → Prop) (r : Result) (s' : Shared) : Prop := match r with | .ok (.ret v) => Q v s' | .ok _ => False | .error e => E e s'
noncomputable def Mth (W : Wrld) (ht : Nat) (f : Value) (root : Addr) (m : HM) (ds : List PyData) (Post : MO → Prop) : Prop :=
  ∀ ⦃A : Around⦄ ⦃s : Shared⦄ ⦃vs : List Value⦄ ⦃O P : Addr → Prop⦄ ⦃Q E : Value → Shared → Prop⦄, AmbC W ht A s.heap → (∀ a, (s.heap.get? a = none ∨ ∃ o, W.base.get? a = some o) → P a) → (∀ a, inFrames A a → ¬ P a) →
    (∀ a, O a → ¬ P a ∧ ¬ inFrames A a ∧ ∃ o, s.heap.get? a = some o) → OwnM O s.heap m → RlAll s.heap P ds vs →
    (∀ mo s' r O' X', Post mo → ExtO A O O' X' s s' → MAt (fun a => (P a ∨ O a) ∧ ¬ O' a ∧ ¬ X' a) O' X' s'.heap mo r → MQ Q E mo r s') → codeAny W.M A (.call f ⟨.ref root :: vs, []⟩) (RQ Q E) s
structure FnM (W : Wrld) (a : Addr) (fd : FuncData) (sc : Scope) (body : List Stmt) (x : Str) (ps ls : List Str) (ds ds' : List PyData) : Prop where
  at_ : ∃ o, W.K.lookup a = some o ∧ o.data = .func fd
  scope : fd.scope = sc
  body : fd.body = .stmts body
  clo : fd.closure = []
  glob : fd.globals = mainGlobals
  bi : fd.builtins = builtinsNs
  code : codeIn W.K fd.code fd.qualname = true
  co : fd.scope.isCoroutine = false
  gen : fd.scope.isGenerator = false
  kind : fd.scope.kind = .function
  nofree : fd.scope.names.all (fun y => y.2 != .free) = true
  params : (x :: ps).all (fun x => fd.scope.names.lookup x == some .local || fd.scope.names.lookup x == some .cell) = true
  nodup : (x :: ps ++ ls).Nodup
  len : ds'.length = ps.length
  bind : ∀ (M : Model) (A : Around) (Q : List (Str × Value) → Shared → Prop) (E : Value → Shared → Prop) (s : Shared) (P : Addr → Prop) (v : Value) (vs : List Value), (∀ a, s.heap.get? a = none → P a) → W.Ok s.heap → (∀ a o, W.base.get? a = some o → P a) → RlAll s.heap P ds vs →
    (∀ h' tk ws, s.heap.StaysIn h' → RlAll h' P ds' ws → Q ((x :: ps).zip (v :: ws)) { s with heap := h', toks := tk }) → wpAny M A (bindArgs fd ⟨v :: vs, []⟩) Q E s
theorem FnM.look {W : Wrld} {a : Addr} {sc : Scope} {body : List Stmt} {x : Str} {ps ls : List Str} {ds ds' : List PyData} (h : fnLook W.K a (fdOf W.K a) (x :: ps) = (true, sc, .stmts body, [], mainGlobals, builtinsNs, true, false, false, .function, true, true)) (nd : (x :: ps ++ ls).Nodup) (hl : ds'.length = ps.length)
    (b : ∀ (M : Model) (A : Around) (Q : List (Str × Value) → Shared → Prop) (E : Value → Shared → Prop) (s : Shared) (P : Addr → Prop) (v : Value) (vs : List Value), (∀ a, s.heap.get? a = none → P a) → W.Ok s.heap → (∀ a o, W.base.get? a = some o → P a) → RlAll s.heap P ds vs →
      (∀ h' tk ws, s.heap.StaysIn h' → RlAll h' P ds' ws → Q ((x :: ps).zip (v :: ws)) { s with heap := h', toks := tk }) → wpAny M A (bindArgs (fdOf W.K a) ⟨v :: vs, []⟩) Q E s) : FnM W a (fdOf W.K a) sc body x ps ls ds ds' := by
  simp only [fnLook, Prod.mk.injEq] at h
  obtain ⟨h1, h2, h3, h4, h5, h6, h7, h8, h9, h10, h11, h12⟩ := h
  exact ⟨fn_at h1, h2, h3, h4, h5, h6, h7, h8, h9, h10, h11, h12, nd, hl, b⟩
open Classical in
noncomputable def entryO (base : Heap) (A : Around) (P O : Addr → Prop) (x : Str) (L : Addr) (cells : List (Str × Addr)) : Reg := fun a =>
  if inFrames A a then .fo else if O a then .va x else if (base.get? a).isSome then (if P a then .sh else .no) else if a = L ∨ ∃ n, cells.lookup n = some a then .fr else .sh
theorem AmbC.stay {W : Wrld} {ht : Nat} {A : Around} {h h' : Heap} (M : AmbC W ht A h) (k : h.StaysIn h') : AmbC W ht A h' := by
  obtain ⟨outer, o1, o2⟩ := M.frames
  exact ⟨⟨M.ok.good, fun a o e => k a o (M.ok.stays a o e)⟩, M.handled, M.depth, M.units, outer, o1, Heap.FunFrames.of_keeps (fun b o e _ => ⟨o, k b o e, rfl⟩) o2⟩
noncomputable def MEnds (x : Str) (root : Addr) (Post : MO → Prop) : Out → Prop
  | .rt d ρ => ∃ m, (x, .ow (RM root m)) ∈ ρ ∧ Post (.v d m)
  | .nx ρ => ∃ m, (x, .ow (RM root m)) ∈ ρ ∧ Post (.v .none m)
  | .ro a ρ => ∃ m, (x, .ow (RM root m)) ∈ ρ ∧ Post (.o a m)
  | .ex y ρ => ∃ m, (x, .ow (RM root m)) ∈ ρ ∧ Post (.x y m)
  | _ => False
theorem Mth.of {W : Wrld} {ht : Nat} {a : Addr} {fd : FuncData} {sc : Scope} {body : List Stmt} {x : Str} {ps ls : List Str} {ds ds' : List PyData} {root : Addr} {m : HM} {Post : MO → Prop} (F : FnM W a fd sc body x ps ls ds ds')
    (h : ∀ obs, Ex W ht sc ((x, .ow (RM root m)) :: (ps.zip (ds'.map .sh) ++ ls.map fun x => (x, .un))) obs body (MEnds x root Post)) (hnest : W.nest = none := by rfl) : Mth W (ht + 1) (.ref a) root m ds Post := by
  intro A s₀ vs O P Q E M₀ hP₀ hF hO₀ rm₀ r hQ
  obtain ⟨o, hk, hdat⟩ := F.at_
  have hsc := F.scope
  subst hsc
  have hpar : ∀ y ∈ x :: ps, fd.scope.names.lookup y = some .local ∨ fd.scope.names.lookup y = some .cell := fun y hy => by simpa using List.all_eq_true.mp F.params y hy
  refine codeAny_call_function (by have := M₀.depth; (lia -abstractProof)) (M₀.ok.k _ _ hk) hdat F.co F.gen F.body (codeRec_of M₀.ok.k F.code) ?_
  refine F.bind _ _ _ _ s₀ P (.ref root) vs (fun b e => hP₀ b (.inl e)) M₀.ok (fun b o e => hP₀ b (.inr ⟨o, e⟩)) r fun h₁ tk₁ ws k₁ rw₁ => ?_
  have kst : ∀ b o, s₀.heap.get? b = some o → h₁.get? b = some o := k₁
  have M : AmbC W (ht + 1) A h₁ := M₀.stay k₁
  have hO : ∀ b, O b → ¬ P b ∧ ¬ inFrames A b ∧ ∃ o, h₁.get? b = some o := fun b q => let ⟨q1, q2, o, g⟩ := hO₀ b q; ⟨q1, q2, o, k₁ b o g⟩
  have rm : OwnM O h₁ m := fun b od q => let ⟨q1, o, g, z⟩ := rm₀ b od q; ⟨q1, o, k₁ b o g, z⟩
  have hwl : ws.length = ps.length := rw₁.length.trans F.len
  generalize hs : ({ s₀ with heap := h₁, toks := tk₁ } : Shared) = s
  have hsh : s.heap = h₁ := by rw [← hs]
  have hP : ∀ b, (s.heap.get? b = none ∨ ∃ o, W.base.get? b = some o) → P b := fun b q => q.elim (fun e => hP₀ b (.inl (by
    cases z : s₀.heap.get? b with
    | none => rfl
    | some o => rw [hsh, k₁ b o z] at e; contradiction))) fun e => hP₀ b (.inr e)
  rw [← hsh] at M hO rm rw₁
  rw [F.clo]
  have hin : ∀ y ∈ (x :: ps).zip (Value.ref root :: ws), y.1 ∈ x :: ps := fun y hy => (List.of_mem_zip (show (y.1, y.2) ∈ (x :: ps).zip (Value.ref root :: ws) from hy)).1
  refine wpAny_newFunctionEnv_cells F.kind (fun y hy => ?_) fun env he s₁ X => ?_
  · rcases hpar y.1 (hin y hy) with q | q
    · exact .inl q
    · obtain ⟨c, hc⟩ := cellsFrom_has fd.scope.names (s.heap.objs.size + 1) y.1 (mem_of_lookup q)
      exact .inr ⟨q, by rw [hc]; rfl⟩
  · refine ⟨M.ok.nolim.keeps X.toInCall.keep, codeAny_func ?_⟩
    have eL : env.locals = s.heap.objs.size := by rw [he]; rfl
    have eC : env.cells = cellsFrom (s.heap.objs.size + 1) fd.scope.names [] := by rw [he]; rfl
    have eS : env.scope = fd.scope := by rw [he]; rfl
    have eK : ∀ x, env.kindOf x = fd.scope.names.lookup x := fun x => by show env.scope.names.lookup x = _; rw [eS]
    have eF : env.frame = some env.locals := by rw [he]; rfl
    have eG : env.globals = mainGlobals := by rw [he]; exact F.glob
    have eB : env.builtins = builtinsNs := by rw [he]; exact F.bi
    have nL : s.heap.get? env.locals = none := by rw [eL]; exact fresh_none _
    have cm : ∀ n c, env.cells.lookup n = some c → s.heap.get? c = none ∧ c ≠ env.locals := fun n c e => by
      have := X.above n c (mem_of_lookup e)
      exact ⟨none_of_le (by rw [← eL]; exact Nat.le_of_lt this), Nat.ne_of_gt this⟩
    clear he
    let reg := entryO s.heap A P O x env.locals env.cells
    have nof : ∀ b, s.heap.get? b = none → ¬ inFrames A b := fun b e q => by obtain ⟨_, o, g, _⟩ := M.fresh q; rw [e] at g; contradiction
    have noO : ∀ b, s.heap.get? b = none → ¬ O b := fun b e q => by obtain ⟨_, _, o, g⟩ := hO b q; rw [e] at g; contradiction
    have rfo : ∀ b, inFrames A b → reg b = .fo := fun b q => if_pos q
    have rva : ∀ b, O b → reg b = .va x := fun b q => (if_neg (hO b q).2.1).trans (if_pos q)
    have rold : ∀ b o, s.heap.get? b = some o → ¬ inFrames A b → ¬ O b → (P b → reg b = .sh) ∧ (¬ P b → reg b = .no) := fun b o e n n' => by
      simp only [reg, entryO, e, Option.isSome_some, if_true, if_neg n, if_neg n']
      exact ⟨fun q => if_pos q, fun q => if_neg q⟩
    have rnew : ∀ b, s.heap.get? b = none → ¬ (b = env.locals ∨ ∃ n, env.cells.lookup n = some b) → reg b = .sh := fun b e q => by
      simp only [reg, entryO, e, Option.isSome_none, Bool.false_eq_true, if_false, if_neg (nof b e), if_neg (noO b e)]
      exact if_neg q
    have rfr : ∀ b, s.heap.get? b = none → (b = env.locals ∨ ∃ n, env.cells.lookup n = some b) → reg b = .fr := fun b e q => by
      simp only [reg, entryO, e, Option.isSome_none, Bool.false_eq_true, if_false, if_neg (nof b e), if_neg (noO b e)]
      exact if_pos q
    have rsh : ∀ b o, s.heap.get? b = some o → P b → reg b = .sh := fun b o e q => (rold b o e (fun z => hF b z q) fun z => (hO b z).1 q).1 q
    have rsafe : ∀ b o, s.heap.get? b = some o → ¬ O b → Safe reg b := fun b o e nO => by
      by_cases q : inFrames A b
      · exact .inr (.inr (.inr (rfo b q)))
      · by_cases q' : P b
        · exact .inl ((rold b o e q nO).1 q')
        · exact .inr (.inr (.inl ((rold b o e q nO).2 q')))
    have rlow : ∀ b o, s.heap.get? b = some o → ¬ O b → reg b = .sh ∨ reg b = .no ∨ reg b = .fo := fun b o e nO => by
      by_cases q : inFrames A b
      · exact .inr (.inr (rfo b q))
      · by_cases q' : P b
        · exact .inl ((rold b o e q nO).1 q')
        · exact .inr (.inl ((rold b o e q nO).2 q'))
    obtain ⟨h₂, tk₂, e₂⟩ := X.toInCall.same
    have H : Here W ht fd.scope ((x, .ow (RM root m)) :: (ps.zip (ds'.map .sh) ++ ls.map fun x => (x, .un))) O (A.deeper env) env s.heap reg s₁ := by
      have keys : ((x, B.ow (RM root m)) :: (ps.zip (ds'.map .sh) ++ ls.map fun x => (x, .un))).map (·.1) = x :: ps ++ ls := by
        rw [List.map_cons, List.map_append, List.map_fst_zip (by simp [F.len]), List.map_map]
        simp [Function.comp_def]
      refine ⟨eS, ⟨by rw [eS]; exact F.kind, eG, eB⟩, ⟨M.ok, M.handled, ?_, ?_, ?_⟩, ⟨fun b o e _ => ⟨o.slots, X.toInCall.keep b o e, fun _ => rfl⟩, fun b o e n => rlow b o e n, fun b e => ?_, rfr _ nL (.inl rfl), fun n c e => ?_, fun n n' c e e' => ?_, fun n e => ?_, ⟨_, X.toInCall.ns⟩, by rw [keys]; exact F.nodup, fun y b e => ?_, ?_⟩, fun b o e => ⟨rsh b o (M.ok.stays _ _ e) (hP b (.inr ⟨o, e⟩)), fun z => (hO b z).1 (hP b (.inr ⟨o, e⟩))⟩, fun b e => ?_, fun c e => by rw [hnest] at e; contradiction⟩
      · have := M.depth; show A.depth + 1 + ht < _; (lia -abstractProof)
      · have := M.units; show A.units + 3 + 100 * ht + 200 < _; (lia -abstractProof)
      · obtain ⟨outer, o1, o2⟩ := M.frames
        exact ⟨env, outer, by show A.frames.map (env :: ·) = _; rw [o1]; rfl, rfl, by rw [eS, F.kind]; decide, o2⟩
      · refine rnew b ?_ ?_
        · cases q : s.heap.get? b with
          | none => rfl
          | some o => rw [X.toInCall.keep b o q] at e; contradiction
        · rintro (rfl | ⟨n, q⟩)
          · obtain ⟨o, _, _, g, _⟩ := X.toInCall.ns; rw [g] at e; contradiction
          · obtain ⟨o, g, _⟩ := X.cell n b q; rw [g] at e; contradiction
      · exact ⟨rfr c (cm n c e).1 (.inr ⟨n, e⟩), (cm n c e).2, _, X.cell n c e⟩
      · exact name_of_addr X.apart (mem_of_lookup e) (mem_of_lookup e')
      · rw [eK, eC] at *
        rcases e with e | e
        · exact cellsFrom_has _ _ n (mem_of_lookup e)
        · have := List.all_eq_true.mp F.nofree _ (mem_of_lookup e)
          simp at this
      · have nd : (((x :: ps).zip (Value.ref root :: ws)).map (·.1)).Nodup := by
          rw [List.map_fst_zip (by simp [hwl])]; exact (List.nodup_append.mp F.nodup).1
        have at_ : ∀ {y v}, (y, v) ∈ (x :: ps).zip (Value.ref root :: ws) → VarAt env s₁.heap y v := fun {y v} hm => by
          rcases hpar y (hin _ hm) with q | q
          · have q' : env.kindOf y = some .local := (eK y).trans q
            exact .inl ⟨q', _, X.toInCall.ns, bindL_at nd hm q'⟩
          · have q' : env.kindOf y = some .cell := (eK y).trans q
            obtain ⟨c, hc⟩ := cellsFrom_has fd.scope.names (s.heap.objs.size + 1) y (mem_of_lookup q)
            have hc' : env.cells.lookup y = some c := by rw [eC]; exact hc
            refine .inr ⟨.inl q', c, hc', ?_⟩
            have := X.cell y c hc'
            rw [bindC_at nd hm (by rw [q']; decide)] at this
            exact this
        rcases List.mem_cons.mp e with e | e
        · cases e
          exact .inr ⟨.ref root, at_ (by simp), rfl, fun b od q => by
            obtain ⟨q1, o, g, z⟩ := rm b od q
            exact ⟨rva b q1, o, X.toInCall.keep b o g, z⟩⟩
        rcases List.mem_append.mp e with e | e
        rotate_left
        · obtain ⟨x', _, e⟩ := List.mem_map.mp e
          cases e; exact .inl rfl
        obtain ⟨v, hm, hr⟩ := zip_mem (R := fun (b : B) v => BRel reg s₁.heap y b v) (ps := ps) (xs := ds'.map .sh) (ys := ws) (by simp [rw₁.length]) (fun i b v h1 h2 => by
          rw [List.getElem?_map] at h1
          obtain ⟨d', hd', rfl⟩ := Option.map_eq_some_iff.mp h1
          obtain ⟨v', hv', rv⟩ := rw₁.get hd'
          rw [h2] at hv'; cases hv'
          exact Rl.mono (fun c o q g => ⟨X.toInCall.keep c o g, rsh c o g q⟩) d' v rv) e
        exact .inr ⟨v, at_ (by rw [List.zip_cons_cons]; exact List.mem_cons_of_mem _ hm), hr⟩
      · obtain ⟨o, es, ep, g, dd, _⟩ := X.toInCall.ns
        exact ⟨env.locals, o, eF, rfr _ nL (.inl rfl), nL, g, fun vs q => by rw [dd] at q; contradiction⟩
      · obtain ⟨l, l1, l2⟩ := e
        have l1' : A.frames.map (env :: ·) = some l := l1
        obtain ⟨outer, o1, o2⟩ := M.frames
        rw [o1] at l1'
        cases l1'
        rw [List.filterMap_cons, eF] at l2
        rcases List.mem_cons.mp l2 with l2 | l2
        · exact .inl (by rw [l2]; exact eF)
        · exact .inr ⟨rfo b ⟨outer, o1, l2⟩, fun z => (hO b z).2.1 ⟨outer, o1, l2⟩⟩
    have root_at : ∀ {ρ' : Vars} {reg' : Reg} {s' : Shared} {m' : HM}, Here W ht fd.scope ρ' O (A.deeper env) env s.heap reg' s' → (x, .ow (RM root m')) ∈ ρ' → OwnM (fun b => reg' b = .va x) s'.heap m' := fun H' hm' => by
      obtain ⟨v, V, e, r⟩ := H'.at hm'
      exact r
    have out : ∀ {ρ' : Vars} {reg' : Reg} {s' : Shared}, Here W ht fd.scope ρ' O (A.deeper env) env s.heap reg' s' → Step reg s₁ reg' s' → ExtO A O (fun b => reg' b = .va x) (fun b => reg' b = .ob) s₀ s' ∧ ∀ b, (∃ o, s'.heap.get? b = some o) → reg' b = .sh → (P b ∨ O b) ∧ ¬ (reg' b = .va x) ∧ ¬ (reg' b = .ob) := fun {ρ' reg' s'} H' st => by
      have lab : ∀ b, ¬ O b → ∀ o, s₀.heap.get? b = some o → reg' b = reg b := fun b nO o e => (st.safe b o (X.toInCall.keep b o (by rw [hsh]; exact k₁ b o e)) (rsafe b o (by rw [hsh]; exact k₁ b o e) nO)).2
      have old : ∀ b (w : Own), w ≠ .sh → w ≠ .no → w ≠ .fo → reg' b = w → O b ∨ s₀.heap.get? b = none := fun b w w1 w2 w3 e => by
        by_cases q : O b
        · exact .inl q
        · cases z : s₀.heap.get? b with
          | none => exact .inr rfl
          | some o =>
            rw [lab b q o z] at e
            rcases rlow b o (by rw [hsh]; exact k₁ b o z) q with u | u | u <;> rw [u] at e
            · exact absurd e.symm w1
            · exact absurd e.symm w2
            · exact absurd e.symm w3
      have alloc : ∀ b (w : Own), w ≠ .sh → reg' b = w → ∃ o, s'.heap.get? b = some o := fun b w w1 e => by
        cases z : s'.heap.get? b with
        | some o => exact ⟨o, rfl⟩
        | none => rw [H'.sta.high b z] at e; exact absurd e.symm w1
      refine ⟨⟨?_, fun b o e nO => ?_, fun b e => ⟨old b _ (by intro z; contradiction) (by intro z; contradiction) (by intro z; contradiction) e, alloc b _ (by intro z; contradiction) e⟩, fun b e => ⟨old b _ (by intro z; contradiction) (by intro z; contradiction) (by intro z; contradiction) e, (fun q => by rw [show reg' b = .ob from e] at q; contradiction), alloc b _ (by intro z; contradiction) e⟩⟩, fun b _ e => ⟨?_, (fun q => by rw [e] at q; contradiction), fun q => by rw [e] at q; contradiction⟩⟩
      · obtain ⟨h', tk', e'⟩ := st.same
        exact ⟨h', tk', by rw [e', e₂, ← hs]⟩
      · have g := X.toInCall.keep b o (by rw [hsh]; exact k₁ b o e)
        obtain ⟨⟨sl, g', z⟩, _⟩ := st.safe b o g (rsafe b o (by rw [hsh]; exact k₁ b o e) nO)
        refine ⟨sl, g', fun n => z fun q => ?_⟩
        by_cases hp : P b
        · rw [(rold b o (by rw [hsh]; exact k₁ b o e) n nO).1 hp] at q; contradiction
        · rw [(rold b o (by rw [hsh]; exact k₁ b o e) n nO).2 hp] at q; contradiction
      · by_cases q : O b
        · exact .inr q
        · cases z : s₀.heap.get? b with
          | none => exact .inl (hP₀ b (.inl z))
          | some o =>
            rw [lab b q o z] at e
            refine .inl (Classical.byContradiction fun hp => ?_)
            by_cases hf : inFrames A b
            · rw [rfo b hf] at e; contradiction
            · rw [(rold b o (by rw [hsh]; exact k₁ b o z) hf q).2 hp] at e; contradiction
    have data : ∀ {reg' : Reg} {s' : Shared} {d : PyData} {v : Value}, (∀ b, (∃ o, s'.heap.get? b = some o) → reg' b = .sh → (P b ∨ O b) ∧ ¬ (reg' b = .va x) ∧ ¬ (reg' b = .ob)) → Rl s'.heap (Sh reg') d v → Rl s'.heap (fun b => (P b ∨ O b) ∧ ¬ (reg' b = .va x) ∧ ¬ (reg' b = .ob)) d v :=
      fun k r => Rl.mono (fun b o q g => ⟨g, k b ⟨o, g⟩ q⟩) _ _ r
    refine h O H (fun o f s' reg' ho st oa => ?_) (fun y ρ' v s' reg' ho st H' X' => ?_)
    · cases o with
      | rt d ρ' =>
        cases f with
        | ret v =>
          obtain ⟨m', hm', hp⟩ := ho
          obtain ⟨x1, x2⟩ := out oa.2 st
          exact hQ (.v d m') s' v _ _ hp x1 ⟨data x2 oa.1, root_at oa.2 hm'⟩
        | _ => exact oa.elim
      | nx ρ' =>
        cases f with
        | next =>
          obtain ⟨m', hm', hp⟩ := ho
          obtain ⟨x1, x2⟩ := out oa st
          exact hQ (.v .none m') s' .none _ _ hp x1 ⟨rfl, root_at oa hm'⟩
        | _ => exact oa.elim
      | ro b ρ' =>
        cases f with
        | ret v =>
          obtain ⟨m', hm', hp⟩ := ho
          obtain ⟨x1, x2⟩ := out oa.2 st
          exact hQ (.o b m') s' v _ _ hp x1 ⟨oa.1, root_at oa.2 hm'⟩
        | _ => exact oa.elim
      | ex y ρ' => cases f <;> exact oa.elim
      | _ => exact ho.elim
    · obtain ⟨m', hm', hp⟩ := ho
      unfold leaving
      refine wpAny_bind (note_any H' X' fun s₃ reg₃ H₃ st₃ X₃ => setFlight_any H₃ X₃ fun s₄ H₄ st₄ X₄ => ?_)
      obtain ⟨x1, x2⟩ := out H₄ (st.trans (st₃.trans st₄))
      refine hQ (.x y m') s₄ v _ _ hp x1 ⟨?_, root_at H₄ hm'⟩
      obtain ⟨e, oe, vs', a0, T, oT, ts, fl, q1, q2, q3, q4, q5, q6, q7, hnc, hz, q8, q9, q10, q11, q12, q13⟩ := X₄
      exact ⟨e, oe, vs', a0, q1, q2, q3, q4, q5, q6, fun z => data x2 (q7 z), hnc, hz, .inr ⟨T, oT, ts, fl, q8, q9, q10, q11, q12, q13⟩⟩
inductive Rs where
  | v (d : PyData) (ρ : Vars)
  | o (a : Addr) (ρ : Vars)
  | x (x : XD) (ρ : Vars)
noncomputable def RsAt (W : Wrld) (ht : Nat) (sc : Scope) (obs : Obs) (A : Around) (env : Env) (base : Heap) (reg : Reg) (s : Shared) : Rs → Value → Prop
  | .v d ρ, v => Rl s.heap (Sh reg) d v ∧ Here W ht sc ρ obs A env base reg s
  | .o a ρ, v => v = .ref a ∧ Here W ht sc ρ obs A env base reg s
  | .x x ρ, v => ExAt reg s.heap x v ∧ Here W ht sc ρ obs A env base reg s
noncomputable def RsQ (Q E : Value → Shared → Prop) : Rs → Value → Shared → Prop
  | .x _ _, v, s => E v s
  | _, v, s => Q v s
noncomputable def EvM (W : Wrld) (ht : Nat) (sc : Scope) (ρ : Vars) (obs : Obs) (e : Expr) (Post : Rs → Prop) : Prop :=
  ∀ ⦃A : Around⦄ ⦃env : Env⦄ ⦃base : Heap⦄ ⦃reg : Reg⦄ ⦃s : Shared⦄ ⦃Q E : Value → Shared → Prop⦄, Here W ht sc ρ obs A env base reg s →
    (∀ r s' reg' v, Post r → Step reg s reg' s' → RsAt W ht sc obs A env base reg' s' r v → RsQ Q E r v s') → wpAny W.M A (eval e env) Q E s
noncomputable def RsOf (ρ : Vars) (y : Str) (root : Addr) (P : Rs → Prop) : MO → Prop
  | .v d m' => ∃ ρ', Upd ρ y (.ow (RM root m')) ρ' ∧ P (.v d ρ')
  | .o a m' => ∃ ρ', Upd ρ y (.ow (RM root m')) ρ' ∧ P (.o a ρ')
  | .x x m' => ∃ ρ', Upd ρ y (.ow (RM root m')) ρ' ∧ P (.x x ρ')
section
variable {W : Wrld} {ht ht' : Nat} {sc : Scope} {ρ ρ' : Vars} {obs : Obs} {Post : Out → Prop} {A : Around} {env : Env} {base : Heap} {reg : Reg} {s s' : Shared} {x y : Str} {root : Addr} {m m' : HM}
noncomputable def afterReg (reg : Reg) (y : Str) (O' X' : Addr → Prop) : Reg := fun a => open Classical in if O' a then .va y else if X' a then .ob else if reg a = .va y then .sh else reg a
theorem after_own {O' X' : Addr → Prop} {a : Addr} (h : O' a) : afterReg reg y O' X' a = .va y := by unfold afterReg; rw [if_pos h]
theorem after_exc {O' X' : Addr → Prop} {a : Addr} (h : ¬ O' a) (h' : X' a) : afterReg reg y O' X' a = .ob := by unfold afterReg; rw [if_neg h, if_pos h']
theorem after_lost {O' X' : Addr → Prop} {a : Addr} (h : ¬ O' a) (h' : ¬ X' a) (e : reg a = .va y) : afterReg reg y O' X' a = .sh := by unfold afterReg; rw [if_neg h, if_neg h', if_pos e]
theorem after_old {O' X' : Addr → Prop} {a : Addr} (h : ¬ O' a) (h' : ¬ X' a) (e : reg a ≠ .va y) : afterReg reg y O' X' a = reg a := by unfold afterReg; rw [if_neg h, if_neg h', if_neg e]
theorem Here.after {O' X' : Addr → Prop} (H : Here W ht sc ρ obs A env base reg s) (hy : (y, .ow (RM root m)) ∈ ρ) (x : ExtO A (fun a => reg a = .va y) O' X' s s') (om : OwnM O' s'.heap m') (u : Upd ρ y (.ow (RM root m')) ρ') :
    Here W ht sc ρ' obs A env base (afterReg reg y O' X') s' ∧ Step reg s (afterReg reg y O' X') s' := by
  have S := H.sta
  have lab : ∀ a o, s.heap.get? a = some o → reg a ≠ .va y → afterReg reg y O' X' a = reg a := fun a o g n => after_old
    (fun q => ((x.own a q).1.elim n fun z => by rw [g] at z; contradiction)) (fun q => ((x.exc a q).1.elim n fun z => by rw [g] at z; contradiction)) n
  have nfr : ∀ a, reg a ≠ .fr → reg a ≠ .fo → ¬ inFrames A a := fun a h1 h2 q => by
    rcases H.loose q with z | z
    · exact h1 z
    · exact h2 z
  have kept : ∀ a o, s.heap.get? a = some o → reg a ≠ .va y → ∃ sl, s'.heap.get? a = some { o with slots := sl } ∧ (reg a ≠ .fr → reg a ≠ .fo → sl = o.slots) := fun a o g n => by
    obtain ⟨sl, g', z⟩ := x.keep a o g n
    exact ⟨sl, g', fun h1 h2 => z (nfr a h1 h2)⟩
  have exact' : ∀ a o (w : Own), reg a = w → w ≠ .va y → w ≠ .fr → w ≠ .fo → s.heap.get? a = some o → s'.heap.get? a = some o ∧ afterReg reg y O' X' a = w := fun a o w e h1 h2 h3 g => by
    obtain ⟨sl, g', z⟩ := kept a o g (by rw [e]; exact h1)
    rw [z (by rw [e]; exact h2) (by rw [e]; exact h3)] at g'
    exact ⟨g', (lab a o g (by rw [e]; exact h1)).trans e⟩
  have frl : ∀ a o, reg a = .fr → s.heap.get? a = some o → (∃ o', s'.heap.get? a = some o' ∧ o'.data = o.data) ∧ afterReg reg y O' X' a = .fr := fun a o e g => by
    obtain ⟨sl, g', _⟩ := kept a o g (by rw [e]; intro z; contradiction)
    exact ⟨⟨_, g', rfl⟩, (lab a o g (by rw [e]; intro z; contradiction)).trans e⟩
  have nsk : ∀ {a mm}, reg a = .fr → s.heap.Ns a mm → s'.heap.Ns a mm := fun e ⟨o, es, ep, g, d, r⟩ => by
    obtain ⟨⟨o', g', d'⟩, _⟩ := frl _ o e g
    exact ⟨o', es, ep, g', d'.trans d, r⟩
  have cek : ∀ {c v}, reg c = .fr → s.heap.IsCell c v → s'.heap.IsCell c v := fun e ⟨o, g, d⟩ => by
    obtain ⟨⟨o', g', d'⟩, _⟩ := frl _ o e g
    exact ⟨o', g', d'.trans d⟩
  have vk : ∀ {z u}, VarAt env s.heap z u → VarAt env s'.heap z u := fun V => by
    rcases V with ⟨e, mm, n, q⟩ | ⟨e, c, lc, q⟩
    · exact .inl ⟨e, mm, nsk S.locs n, q⟩
    · exact .inr ⟨e, c, lc, cek (S.cels _ c lc).1 q⟩
  refine ⟨⟨H.sc, H.eok, H.amb, ⟨fun a o e n => ?_, fun a o e n => ?_, fun a e => ?_, ?_, fun n c e => ?_, S.inj, S.allc, ?_, u.keys ▸ S.keys, fun z c e => ?_, ?_⟩, fun a o e => ?_, fun a e => ?_, fun c e => ?_⟩, ?_⟩
  · obtain ⟨sl, g, q⟩ := S.keep a o e n
    have lw := S.low a o e n
    have nv : reg a ≠ .va y := by rcases lw with q | q | q <;> rw [q] <;> intro z <;> contradiction
    obtain ⟨sl', g', q'⟩ := kept a _ g nv
    rw [lab a _ g nv]
    refine ⟨sl', g', fun f => (q' ?_ f).trans (q f)⟩
    rcases lw with q | q | q <;> rw [q] <;> intro z <;> contradiction
  · obtain ⟨sl, g, q⟩ := S.keep a o e n
    have lw := S.low a o e n
    rw [lab a _ g (by rcases lw with q | q | q <;> rw [q] <;> intro z <;> contradiction)]
    exact lw
  · have nO : ¬ O' a := fun q => by obtain ⟨_, o, g⟩ := x.own a q; rw [g] at e; contradiction
    have nX : ¬ X' a := fun q => by obtain ⟨_, _, o, g⟩ := x.exc a q; rw [g] at e; contradiction
    by_cases q : reg a = .va y
    · exact after_lost nO nX q
    · rw [after_old nO nX q]
      refine S.high a ?_
      cases z : s.heap.get? a with
      | none => rfl
      | some o => obtain ⟨sl, g', _⟩ := x.keep a o z q; rw [g'] at e; contradiction
  · obtain ⟨mm, o, _, _, g, _⟩ := S.ns
    exact (frl _ o S.locs g).2
  · obtain ⟨q1, q2, v, o, g, d⟩ := S.cels n c e
    exact ⟨(frl c o q1 g).2, q2, v, cek q1 ⟨o, g, d⟩⟩
  · obtain ⟨mm, n⟩ := S.ns
    exact ⟨mm, nsk S.locs n⟩
  · rcases u.mem S.keys _ _ e with ⟨rfl, rfl⟩ | ⟨hne, e⟩
    · obtain ⟨v, V, ev, r⟩ := H.at hy
      exact .inr ⟨v, vk V, ev, fun a od q => by obtain ⟨q1, q2⟩ := om a od q; exact ⟨after_own q1, q2⟩⟩
    · rcases S.vars z c e with rfl | ⟨v, V, r⟩
      · exact .inl rfl
      exact .inr ⟨v, vk V, r.mono (fun a o q g => exact' a o .sh q (by intro z; contradiction) (by intro z; contradiction) (by intro z; contradiction) g) (fun a o q g => exact' a o (.va z) q (by intro w; cases w; exact hne rfl) (by intro z; contradiction) (by intro z; contradiction) g)⟩
  · obtain ⟨L, o, e1, e0, e2, e3, e4⟩ := S.frm
    obtain ⟨⟨o', g, d⟩, l⟩ := frl L o e0 e3
    exact ⟨L, o', e1, l, e2, g, fun vs => d ▸ e4 vs⟩
  · obtain ⟨q1, q2⟩ := H.ksh a o e
    exact ⟨(exact' a o .sh q1 (by intro z; contradiction) (by intro z; contradiction) (by intro z; contradiction) (H.ok.stays a o e)).2, q2⟩
  · refine (H.fos a e).imp id fun q => ⟨?_, q.2⟩
    obtain ⟨_, o, g, _⟩ := H.call.fresh e
    rw [lab a o g (by rw [q.1]; intro z; contradiction)]; exact q.1
  · exact (H.hnd c e).mono fun a o q g => exact' a o .ob q (by intro z; contradiction) (by intro z; contradiction) (by intro z; contradiction) g
  · refine ⟨x.same, fun a o g q => ?_⟩
    have nv : reg a ≠ .va y := q.va
    obtain ⟨sl, g', z⟩ := kept a o g nv
    exact ⟨⟨sl, g', fun f => z q.fr f⟩, lab a o g nv⟩
theorem Here.came {O' X' : Addr → Prop} {mo : MO} {r : Value} {P : Rs → Prop} {Q E : Value → Shared → Prop} {s₀ : Shared} {reg₀ : Reg} (st₀ : Step reg₀ s₀ reg s) (H : Here W ht sc ρ obs A env base reg s) (hy : (y, .ow (RM root m)) ∈ ρ) (x : ExtO A (fun a => reg a = .va y) O' X' s s')
    (hm : MAt (fun a => (Sh reg a ∨ reg a = .va y) ∧ ¬ O' a ∧ ¬ X' a) O' X' s'.heap mo r)
    (hp : RsOf ρ y root P mo)
    (hQ : ∀ r s' reg' v, P r → Step reg₀ s₀ reg' s' → RsAt W ht sc obs A env base reg' s' r v → RsQ Q E r v s') : MQ Q E mo r s' := by
  have dat : ∀ {d : PyData} {v : Value}, Rl s'.heap (fun a => (Sh reg a ∨ reg a = .va y) ∧ ¬ O' a ∧ ¬ X' a) d v → Rl s'.heap (Sh (afterReg reg y O' X')) d v := fun r => Rl.mono (fun a o q g => ⟨g, by
    obtain ⟨q1, q2, q3⟩ := q
    show afterReg reg y O' X' a = .sh
    by_cases e : reg a = .va y
    · exact after_lost q2 q3 e
    · rw [after_old q2 q3 e]; exact q1.resolve_right e⟩) _ _ r
  cases mo with
  | v d m' =>
    obtain ⟨ρ', u, hp⟩ := hp
    obtain ⟨H', st⟩ := H.after hy x hm.2 u
    exact hQ (.v d ρ') s' _ r hp (st₀.trans st) ⟨dat hm.1, H'⟩
  | o a m' =>
    obtain ⟨ρ', u, hp⟩ := hp
    obtain ⟨H', st⟩ := H.after hy x hm.2 u
    exact hQ (.o a ρ') s' _ r hp (st₀.trans st) ⟨hm.1, H'⟩
  | x y' m' =>
    obtain ⟨ρ', u, hp⟩ := hp
    obtain ⟨H', st⟩ := H.after hy x hm.2 u
    refine hQ (.x y' ρ') s' _ r hp (st₀.trans st) ⟨?_, H'⟩
    obtain ⟨e, oe, vs, a0, q1, q2, q3, q4, q5, q6, q7, q8, q9, q10⟩ := hm.1
    exact ⟨e, oe, vs, a0, q1, after_exc (x.exc e q2).2.1 q2, q3, q4, q5, q6, fun z => dat (q7 z), q8, q9, q10.imp id fun ⟨T, oT, ts, fl, a, b, c⟩ => ⟨T, oT, ts, fl, a, after_exc (x.exc T b).2.1 b, c⟩⟩
structure MethIn (K : Frag) (C : Addr) (name : Str) (f : Addr) : Prop where
  ga : findIn K (.ref C) "__getattribute__" = some (some (.builtin "object.__getattribute__"))
  gx : findIn K (.ref C) "__getattr__" = some none
  at_ : findIn K (.ref C) name = some (some (.ref f))
  fn : typeIn K (.ref f) = some (.type "function")
  keep : keepIn K (.ref f) = true
theorem Here.instO {a C dx : Addr} {sl : List (Option VD)} {es : List (Str × VD)} (H : Here W ht sc ρ obs A env base reg s) (hx : (y, .ow (RM root m)) ∈ ρ) (h1 : m a = some (.inst C dx sl)) (h2 : m dx = some (.ns es)) : ∃ ox od, InstAt s.heap a ox C (some od) ∧ ox.dict = some dx ∧ s.heap.get? dx = some od ∧ ORel (.inst C dx sl) ox ∧ ORel (.ns es) od := by
  obtain ⟨_, ox, g1, r1⟩ := H.own hx h1
  obtain ⟨_, od, g2, r2⟩ := H.own hx h2
  have r1' := r1
  obtain ⟨ss, rfl, _⟩ := r1'
  exact ⟨_, od, ⟨g1, rfl, rfl, g2⟩, rfl, g2, r1, r2⟩
theorem callO_fin {f : Addr} {ds : List PyData} {MP : MO → Prop} {P : Rs → Prop} {Q E : Value → Shared → Prop} {s₀ : Shared} {reg₀ : Reg} (st₀ : Step reg₀ s₀ reg s) (H : Here W ht sc ρ obs A env base reg s) (hy : (y, .ow (RM root m)) ∈ ρ)
    (hc : Mth W ht' (.ref f) root m ds MP) (hh : ht' ≤ ht) (hp : ∀ mo, MP mo → RsOf ρ y root P mo)
    (hQ : ∀ r s' reg' v, P r → Step reg₀ s₀ reg' s' → RsAt W ht sc obs A env base reg' s' r v → RsQ Q E r v s') {vs : List Value} (r : RlAll s.heap (Sh reg) ds vs) : W.K.In s.heap ∧ wpAny W.M A (call (.ref f) ([.ref root] ++ vs)) Q E s := by
  refine ⟨H.ok.k, ?_⟩
  obtain ⟨v, V, e, rm⟩ := H.at hy
  refine wpAny_call (hc (H.call.less hh) H.pok H.pno (fun a (q : reg a = .va y) => ⟨(fun z => by rw [show reg a = .sh from z] at q; contradiction), fun z => ?_, ?_⟩) rm r fun mo s' r O' X' hmo xo hm => H.came st₀ hy xo hm (hp mo hmo) hQ)
  · rcases H.loose z with w | w <;> rw [q] at w <;> contradiction
  · cases z : s.heap.get? a with
    | some o => exact ⟨o, rfl⟩
    | none => rw [H.sta.high a z] at q; contradiction
theorem callO0 {f : Addr} {pos : Pos} {MP : MO → Prop} {P : Rs → Prop} {Q E : Value → Shared → Prop} {s₀ : Shared} {reg₀ : Reg} (st₀ : Step reg₀ s₀ reg s) (H : Here W ht sc ρ obs A env base reg s) (hy : (y, .ow (RM root m)) ∈ ρ) (hk : keepIn W.K (.ref f) = true)
    (hc : Mth W ht' (.ref f) root m [] MP) (hh : ht' ≤ ht) (hp : ∀ mo, MP mo → RsOf ρ y root P mo)
    (hQ : ∀ r s' reg' v, P r → Step reg₀ s₀ reg' s' → RsAt W ht sc obs A env base reg' s' r v → RsQ Q E r v s') : wpAny W.M A (callWith pos (.ref f) [.ref root] (backTo pos (starEach [] env)) []) Q E s :=
  callWith_of rfl (keeps_K hk) (evalArgs_nil3 (callO_fin st₀ H hy hc hh hp hQ (vs := []) rfl))
theorem callO {f : Addr} {args : List Expr} {pos : Pos} {ds : List PyData} {MP : MO → Prop} {P : Rs → Prop} {Q E : Value → Shared → Prop} {s₀ : Shared} {reg₀ : Reg} (st₀ : Step reg₀ s₀ reg s) (H : Here W ht sc ρ obs A env base reg s) (hy : (y, .ow (RM root m)) ∈ ρ) (ha : EvAll W ht sc ρ obs args ds) (hne : args ≠ []) (hk : keepIn W.K (.ref f) = true)
    (hc : Mth W ht' (.ref f) root m ds MP) (hh : ht' ≤ ht) (hp : ∀ mo, MP mo → RsOf ρ y root P mo)
    (hQ : ∀ r s' reg' v, P r → Step reg₀ s₀ reg' s' → RsAt W ht sc obs A env base reg' s' r v → RsQ Q E r v s') : wpAny W.M A (callWith pos (.ref f) [.ref root] (backTo pos (starEach args env)) []) Q E s := by
  obtain ⟨t, rr, q⟩ := (ha.1 env pos).2 hne
  refine callWith_of ?_ (keeps_K hk) ?_
  · rw [(ha.1 env pos).1]; rfl
  · rw [q]
    refine evalArgs_plain ?_
    rw [← q]
    exact ha.2 pos H fun s₁ vs x₁ r => callO_fin (st₀.trans (Step.ext x₁)) (H.ext x₁) hy hc hh hp hQ r
theorem EvM.meth {name : Str} {p apos pos : Pos} {args : List Expr} {ds : List PyData} {f C dx : Addr} {sl : List (Option VD)} {es : List (Str × VD)} {MP : MO → Prop} {P : Rs → Prop} (hy : (y, .ow (RM root m)) ∈ ρ) (h1 : m root = some (.inst C dx sl)) (h2 : m dx = some (.ns es)) (hl : es.lookup name = none) (hm : MethIn W.K C name f)
    (ha : EvAll W ht sc ρ obs args ds) (hc : Mth W ht' (.ref f) root m ds MP) (hp : ∀ mo, MP mo → RsOf ρ y root P mo) (hne : args ≠ [] := by decide) (hh : ht' ≤ ht := by omega)
    (he : ∀ env : Env, ∃ pl, eval (.Call (.Attribute (.Name y p) name apos) args [] pos) env = (do
      let ov ← eval (.Name y p) env
      standAt apos.atName
      let (f, first) ← holding [ov] (getMethod ov name pl)
      callWith pos f first (backTo pos (starEach args env)) []) := by intro _; exact ⟨_, rfl⟩)
    (hn : (y == ("__classdict__" : Str)) = false := by decide) (hd : (y == ("__debug__" : Str)) = false := by decide) : EvM W ht sc ρ obs (.Call (.Attribute (.Name y p) name apos) args [] pos) P := by
  intro A env base reg s Q E H hQ
  obtain ⟨pl, he⟩ := he env
  obtain ⟨v, V, rfl, _⟩ := H.at hy
  obtain ⟨ox, od, I, _, _, _, r2⟩ := H.instO hy h1 h2
  refine MethodCall_ (pl := pl) (name_var H V (method_fn H.ok.k I hm.ga hm.gx hm.at_ hm.fn ?_ (callO (Step.refl _ _) H hy ha hne hm.keep hc hh hp hQ)) hn hd) he
  show (lookIn name od).map (·.isSome) = some false
  rw [(ns_look r2).2 hl]; rfl
theorem EvM.meth0 {name : Str} {p apos pos : Pos} {f C dx : Addr} {sl : List (Option VD)} {es : List (Str × VD)} {MP : MO → Prop} {P : Rs → Prop} (hy : (y, .ow (RM root m)) ∈ ρ) (h1 : m root = some (.inst C dx sl)) (h2 : m dx = some (.ns es)) (hl : es.lookup name = none) (hm : MethIn W.K C name f)
    (hc : Mth W ht' (.ref f) root m [] MP) (hp : ∀ mo, MP mo → RsOf ρ y root P mo) (hh : ht' ≤ ht := by omega)
    (he : ∀ env : Env, ∃ pl, eval (.Call (.Attribute (.Name y p) name apos) [] [] pos) env = (do
      let ov ← eval (.Name y p) env
      standAt apos.atName
      let (f, first) ← holding [ov] (getMethod ov name pl)
      callWith pos f first (backTo pos (starEach [] env)) []) := by intro _; exact ⟨_, rfl⟩)
    (hn : (y == ("__classdict__" : Str)) = false := by decide) (hd : (y == ("__debug__" : Str)) = false := by decide) : EvM W ht sc ρ obs (.Call (.Attribute (.Name y p) name apos) [] [] pos) P := by
  intro A env base reg s Q E H hQ
  obtain ⟨pl, he⟩ := he env
  obtain ⟨v, V, rfl, _⟩ := H.at hy
  obtain ⟨ox, od, I, _, _, _, r2⟩ := H.instO hy h1 h2
  refine MethodCall_ (pl := pl) (name_var H V (method_fn H.ok.k I hm.ga hm.gx hm.at_ hm.fn ?_ (callO0 (Step.refl _ _) H hy hm.keep hc hh hp hQ)) hn hd) he
  show (lookIn name od).map (·.isSome) = some false
  rw [(ns_look r2).2 hl]; rfl
noncomputable def StP (Post : Out → Prop) : Rs → Prop
  | .v _ ρ => Post (.nx ρ)
  | .o _ ρ => Post (.nx ρ)
  | .x x ρ => Post (.ex x ρ)
theorem Ex1.exprM {e : Expr} {pos : Pos} (he : EvM W ht sc ρ obs e (StP Post)) (hs : ∀ env : Env, env.scope = sc → swapsWith e none pos.line env = pure false := by intro _ _; rfl) : Ex1 W ht sc ρ obs (.Expr e pos) Post := by
  intro A env base reg s Q E H hQ hE
  have hi : interactive env = false := by unfold interactive; rw [H.eok.kind]; rfl
  refine wpAny_Expr_any (he H fun r s' reg' v hp st ra => ?_) hi (hs env H.sc)
  cases r with
  | v d ρ => exact hQ (.nx ρ) .next s' reg' hp st ra.2
  | o a ρ => exact hQ (.nx ρ) .next s' reg' hp st ra.2
  | x x ρ => exact hE x ρ v s' reg' hp st ra.2 ra.1
noncomputable def AsP (y : Str) (Post : Out → Prop) : Rs → Prop
  | .v d ρ => ∃ ρ', Upd ρ y (.sh d) ρ' ∧ Post (.nx ρ')
  | .o a ρ => ∃ ρ', Upd ρ y (.ob a) ρ' ∧ Post (.nx ρ')
  | .x x ρ => Post (.ex x ρ)
theorem Ex1.assignM {e : Expr} {p pos : Pos} (hk : sc.names.lookup y = some .local ∨ sc.names.lookup y = some .cell) (he : EvM W ht sc ρ obs e (AsP y Post)) (hs : ∀ env : Env, env.scope = sc → swapsWith e (some (.Name y p)) pos.line env = pure false := by intro _ _; rfl) :
    Ex1 W ht sc ρ obs (.Assign [.Name y p] e pos) Post := by
  intro A env base reg s Q E H hQ hE
  refine wpAny_Assign_Name (he H fun r s' reg' v hp st ra => ?_) (hs env H.sc)
  cases r with
  | v d ρ =>
    obtain ⟨ρ', u, hp⟩ := hp
    exact store_var (b := .sh d) ra.2 hk ra.1 u fun s₂ H₂ st₂ => hQ _ _ _ reg' hp (st.trans st₂) H₂
  | o a ρ =>
    obtain ⟨ρ', u, hp⟩ := hp
    exact store_var (b := .ob a) ra.2 hk ra.1 u fun s₂ H₂ st₂ => hQ _ _ _ reg' hp (st.trans st₂) H₂
  | x x ρ => exact hE x ρ v s' reg' hp st ra.2 ra.1
end
section
open PySem PySem.W PySem.Calls PyProof.Rows PySem.Spec PySem.Builtin PySem.Builtin.ObjectAttr PySem.Builtin.Getset_descriptor
noncomputable def putL (es : List (Str × VD)) (n : Str) (d : VD) : List (Str × VD) := match es with
  | [] => [(n, d)]
  | (k, x) :: r => if k == n then (k, d) :: r else (k, x) :: putL r n d
theorem ns_put {n : Str} {d : VD} {v : Value} {h : Int} {t : Tok} (hv : VRel d v) : ∀ {es : List (Str × VD)} {l : List DictEntry}, All2 NsR es l →
    (∀ i, l.findIdx? (·.key.isStr n) = some i → All2 NsR (putL es n d) (l.modify i fun e => { e with val := v })) ∧ (l.findIdx? (·.key.isStr n) = none → All2 NsR (putL es n d) (l ++ [⟨h, .str n t, v⟩])) := by
  intro es l r
  induction r with
  | nil => exact ⟨fun i e => (nomatch e), fun _ => .cons ⟨⟨t, rfl⟩, hv⟩ .nil⟩
  | @cons p e es l q _ ih =>
    obtain ⟨k, x⟩ := p
    obtain ⟨⟨tk, hk⟩, hx⟩ := q
    have hkey : e.key.isStr n = (k == n) := by rw [hk]; rfl
    by_cases hn : (k == n) = true
    · refine ⟨fun i z => ?_, fun z => ?_⟩
      · rw [List.findIdx?_cons, hkey, hn] at z
        cases z
        unfold putL
        rw [if_pos hn]
        exact .cons ⟨⟨tk, hk⟩, hv⟩ (by assumption)
      · rw [List.findIdx?_cons, hkey, hn] at z; contradiction
    · have hn' : (k == n) = false := by simpa using hn
      refine ⟨fun i z => ?_, fun z => ?_⟩
      · rw [List.findIdx?_cons, hkey, hn'] at z
        simp only [Bool.false_eq_true, if_false] at z
        obtain ⟨j, hj, rfl⟩ := Option.map_eq_some_iff.mp z
        unfold putL
        rw [if_neg hn]
        exact .cons ⟨⟨tk, hk⟩, hx⟩ (ih.1 j hj)
      · rw [List.findIdx?_cons, hkey, hn'] at z
        simp only [Bool.false_eq_true, if_false] at z
        unfold putL
        rw [if_neg hn]
        exact .cons ⟨⟨tk, hk⟩, hx⟩ (ih.2 (Option.map_eq_none_iff.mp z))
theorem putName_rel {n : Str} {d : VD} {v : Value} {h : Int} {t : Tok} {es : List (Str × VD)} {o : Obj} (hv : VRel d v) (r : ORel (.ns es) o) : ORel (.ns (putL es n d)) (Obj.putName n h (.str n t) v o) := by
  obtain ⟨l, k, ss, rfl, r⟩ := r
  rw [Obj.putName_eq]
  unfold Obj.putNameByArray
  have key := ns_put (n := n) (h := h) (t := t) hv r
  have e : l.findIdx? (·.key.isStr n) = l.toList.findIdx? (·.key.isStr n) := by rw [← List.findIdx?_toArray]
  dsimp only
  rw [e]
  cases q : l.toList.findIdx? (·.key.isStr n) with
  | some i => exact ⟨_, k, ss, rfl, by rw [Array.toList_modify]; exact key.1 i q⟩
  | none => exact ⟨_, k + 1, ss, rfl, by rw [Array.toList_push]; exact key.2 q⟩
theorem putL_len (es : List (Str × VD)) (n : Str) (d : VD) : (putL es n d).length ≤ es.length + 1 := by
  induction es with
  | nil => simp [putL]
  | cons p r ih => obtain ⟨k, x⟩ := p; unfold putL; split <;> simp <;> omega
structure AttrIn (K : Frag) (C : Addr) (name : Str) : Prop where
  ga : findIn K (.ref C) "__getattribute__" = some (some (.builtin "object.__getattribute__"))
  dict : hasDictIn K C = true
  no : findIn K (.ref C) name = some none
structure SlotIn (K : Frag) (C : Addr) (name : Str) (p : Addr) (i : Nat) : Prop where
  ga : findIn K (.ref C) "__getattribute__" = some (some (.builtin "object.__getattribute__"))
  gx : findIn K (.ref C) "__getattr__" = some none
  at_ : findIn K (.ref C) name = some (some (.ref p))
  get : specialIn K (.ref p) "__get__" = some (some (.builtin "member_descriptor.__get__"))
  takes : takesIn K (.ref p) = some true
  cls : (clsIn K C).isSome = true
  slot : slotIn K p C = some i
structure StoreIn (K : Frag) (C : Addr) (name : Str) (tk : Option Value) : Prop where
  sa : findIn K (.ref C) "__setattr__" = some (some (.builtin "object.__setattr__"))
  plain : plainOver K C = true
  tk : takerIn K C name = some tk
section
variable {W : Wrld} {ht ht' : Nat} {sc : Scope} {ρ ρ' : Vars} {obs : Obs} {Post : Out → Prop} {A : Around} {env : Env} {base : Heap} {reg : Reg} {s s' : Shared} {x y : Str} {root : Addr} {m m' : HM}
theorem get_dict {a C dx : Addr} {sl : List (Option VD)} {es : List (Str × VD)} {name : Str} {d : VD} {b : Bool} {Q E : Value → Shared → Prop} (H : Here W ht sc ρ obs A env base reg s) (hx : (y, .ow (RM root m)) ∈ ρ) (h1 : m a = some (.inst C dx sl)) (h2 : m dx = some (.ns es)) (hl : es.lookup name = some d) (K : AttrIn W.K C name)
    (hQ : ∀ v, VRel d v → Q v { s with toks := s.toks + 1 }) : wpAny W.M A (getAttr (.ref a) name b) Q E s := by
  obtain ⟨ox, od, I, _, _, _, r2⟩ := H.instO hx h1 h2
  obtain ⟨v, hv, rv⟩ := (ns_look r2).1 d hl
  exact get_value H.ok.k I K.ga (findObj_own K.dict K.no rfl hv) rv.handed (hQ v rv)
theorem get_slot {a C dx p : Addr} {i : Nat} {sl : List (Option VD)} {es : List (Str × VD)} {name : Str} {d : VD} {b : Bool} {Q E : Value → Shared → Prop} (H : Here W ht sc ρ obs A env base reg s) (hx : (y, .ow (RM root m)) ∈ ρ) (h1 : m a = some (.inst C dx sl)) (h2 : m dx = some (.ns es)) (hl : sl[i]? = some (some d)) (K : SlotIn W.K C name p i)
    (hQ : ∀ v, VRel d v → Q v { s with toks := s.toks + 1 }) : wpAny W.M A (getAttr (.ref a) name b) Q E s := by
  obtain ⟨ox, od, I, _, _, r1, r2⟩ := H.instO hx h1 h2
  obtain ⟨ss, hox, r⟩ := r1
  obtain ⟨u, hu, v, rfl, rv⟩ := r.get hl
  refine get_bind H.ok.k I K.ga (findObj_data K.cls K.at_ K.get K.takes) K.gx (wpAny_call (slot_get (s := { s with toks := s.toks + 1 }) (v := v) H.ok.k I K.slot ?_ ?_))
  · rw [hox]; simpa using (show ss[i]? = some (some v) by simpa using hu) ▸ rfl
  · exact handed_on rv.handed (hQ v rv)
inductive Rd (K : Frag) (m : HM) (a : Addr) (name : Str) (d : VD) : Prop
  | dict {C dx : Addr} {sl : List (Option VD)} {es : List (Str × VD)} : m a = some (.inst C dx sl) → m dx = some (.ns es) → es.lookup name = some d → AttrIn K C name → Rd K m a name d
  | slot {C dx p : Addr} {i : Nat} {sl : List (Option VD)} {es : List (Str × VD)} : m a = some (.inst C dx sl) → m dx = some (.ns es) → sl[i]? = some (some d) → SlotIn K C name p i → Rd K m a name d
theorem get_any {a : Addr} {name : Str} {d : VD} {b : Bool} {Q E : Value → Shared → Prop} (H : Here W ht sc ρ obs A env base reg s) (hx : (y, .ow (RM root m)) ∈ ρ) (R : Rd W.K m a name d) (hQ : ∀ v, VRel d v → Q v { s with toks := s.toks + 1 }) : wpAny W.M A (getAttr (.ref a) name b) Q E s := by
  cases R with
  | dict h1 h2 h3 h4 => exact get_dict H hx h1 h2 h3 h4 hQ
  | slot h1 h2 h3 h4 => exact get_slot H hx h1 h2 h3 h4 hQ
noncomputable def AttrNode (e : Expr) (name : Str) (pos : Pos) : Prop := ∀ env : Env, eval (.Attribute e name pos) env = (do
      let o ← eval e env
      standAt pos.atName
      let r ← holding [o] (getAttr o name true)
      letTemporaryGo e o r
      pure r)
theorem attr_any {e : Expr} {name : Str} {pos : Pos} {a : Addr} {d : VD} {Q E : Value → Shared → Prop} (H : Here W ht sc ρ obs A env base reg s) (hx : (y, .ow (RM root m)) ∈ ρ) (he : EvV W ht sc ρ obs e (.ref a)) (R : Rd W.K m a name d) (hn : AttrNode e name pos)
    (hQ : ∀ s' v, Ext (Loose reg) s s' → VRel d v → Q v s') : wpAny W.M A (eval (.Attribute e name pos) env) Q E s :=
  Attribute_any_ (he H fun _ x₁ => get_any (H.ext x₁) hx R fun v rv => hQ _ v (x₁.trans (Ext.tok _ _)) rv) (hn env)
theorem EvV.attr {e : Expr} {name : Str} {pos : Pos} {a b : Addr} (hx : (y, .ow (RM root m)) ∈ ρ) (he : EvV W ht sc ρ obs e (.ref a)) (R : Rd W.K m a name (.ref b)) (hn : AttrNode e name pos := by intro _; rfl) : EvV W ht sc ρ obs (.Attribute e name pos) (.ref b) := by
  intro A env base reg s Q E H hQ
  exact attr_any H hx he R hn fun s' v x rv => by cases rv; exact hQ s' x
theorem Ev.attr_int {e : Expr} {name : Str} {pos : Pos} {a : Addr} {i : Int} (hx : (y, .ow (RM root m)) ∈ ρ) (he : EvV W ht sc ρ obs e (.ref a)) (R : Rd W.K m a name (.int i)) (hn : AttrNode e name pos := by intro _; rfl) : Ev W ht sc ρ obs (.Attribute e name pos) (.int i) := by
  intro A env base reg s Q E H hQ
  exact attr_any H hx he R hn fun s' v x rv => hQ s' v x rv
theorem set_dict {a C dx : Addr} {sl : List (Option VD)} {es : List (Str × VD)} {name : Str} {d : VD} {v : Value} {Q : Unit → Shared → Prop} {E : Value → Shared → Prop} (H : Here W ht sc ρ obs A env base reg s) (hx : (y, .ow (RM root m)) ∈ ρ) (h1 : m a = some (.inst C dx sl)) (h2 : m dx = some (.ns es)) (K : StoreIn W.K C name none) (hd : hasDictIn W.K C = true)
    (hv : VRel d v) (hz : es.length < 900) (u : Upd ρ y (.ow (RM root (m.set dx (.ns (putL es name d))))) ρ')
    (hQ : ∀ s', Here W ht sc ρ' obs A env base reg s' → Step reg s reg s' → Q () s') : wpAny W.M A (setAttr (.ref a) name v) Q E s := by
  obtain ⟨ox, od, I, hdx, gd, r1, r2⟩ := H.instO hx h1 h2
  refine set_plain H.ok.k I K.sa (osa_open (s := { s with toks := s.toks + 1 }) H.ok.k I K.plain K.tk fun b => ?_)
  obtain ⟨cd, hc, hcd⟩ := any_some hd
  have hl : ∃ r, lookIn name od = some r := by
    cases q : es.lookup name with
    | none => exact ⟨_, (ns_look r2).2 q⟩
    | some vd => obtain ⟨v, hv, _⟩ := (ns_look r2).1 vd q; exact ⟨_, hv⟩
  obtain ⟨ss, hox, _⟩ := r1
  subst hox
  obtain ⟨l, k, ss', hod, rr⟩ := id r2
  subst hod
  have R' := putName_rel (n := name) (h := PyData.keyHash W.w.params name) (t := s.toks + 1) hv r2
  obtain ⟨l', k', ss'', ho', rr'⟩ := id R'
  have hfr : (Obj.putName name (PyData.keyHash W.w.params name) (.str name (s.toks + 1)) v { cls := .type "dict", dict := none, data := .dict l k, slots := ss' }).isFreed = false := by rw [ho']; rfl
  have D' := Heap.get?_update_self (Obj.putName name (PyData.keyHash W.w.params name) (.str name (s.toks + 1)) v) gd hfr
  have hz' : l'.size ≤ es.length + 1 := by
    have := rr'.length
    have h2 := putL_len es name d
    simp only [Array.length_toList] at this; lia
  obtain ⟨H', st⟩ := H.mutO (tk := s.toks + 1 + 1) hx h2 (Heap.SameBut.update ..) D' R' u
  refine wpAny_bind (wpAny_pure (wpAny_bind (wpAny_bind (wpAny_loadPart I.at_ (wpAny_bind (looks_clsIn H.ok.k hc _ _ _ _ (fun _ _ e => e) ?_))))))
  rw [hcd]
  refine wpAny_pure (a := some dx) (wpAny_bind (wpAny_pure (wpAny_bind ?_)))
  unfold nsSet
  refine wpAny_bind (wpAny_bind (wpAny_askSetting (wpAny_pure (wpAny_bind (wpAny_mkText (wpAny_bind (wpAny_loadPart gd ?_)))))))
  dsimp only
  have c : (!l.any (·.key.isStr name) && l.any (·.refKey)) = false := by
    have := (ns_find (name := name) rr).2.2
    rw [Array.any_toList] at this
    rw [this, Bool.and_false]
  rw [aRefKeyMayBeTheName_at, c]
  refine wpAny_updatePart gd ?_
  refine wpAny_bind (wpAny_lookBehind D' (by rw [ho']; exact pastItsLine_dict (by rw [sizeLine_eq]; lia)) ?_)
  exact wpAny_pure (hQ _ H' st)
theorem set_slot {a C dx p : Addr} {i : Nat} {sl : List (Option VD)} {es : List (Str × VD)} {name : Str} {d : VD} {v : Value} {Q : Unit → Shared → Prop} {E : Value → Shared → Prop} (H : Here W ht sc ρ obs A env base reg s) (hx : (y, .ow (RM root m)) ∈ ρ) (h1 : m a = some (.inst C dx sl)) (h2 : m dx = some (.ns es)) (K : StoreIn W.K C name (some (.ref p))) (KS : SlotIn W.K C name p i)
    (hT : typeIn W.K (.ref p) = some (.type "member_descriptor")) (hv : VRel d v) (hi : i < 1000) (u : Upd ρ y (.ow (RM root (m.set a (.inst C dx ((sl ++ List.replicate (i + 1 - sl.length) none).set i (some d)))))) ρ')
    (hQ : ∀ s', Here W ht sc ρ' obs A env base reg s' → Step reg s reg s' → Q () s') : wpAny W.M A (setAttr (.ref a) name v) Q E s := by
  obtain ⟨ox, od, I, hdx, gd, r1, r2⟩ := H.instO hx h1 h2
  refine set_plain H.ok.k I K.sa (osa_descr (s := { s with toks := s.toks + 1 }) KF.slot_mset H.ok.k I K.plain K.tk hT ?_)
  obtain ⟨n, tn, owner, behind, tb, d0, sl0, cd, ho, hc, hm, hb, hie⟩ := slot_of H.ok.k KS.slot
  obtain ⟨ss, hox, rs⟩ := r1
  subst hox
  have hx' := I.at_
  have L0 := I.type (M := W.M)
  obtain ⟨hh, g, dr, t, os⟩ := s
  have L1 := looks_mroIn (M := W.M) H.ok.k hm
  have L2 : Looks W.M hh (Slots.slotNamesOf (.ref C)) cd.slotNames := (looks_clsIn H.ok.k hc).andThen .now
  dsimp only at ho hx' L0 L1
  have f0 := looks_field (M := W.M) ho 0 (v := .str n tn) rfl
  have f1 := looks_field (M := W.M) ho 1 (v := owner) rfl
  have f3 := looks_field (M := W.M) ho 3 (v := .builtin "proto.slot#set") rfl
  have f4 := looks_field (M := W.M) ho 4 (v := .int behind tb) rfl
  have f5 : Looks W.M hh (descrItself (.ref p)) [.ref p] := ((Looks.ld (part := none) ho).andThen .now).andThen (Looks.of_pure (by kernel_rfl))
  have hlen : ss.size = sl.length := by simpa using rs.length
  have R' : ORel (.inst C dx ((sl ++ List.replicate (i + 1 - sl.length) none).set i (some d))) { cls := .ref C, dict := some dx, data := .plain, slots := (ss ++ Array.replicate (i + 1 - ss.size) none).setIfInBounds i (some v) } := by
    refine ⟨_, rfl, ?_⟩
    rw [Array.toList_setIfInBounds, Array.toList_append, Array.toList_replicate, hlen]
    refine All2.set (All2.append rs ?_) ⟨v, rfl, hv⟩
    generalize i + 1 - sl.length = k
    induction k with
    | zero => exact .nil
    | succ k ih => exact .cons rfl ih
  obtain ⟨H', st⟩ := H.mutO (tk := t + 1) (h' := hh.update a fun o => { o with slots := (o.slots ++ Array.replicate (i + 1 - o.slots.size) none).setIfInBounds i (some v) }) hx h1 (Heap.SameBut.update ..) (Heap.get?_update_self _ hx' rfl) R' u
  refine codeAny_call_builtin KF.slot_mset.plain KF.entry_mset (KF.slot_mset.check _ _ _ _ _ _ _ _ ⟨_, ho, rfl⟩ (KF.args_mset _ _ _) ?_)
  unfold Builtin.«member_descriptor.__set__» descrSet descrStoreThrough descrCheckInstance descrNameAndClass isInstance
  repeat lk
  refine ⟨Code.quiet_builtin _ (by decide +kernel), codeAny_builtin KF.entry_slotset ?_⟩
  unfold Builtin.«proto.slot#set» Slots.target
  repeat lk
  rw [if_neg hb]
  refine wpAny_pure (wpAny_bind ?_)
  unfold setSlotAt
  dsimp only
  rw [← hie, if_neg (by rw [sizeLine_eq]; (lia -abstractProof))]
  exact wpAny_updatePart hx' (wpAny_pure (hQ _ H' st))
end
end
noncomputable def EvD (W : Wrld) (ht : Nat) (sc : Scope) (ρ : Vars) (obs : Obs) (e : Expr) (d : VD) : Prop :=
  ∀ ⦃A : Around⦄ ⦃env : Env⦄ ⦃base : Heap⦄ ⦃reg : Reg⦄ ⦃s : Shared⦄ ⦃Q : Value → Shared → Prop⦄ ⦃E : Value → Shared → Prop⦄, Here W ht sc ρ obs A env base reg s →
    (∀ s' v, Ext (Loose reg) s s' → VRel d v → Q v s') → wpAny W.M A (eval e env) Q E s
section
variable {W : Wrld} {ht ht' : Nat} {sc : Scope} {ρ ρ' : Vars} {obs : Obs} {Post : Out → Prop} {A : Around} {env : Env} {base : Heap} {reg : Reg} {s s' : Shared} {x y : Str} {root : Addr} {m m' : HM}
theorem EvD.int {e : Expr} {i : Int} (h : Ev W ht sc ρ obs e (.int i)) : EvD W ht sc ρ obs e (.int i) := fun _ _ _ _ _ _ _ H hQ => h H fun s' v x r => hQ s' v x r
theorem EvD.none {e : Expr} (h : Ev W ht sc ρ obs e .none) : EvD W ht sc ρ obs e .none := fun _ _ _ _ _ _ _ H hQ => h H fun s' v x r => hQ s' v x r
inductive Wr (K : Frag) (m : HM) (a : Addr) (name : Str) (d : VD) : HM → Prop
  | dict {C dx : Addr} {sl : List (Option VD)} {es : List (Str × VD)} : m a = some (.inst C dx sl) → m dx = some (.ns es) → StoreIn K C name none → hasDictIn K C = true → es.length < 900 → Wr K m a name d (m.set dx (.ns (putL es name d)))
  | slot {C dx p : Addr} {i : Nat} {sl : List (Option VD)} {es : List (Str × VD)} : m a = some (.inst C dx sl) → m dx = some (.ns es) → StoreIn K C name (some (.ref p)) → SlotIn K C name p i → typeIn K (.ref p) = some (.type "member_descriptor") → i < 1000 →
      Wr K m a name d (m.set a (.inst C dx ((sl ++ List.replicate (i + 1 - sl.length) none).set i (some d))))
theorem set_any {a : Addr} {name : Str} {d : VD} {v : Value} {Q : Unit → Shared → Prop} {E : Value → Shared → Prop} (H : Here W ht sc ρ obs A env base reg s) (hx : (y, .ow (RM root m)) ∈ ρ) (w : Wr W.K m a name d m') (hv : VRel d v) (u : Upd ρ y (.ow (RM root m')) ρ')
    (hQ : ∀ s', Here W ht sc ρ' obs A env base reg s' → Step reg s reg s' → Q () s') : wpAny W.M A (setAttr (.ref a) name v) Q E s := by
  cases w with
  | dict h1 h2 h3 h4 h5 => exact set_dict H hx h1 h2 h3 h4 hv h5 u hQ
  | slot h1 h2 h3 h4 h5 h6 => exact set_slot H hx h1 h2 h3 h4 h5 hv h6 u hQ
theorem Ex1.attr_set {e val : Expr} {name : Str} {p pos : Pos} {a : Addr} {d : VD} (hx : (y, .ow (RM root m)) ∈ ρ) (hv : EvD W ht sc ρ obs val d) (he : EvV W ht sc ρ obs e (.ref a)) (w : Wr W.K m a name d m') (u : Upd ρ y (.ow (RM root m')) ρ') (h : Post (.nx ρ'))
    (hs : ∀ env : Env, env.scope = sc → swapsWith val (some (.Attribute e name p)) pos.line env = pure false := by intro _ _; rfl) : Ex1 W ht sc ρ obs (.Assign [.Attribute e name p] val pos) Post := by
  intro A env base reg s Q E H hQ hE
  refine plainObj_wpAny_Assign_Attribute (hv H fun s₁ v x₁ rv => he (H.ext x₁) fun s₂ x₂ => ?_) (hs env H.sc)
  exact set_any ((H.ext x₁).ext x₂) hx w rv u fun s₃ H₃ st₃ => hQ _ _ _ reg h ((Step.ext (x₁.trans x₂)).trans st₃) H₃
theorem Ex1.attr_add {e val : Expr} {name : Str} {p pos : Pos} {a : Addr} {i j : Int} (hx : (y, .ow (RM root m)) ∈ ρ) (he : EvV W ht sc ρ obs e (.ref a)) (R : Rd W.K m a name (.int i)) (hv : Ev W ht sc ρ obs val (.int j)) (w : Wr W.K m a name (.int (i + j)) m') (u : Upd ρ y (.ow (RM root m')) ρ') (h : Post (.nx ρ')) :
    Ex1 W ht sc ρ obs (.AugAssign (.Attribute e name p) .Add val pos) Post := by
  intro A env base reg s Q E H hQ hE
  refine wpAny_AugAssign_AttributeAny (he H fun s₁ x₁ => get_any (H.ext x₁) hx R fun v rv => ?_)
  obtain ⟨t, rfl⟩ := rv
  have x₂ : Ext (Loose reg) s₁ { s₁ with toks := s₁.toks + 1 } := Ext.tok _ _
  refine hv ((H.ext x₁).ext x₂) fun s₃ v₃ x₃ r₃ => ?_
  obtain ⟨t', rfl⟩ := r₃
  refine wpAny_iadd_int ?_
  have x₄ : Ext (Loose reg) s₃ { s₃ with toks := s₃.toks + 1 } := Ext.tok _ _
  exact set_any ((((H.ext x₁).ext x₂).ext x₃).ext x₄) hx w ⟨_, rfl⟩ u fun s₅ H₅ st₅ => hQ _ _ _ reg h ((Step.ext (((x₁.trans x₂).trans x₃).trans x₄)).trans st₅) H₅
theorem Ex1.attr_sub {e val : Expr} {name : Str} {p pos : Pos} {a : Addr} {i j : Int} (hx : (y, .ow (RM root m)) ∈ ρ) (he : EvV W ht sc ρ obs e (.ref a)) (R : Rd W.K m a name (.int i)) (hv : Ev W ht sc ρ obs val (.int j)) (w : Wr W.K m a name (.int (i - j)) m') (u : Upd ρ y (.ow (RM root m')) ρ') (h : Post (.nx ρ')) :
    Ex1 W ht sc ρ obs (.AugAssign (.Attribute e name p) .Sub val pos) Post := by
  intro A env base reg s Q E H hQ hE
  refine wpAny_AugAssign_AttributeAny (he H fun s₁ x₁ => get_any (H.ext x₁) hx R fun v rv => ?_)
  obtain ⟨t, rfl⟩ := rv
  have x₂ : Ext (Loose reg) s₁ { s₁ with toks := s₁.toks + 1 } := Ext.tok _ _
  refine hv ((H.ext x₁).ext x₂) fun s₃ v₃ x₃ r₃ => ?_
  obtain ⟨t', rfl⟩ := r₃
  refine PyProof.Rows.isub_int ?_
  have x₄ : Ext (Loose reg) s₃ { s₃ with toks := s₃.toks + 1 } := Ext.tok _ _
  exact set_any ((((H.ext x₁).ext x₂).ext x₃).ext x₄) hx w ⟨_, rfl⟩ u fun s₅ H₅ st₅ => hQ _ _ _ reg h ((Step.ext (((x₁.trans x₂).trans x₃).trans x₄)).trans st₅) H₅
theorem Ex1.appendO {e val : Expr} {apos pos pos' : Pos} {a : Addr} {vs : List VD} {d : VD} (hx : (y, .ow (RM root m)) ∈ ρ) (he : EvV W ht sc ρ obs e (.ref a)) (ha : m a = some (.lst vs)) (hv : EvD W ht sc ρ obs val d) (hz : vs.length ≤ sizeLine) (u : Upd ρ y (.ow (RM root (m.set a (.lst (vs ++ [d]))))) ρ') (h : Post (.nx ρ'))
    (hb : ∀ env : Env, attributeBase e "append" env (eval e env) = eval e env := by intro _; rfl) (hline : (apos.endLine == pos.line) = true := by rfl) (hp : Plain val := by intro _ _; rfl) :
    Ex1 W ht sc ρ obs (.Expr (.Call (.Attribute e "append" apos) [val] [] pos) pos') Post := by
  intro A env base reg s Q E H hQ hE
  have e1 : backTo pos (starEach [val] env) = [(false, eval val env)] := by rw [hp env []]; rfl
  have hi : interactive env = false := by unfold interactive; rw [H.eok.kind]; rfl
  refine wpAny_Expr_any (wpAny_Call_append (hb env) (by rw [e1]; rfl) hline e1 (he H fun s₁ x₁ => ?_)) hi rfl
  have H₁ := H.ext x₁
  obtain ⟨ra, o, g, l, n, rfl, rl⟩ := H₁.own hx ha
  refine ⟨a, l, rfl, ⟨_, n, g, rfl, rfl, rfl⟩, hv H₁ fun s₂ v x₂ rv => ?_⟩
  have H₂ := H₁.ext x₂
  have pl : s₂.heap.PlainList a l := ⟨n, x₂.exact (not_loose ra) g⟩
  refine wpAny_list_append_plain pl (fun h' pl' sb => ?_) (by have := rl.length; simp at this; lia)
  obtain ⟨n', g'⟩ := pl'
  obtain ⟨H', st⟩ := H₂.mutO (tk := s₂.toks) (od' := .lst (vs ++ [d])) hx ha sb g' ⟨_, n', rfl, by rw [Array.toList_push]; exact rl.append (.cons rv .nil)⟩ u
  exact hQ _ _ _ reg h ((Step.ext (x₁.trans x₂)).trans st) H'
theorem Ex1.clearO {e : Expr} {apos pos pos' : Pos} {a : Addr} {vs : List VD} (hx : (y, .ow (RM root m)) ∈ ρ) (he : EvV W ht sc ρ obs e (.ref a)) (ha : m a = some (.lst vs)) (hz : vs.length ≤ sizeLine) (u : Upd ρ y (.ow (RM root (m.set a (.lst [])))) ρ') (h : Post (.nx ρ'))
    (hb : ∀ env : Env, attributeBase e "clear" env (eval e env) = eval e env := by intro _; rfl) (hline : (apos.endLine == pos.line) = true := by rfl) :
    Ex1 W ht sc ρ obs (.Expr (.Call (.Attribute e "clear" apos) [] [] pos) pos') Post := by
  intro A env base reg s Q E H hQ hE
  have hi : interactive env = false := by unfold interactive; rw [H.eok.kind]; rfl
  refine wpAny_Expr_any (wpAny_Call_method0_late (hb env) hline (he H fun s₁ x₁ => ?_)) hi rfl
  have H₁ := H.ext x₁
  obtain ⟨ra, o, g, l, n, rfl, rl⟩ := H₁.own hx ha
  refine ⟨"list", "list.clear", PySem.F.plainAttrs_list, PySem.F.slot_list_clear, PySem.F.type_list_clear, ⟨_, g, rfl⟩, fun b e => by cases e; exact ⟨_, g, rfl⟩, ?_⟩
  refine PySem.P.clear_list g ?_ (by have := rl.length; simp at this; lia)
  have ho' : (s₁.heap.update a (Obj.mapSeq fun _ => #[])).get? a = some { cls := .type "list", data := .seq #[] (if (#[] : Array Value).size == l.size then n else n + 1) } := by
    rw [Heap.get?_update_self _ g rfl]; rfl
  obtain ⟨H', st⟩ := H₁.mutO (tk := s₁.toks) (od' := .lst []) hx ha (Heap.SameBut.update ..) ho' ⟨_, _, rfl, .nil⟩ u
  exact hQ _ _ _ reg h ((Step.ext x₁).trans st) H'
theorem dct_of {h : Heap} {a : Addr} {kvs : List (Int × VD)} {o : Obj} {prog : Program} {w : World} (g : h.get? a = some o) (r : ORel (.dct kvs) o) : ∃ us : List Value, All2 VRel (kvs.map (·.2)) us ∧ h.DictOf (intKind prog w) a ((kvs.map (·.1)).zip us) := by
  obtain ⟨l, n, rfl, nd, rl⟩ := r
  have key : ∀ {kvs : List (Int × VD)} {es : List DictEntry}, All2 KvR kvs es → ∃ us : List Value, All2 VRel (kvs.map (·.2)) us ∧ Pairs (intKind prog w) es ((kvs.map (·.1)).zip us) ∧ ∀ e ∈ es, ∃ k, (intKind prog w).is k e.key = true ∧ e.hash = hashInt k := by
    intro kvs es r
    induction r with
    | nil => exact ⟨[], .nil, .nil, fun _ h => nomatch h⟩
    | @cons p e kvs es q _ ih =>
      obtain ⟨us, h1, h2, h3⟩ := ih
      obtain ⟨⟨t, hk⟩, hh, hv⟩ := q
      refine ⟨e.val :: us, .cons hv h1, .cons (by rw [hk]; exact intKind_is _ _ _ _) rfl h2, fun x hx => ?_⟩
      rcases List.mem_cons.mp hx with rfl | hx
      · exact ⟨p.1, by rw [hk]; exact intKind_is _ _ _ _, hh⟩
      · exact h3 x hx
  obtain ⟨us, h1, h2, h3⟩ := key rl
  refine ⟨us, h1, ⟨_, l, n, g, ⟨rfl, rfl, rfl⟩, rfl, fun e he => h3 e (by simpa using he), h2, ?_⟩⟩
  rw [List.map_fst_zip (by have := h1.length; simp at this; simp [this])]; exact nd
theorem of_dct {h : Heap} {a : Addr} {kvs : List (Int × VD)} {us : List Value} {prog : Program} {w : World} (D : h.DictOf (intKind prog w) a ((kvs.map (·.1)).zip us)) (r : All2 VRel (kvs.map (·.2)) us) : ∃ o, h.get? a = some o ∧ ORel (.dct kvs) o := by
  obtain ⟨⟨c, d, dt, sl⟩, es, ep, g, ⟨x1, x2, x3⟩, hd, hk, hp, hn⟩ := D
  simp only at x1 x2 x3 hd
  subst x1 x2 x3 hd
  have hl := r.length
  simp only [List.length_map] at hl
  refine ⟨_, g, es, ep, rfl, by rw [List.map_fst_zip (by simp [hl])] at hn; exact hn, ?_⟩
  have key : ∀ {kvs : List (Int × VD)} {us : List Value} {es : List DictEntry}, All2 VRel (kvs.map (·.2)) us → Pairs (intKind prog w) es ((kvs.map (·.1)).zip us) → (∀ e ∈ es, ∃ k, (intKind prog w).is k e.key = true ∧ e.hash = hashInt k) → All2 KvR kvs es := by
    intro kvs
    induction kvs with
    | nil => intro us es r p _; cases r; cases p; exact .nil
    | cons p kvs ih =>
      intro us es r q hk
      cases r with
      | cons hv rs =>
        simp only [List.map_cons, List.zip_cons_cons] at q
        cases q with
        | @cons e _ es' _ h1 h2 h3 =>
          obtain ⟨k', q1, q2⟩ := hk e List.mem_cons_self
          obtain ⟨t, ht⟩ := Value.isInt_shape h1
          have : k' = p.1 := (intKind prog w).inj _ _ _ q1 h1
          subst this
          exact .cons ⟨⟨t, ht⟩, q2, by rw [h2]; exact hv⟩ (ih rs h3 fun x hx => hk x (List.mem_cons_of_mem _ hx))
  exact key r hp fun e he => hk e (by simpa using he)
theorem valueAt_vd {k : Int} : ∀ {kvs : List (Int × VD)} {us : List Value}, All2 VRel (kvs.map (·.2)) us → (∀ d, kvs.lookup k = some d → ∃ v, valueAt ((kvs.map (·.1)).zip us) k = some v ∧ VRel d v) ∧ (kvs.lookup k = none → valueAt ((kvs.map (·.1)).zip us) k = none) := by
  intro kvs
  induction kvs with
  | nil => intro us r; exact ⟨fun d e => (nomatch e), fun _ => rfl⟩
  | cons p kvs ih =>
    obtain ⟨k', d'⟩ := p
    intro us r
    cases r with
    | @cons _ u _ us' ru rs =>
      obtain ⟨i1, i2⟩ := ih rs
      by_cases hk : k' = k
      · subst hk
        refine ⟨fun d e => ?_, fun e => ?_⟩
        · simp [List.lookup_cons] at e; subst e
          exact ⟨u, by simp [valueAt], ru⟩
        · simp [List.lookup_cons] at e
      · have h1 : (k == k') = false := by simpa using fun e => hk e.symm
        refine ⟨fun d e => ?_, fun e => ?_⟩
        · rw [List.lookup_cons, h1] at e
          obtain ⟨v, h2, h3⟩ := i1 d e
          refine ⟨v, ?_, h3⟩
          simp only [valueAt, List.map_cons, List.zip_cons_cons, List.find?_cons, decide_eq_false hk] at h2 ⊢
          exact h2
        · rw [List.lookup_cons, h1] at e
          have h2 := i2 e
          simp only [valueAt, List.map_cons, List.zip_cons_cons, List.find?_cons, decide_eq_false hk] at h2 ⊢
          exact h2
theorem EvV.item {e i : Expr} {pos : Pos} {a b : Addr} {kvs : List (Int × VD)} {k : Int} (hx : (y, .ow (RM root m)) ∈ ρ) (he : EvV W ht sc ρ obs e (.ref a)) (ha : m a = some (.dct kvs)) (hi : Ev W ht sc ρ obs i (.int k)) (hl : kvs.lookup k = some (.ref b)) (hs : NoSlice i := by intro _ _; rfl) :
    EvV W ht sc ρ obs (.Subscript e i pos) (.ref b) := by
  intro A env base reg s Q E H hQ
  refine Subscript_ (he H fun s₁ x₁ => hi (H.ext x₁) fun s₂ v₂ x₂ r₂ => ?_)
  obtain ⟨t, rfl⟩ := r₂
  obtain ⟨ra, o, g, r⟩ := ((H.ext x₁).ext x₂).own hx ha
  obtain ⟨us, ru, D⟩ := dct_of (prog := W.prog) (w := W.w) g r
  obtain ⟨u, hu, rv⟩ := (valueAt_vd ru).1 _ hl
  cases rv
  exact tail_any (D.mapOf).typeIs slot_dict_getitem.lookup (wpAny_getItem_of (intKind_is W.prog W.w k t) D.mapOf hu (hQ _ ((x₁.trans x₂).trans (Ext.tok _ _)))) (hs _ _)
theorem get_val {e i : Expr} {apos pos : Pos} {a : Addr} {kvs : List (Int × VD)} {k : Int} {Q E : Value → Shared → Prop} (H : Here W ht sc ρ obs A env base reg s) (hx : (y, .ow (RM root m)) ∈ ρ) (he : EvV W ht sc ρ obs e (.ref a)) (ha : m a = some (.dct kvs)) (hna : a ≠ sysModules) (hi : Ev W ht sc ρ obs i (.int k))
    (hb : attributeBase e "get" env (eval e env) = eval e env) (hline : (apos.endLine == pos.line) = true) (hp : Plain i)
    (hQ : ∀ s' v, Ext (Loose reg) s s' → VRel ((kvs.lookup k).getD .none) v → Q v s') : wpAny W.M A (eval (.Call (.Attribute e "get" apos) [i] [] pos) env) Q E s := by
  have e1 : backTo pos (starEach [i] env) = [(false, eval i env)] := by rw [hp env []]; rfl
  refine wpAny_Call_method1_late hb hline e1 (he H fun s₁ x₁ => ?_)
  have H₁ := H.ext x₁
  obtain ⟨ra, o, g, r⟩ := H₁.own hx ha
  obtain ⟨us, ru, D⟩ := dct_of (prog := W.prog) (w := W.w) g r
  refine ⟨"dict", "dict.get", PySem.F.plainAttrs_dict, PySem.F.slot_dict_get, PySem.F.type_dict_get, D.mapOf.typeIs, D.mapOf.noDict, ?_⟩
  refine wpAny_dict_get1 (knd := intKind W.prog W.w) (by simpa using hna) (hi H₁ fun s₂ v₂ x₂ r₂ => ?_)
  obtain ⟨t, rfl⟩ := r₂
  obtain ⟨ra', o', g', r'⟩ := (H₁.ext x₂).own hx ha
  obtain ⟨us', ru', D'⟩ := dct_of (prog := W.prog) (w := W.w) g' r'
  refine ⟨k, _, intKind_is _ _ _ _, D'.mapOf, hQ _ _ ((x₁.trans x₂).trans (Ext.tok _ _)) ?_⟩
  cases q : kvs.lookup k with
  | none => rw [(valueAt_vd ru').2 q]; rfl
  | some d => obtain ⟨v, hv, rv⟩ := (valueAt_vd ru').1 d q; rw [hv]; exact rv
end
noncomputable def mk0 (C x dx : Addr) : HM := fun a => if a = x then some (.inst C dx []) else if a = dx then some (.ns []) else none
structure MakeIn (K : Frag) (C fI : Addr) : Prop where
  makes : makesIn K C = true
  init : findIn K (.ref C) "__init__" = some (some (.ref fI))
  fn : typeIn K (.ref fI) = some (.type "function")
  keep : keepIn K (.ref C) = true
section
variable {W : Wrld} {ht ht' : Nat} {sc : Scope} {ρ ρ' : Vars} {obs : Obs} {Post : Out → Prop} {A : Around} {env : Env} {base : Heap} {reg : Reg} {s s' : Shared} {x y : Str} {root : Addr} {m m' : HM}
theorem AmbC.make {C : Addr} {vals : List Value} {h : Heap} (M : AmbC W (ht + 1) A h) : AmbC W ht (A.under (.builtin "type.__call__" ⟨.ref C :: vals, []⟩)) h :=
  ⟨M.ok, M.handled, by rw [depth_under_make]; have := M.depth; (lia -abstractProof), by rw [units_under_make]; have := M.units; (lia -abstractProof), M.frames⟩
theorem make_any {C fI : Addr} {vs : List Value} {ds : List PyData} {P : Addr → Prop} {MP : Addr → HM → Prop} {Q E : Value → Shared → Prop} (M : AmbC W (ht + 1) A s.heap) (hP : ∀ a, (s.heap.get? a = none ∨ ∃ o, W.base.get? a = some o) → P a) (hF : ∀ a, inFrames A a → ¬ P a) (hm : MakeIn W.K C fI) (r : RlAll s.heap P ds vs)
    (hc : ∀ x dx, x ≠ dx → Mth W ht (.ref fI) x (mk0 C x dx) ds (fun mo => ∃ m', mo = .v .none m' ∧ MP x m'))
    (hQ : ∀ s' x m' (O' : Addr → Prop), Ext (inFrames A) s s' → (∀ a, O' a → s.heap.get? a = none ∧ ∃ o, s'.heap.get? a = some o) → OwnM O' s'.heap m' → MP x m' → Q (.ref x) s') : wpAny W.M A (call (.ref C) vs) Q E s := by
  obtain ⟨hh, g, d, t, os⟩ := s
  refine wpAny_call (make_core (makes_of M.ok.k hm.makes) (looks_findIn M.ok.k hm.init) (fun self => bind_fn M.ok.k self hm.fn) (.inl rfl) ?_)
  have hx1 : ((hh.push emptyDict).push (instObj C hh.objs.size)).get? (hh.objs.size + 1) = some (instObj C hh.objs.size) := by heap_get
  have hx2 : ((hh.push emptyDict).push (instObj C hh.objs.size)).get? hh.objs.size = some emptyDict := by heap_get
  have st : hh.StaysIn ((hh.push emptyDict).push (instObj C hh.objs.size)) := fun b o e => Heap.get?_push_of_some _ (Heap.get?_push_of_some _ e)
  have n0 : hh.get? hh.objs.size = none := fresh_none _
  have n1 : hh.get? (hh.objs.size + 1) = none := none_of_le (Nat.le_succ _)
  let O : Addr → Prop := fun a => a = hh.objs.size ∨ a = hh.objs.size + 1
  have oP : ∀ b o, hh.get? b = some o → ¬ O b := fun b o e q => by
    rcases q with q | q <;> rw [q] at e
    · rw [n0] at e; contradiction
    · rw [n1] at e; contradiction
  refine codeAny_mono (hc (hh.objs.size + 1) hh.objs.size (Nat.succ_ne_self _) (A := A.under (.builtin "type.__call__" ⟨.ref C :: vs, []⟩)) (s := ⟨(hh.push emptyDict).push (instObj C hh.objs.size), g, d, t, os⟩) (vs := vs) (O := O) (P := fun a => P a ∧ ¬ O a)
    (Q := fun v s' => v = .none ∧ Q (.ref (hh.objs.size + 1)) s') (E := fun _ _ => False)
    (M.make.stay st) (fun b q => ?_) (fun b q z => hF b q z.1) (fun b q => ⟨fun z => z.2 q, fun z => ?_, ?_⟩) (fun b od q => ?_) (RlAll.mono (fun b o q g => ⟨st b o g, q, oP b o g⟩) _ _ r) (fun mo s' v O' X' hmo xo hma => ?_)) fun r s' z => ?_
  · refine ⟨hP b (q.imp (fun e => ?_) id), fun z => ?_⟩
    · show hh.get? b = none
      cases w : hh.get? b with
      | none => rfl
      | some o => rw [st b o w] at e; contradiction
    · rcases q with e | ⟨o, e⟩
      · rcases z with rfl | rfl
        · rw [show ((hh.push emptyDict).push (instObj C hh.objs.size)).get? hh.objs.size = none from e] at hx2; contradiction
        · rw [show ((hh.push emptyDict).push (instObj C hh.objs.size)).get? (hh.objs.size + 1) = none from e] at hx1; contradiction
      · exact oP b o (M.ok.stays b o e) z
  · obtain ⟨_, o, e, _⟩ := M.fresh (show inFrames A b from z)
    exact oP b o e q
  · rcases q with rfl | rfl
    · exact ⟨_, hx2⟩
    · exact ⟨_, hx1⟩
  · unfold mk0 at q
    split at q
    · rename_i e; subst e; cases q
      exact ⟨.inr rfl, _, hx1, #[], rfl, .nil⟩
    · split at q
      · rename_i e; subst e; cases q
        exact ⟨.inl rfl, _, hx2, #[], 0, #[], rfl, .nil⟩
      · contradiction
  · obtain ⟨m', rfl, hmp⟩ := hmo
    obtain ⟨h1, h2⟩ := hma
    cases h1
    refine ⟨rfl, hQ s' (hh.objs.size + 1) m' O' ?_ (fun b q => ?_) h2 hmp⟩
    · obtain ⟨h', tk', e'⟩ := xo.same
      refine ⟨h', tk', e', fun b o e => ?_⟩
      obtain ⟨sl, g', z⟩ := xo.keep b o (st b o e) (oP b o e)
      rw [e'] at g'
      exact ⟨sl, g', z⟩
    · obtain ⟨q1, q2⟩ := xo.own b q
      refine ⟨?_, q2⟩
      rcases q1 with (rfl | rfl) | q1
      · exact n0
      · exact n1
      · show hh.get? b = none
        cases w : hh.get? b with
        | none => rfl
        | some o => have := st b o w; rw [show ((hh.push emptyDict).push (instObj C hh.objs.size)).get? b = none from q1] at this; contradiction
  · unfold InitBack
    rcases r with e | (v | _ | _ | _) <;> first | exact z | exact z.elim
noncomputable def HM.join (m m' : HM) : HM := fun a => match m' a with
  | some od => some od
  | none => m a
theorem Here.joinO {O' : Addr → Prop} (H : Here W ht sc ρ obs A env base reg s) (hy : (y, .ow (RM root m)) ∈ ρ) (x : Ext (Loose reg) s s') (hO : ∀ a, O' a → s.heap.get? a = none ∧ ∃ o, s'.heap.get? a = some o) (om : OwnM O' s'.heap m') (u : Upd ρ y (.ow (RM root (m.join m'))) ρ') :
    Here W ht sc ρ' obs A env base (Mine.claim reg O' (.va y)) s' ∧ Step reg s (Mine.claim reg O' (.va y)) s' := by
  have H₁ := H.claim (T := O') (w := .va y) x (fun b q => (hO b q).1) (fun b q => (hO b q).2)
  refine ⟨⟨H₁.sc, H₁.eok, H₁.amb, { H₁.sta with keys := u.keys ▸ H₁.sta.keys, vars := fun z c e => ?_ }, H₁.ksh, H₁.fos, H₁.hnd⟩, Step.claim x (fun b q => (hO b q).1)⟩
  rcases u.mem H₁.sta.keys _ _ e with ⟨rfl, rfl⟩ | ⟨_, e⟩
  · obtain ⟨v, V, e, r⟩ := H₁.at hy
    refine .inr ⟨v, V, e, fun b ob q => ?_⟩
    unfold HM.join at q
    cases hod : m' b with
    | some od =>
      rw [hod] at q
      cases q
      obtain ⟨q1, q2⟩ := om b _ hod
      exact ⟨claim_new q1, q2⟩
    | none =>
      rw [hod] at q
      exact r b ob q
  · exact H₁.sta.vars z c e
theorem Ex1.make {C fI : Addr} {c : Str} {p p' pos pos' : Pos} {MP : Addr → HM → Prop} (hk : sc.names.lookup y = some .local ∨ sc.names.lookup y = some .cell) (hx : sc.names.lookup c = some .globalImplicit) (hv : W.G c = some (.ref C)) (hm : MakeIn W.K C fI)
    (hc : ∀ x dx, x ≠ dx → Mth W ht' (.ref fI) x (mk0 C x dx) [] (fun mo => ∃ m', mo = .v .none m' ∧ MP x m')) (hh : ht' + 1 ≤ ht) (h : ∀ x m', MP x m' → ∃ ρ', Upd ρ y (.ow (RM x m')) ρ' ∧ Post (.nx ρ'))
    (hd : (c == ("__debug__" : Str)) = false := by decide) : Ex1 W ht sc ρ obs (.Assign [.Name y p] (.Call (.Name c p') [] [] pos') pos) Post := by
  intro A env base reg s Q E H hQ hE
  refine wpAny_Assign_Name (Call_ (name_global H hx hv ?_ hd)) rfl
  refine callWith_of rfl (keeps_K hm.keep) (evalArgs_nil3 ⟨H.ok.k, ?_⟩)
  refine make_any (ht := ht') (H.call.less hh) H.pok H.pno hm (ds := []) rfl hc fun s₁ x m' O' x₁ hO om mp => ?_
  obtain ⟨ρ', u, hp⟩ := h x m' mp
  have x₁' := x₁.mono fun _ => H.loose
  have H₁ := H.claim (T := O') (w := .va y) x₁' (fun b q => (hO b q).1) (fun b q => (hO b q).2)
  refine store_var (b := .ow (RM x m')) H₁ hk ⟨rfl, fun b od q => ?_⟩ u fun s₂ H₂ st₂ => hQ _ _ _ _ hp ((Step.claim x₁' (fun b q => (hO b q).1)).trans st₂) H₂
  obtain ⟨q1, q2⟩ := om b od q
  exact ⟨claim_new q1, q2⟩
theorem EvM.make {C fI : Addr} {c : Str} {args : List Expr} {ds : List PyData} {p' pos' : Pos} {MP : Addr → HM → Prop} {P : Rs → Prop} (hy : (y, .ow (RM root m)) ∈ ρ) (hx : sc.names.lookup c = some .globalImplicit) (hv : W.G c = some (.ref C)) (hm : MakeIn W.K C fI) (ha : EvAll W ht sc ρ obs args ds) (hne : args ≠ [])
    (hc : ∀ x dx, x ≠ dx → Mth W ht' (.ref fI) x (mk0 C x dx) ds (fun mo => ∃ m', mo = .v .none m' ∧ MP x m')) (hh : ht' + 1 ≤ ht) (h : ∀ x m', (∀ a od, m' a = some od → m a = none) → MP x m' → ∃ ρ', Upd ρ y (.ow (RM root (m.join m'))) ρ' ∧ P (.o x ρ'))
    (hd : (c == ("__debug__" : Str)) = false := by decide) (hcl : ∀ env : Env, eval (.Call (.Name c p') args [] pos') env = (do callWith pos' (← eval (.Name c p') env) [] (backTo pos' (starEach args env)) (backToKw pos' (keywordEach [] env))) := by intro _; rfl) : EvM W ht sc ρ obs (.Call (.Name c p') args [] pos') P := by
  intro A env base reg s Q E H hQ
  refine Call_ (name_global H hx hv ?_ hd) (hcl env)
  obtain ⟨t, rr, q⟩ := (ha.1 env pos').2 hne
  refine callWith_of ?_ (keeps_K hm.keep) ?_
  · rw [(ha.1 env pos').1]; rfl
  rw [q]
  refine evalArgs_plain ?_
  rw [← q]
  refine ha.2 pos' H fun s₁ vs x₁ r => ⟨(H.ext x₁).ok.k, ?_⟩
  have H₁ := H.ext x₁
  refine make_any (ht := ht') (H₁.call.less hh) H₁.pok H₁.pno hm r hc fun s₂ x m' O' x₂ hO om mp => ?_
  have x₂' := x₂.mono fun _ => H₁.loose
  obtain ⟨ρ', u, hp⟩ := h x m' (fun a od e => by
    cases w : m a with
    | none => rfl
    | some od' =>
      obtain ⟨_, o, g, _⟩ := H₁.own hy w
      rw [(hO a (om a od e).1).1] at g; contradiction) mp
  obtain ⟨H₂, st₂⟩ := H₁.joinO hy x₂' hO om u
  exact hQ (.o x ρ') s₂ _ _ hp ((Step.ext x₁).trans st₂) ⟨rfl, H₂⟩
noncomputable def St2 (W : Wrld) (ht : Nat) (sc : Scope) (obs : Obs) (y : Str) (root : Addr) (d : Expr) (i : Expr) (z : Str) (Post : Out → Prop) : Rs → Prop
  | .o b ρ => ∃ a kvs k m ρ₁ ρ₂, (y, .ow (RM root m)) ∈ ρ ∧ EvV W ht sc ρ obs d (.ref a) ∧ m a = some (.dct kvs) ∧ Ev W ht sc ρ obs i (.int k) ∧ kvs.lookup k = none ∧ kvs.length ≤ sizeLine ∧ Upd ρ y (.ow (RM root (m.set a (.dct (kvs ++ [(k, .ref b)]))))) ρ₁ ∧ Upd ρ₁ z (.ob b) ρ₂ ∧ Post (.nx ρ₂)
  | _ => False
theorem not_key {kvs : List (Int × VD)} {k : Int} (h : kvs.lookup k = none) : k ∉ kvs.map (·.1) := by
  induction kvs with
  | nil => simp
  | cons p kvs ih =>
    obtain ⟨k', d⟩ := p
    rw [List.lookup_cons] at h
    by_cases e : k = k'
    · subst e; simp at h
    · have : (k == k') = false := by simpa using e
      rw [this] at h
      simp only [List.map_cons, List.mem_cons, not_or]
      exact ⟨e, ih h⟩
theorem assign_sub {d i : Expr} {p : Pos} {v : Value} {Q : Unit → Shared → Prop} {E : Value → Shared → Prop} (h : wpAny W.M A (eval d env) (fun ov s₁ => wpAny W.M A (eval i env) (fun iv s₂ => wpAny W.M A (setItem ov iv v) Q E s₂) E s₁) E s) : wpAny W.M A (PySem.assign (.Subscript d i p) env v) Q E s := by
  rw [arm_assign_Subscript]
  refine wpAny_bind (wpAny_holding (wpAny_mono h (fun ov s₁ h₁ => wpAny_bind (wpAny_holding (wpAny_mono h₁ (fun iv s₂ h₂ => wpAny_bind (wpAny_standAt (wpAny_bind (wpAny_holding (wpAny_mono h₂ (fun _ s₃ h₃ => ?_) fun _ _ x => x))))) fun _ _ x => x))) fun _ _ x => x))
  exact wpAny_release h₃
theorem Ex1.setnew {d i e : Expr} {z : Str} {p p' pos : Pos} (hk : sc.names.lookup z = some .local ∨ sc.names.lookup z = some .cell) (he : EvM W ht sc ρ obs e (St2 W ht sc obs y root d i z Post))
    (hw : ∀ env : Env, swappedStores [.Subscript d i p, .Name z p'] e env = pure none := by intro _; rfl) : Ex1 W ht sc ρ obs (.Assign [.Subscript d i p, .Name z p'] e pos) Post := by
  intro A env base reg s Q E H hQ hE
  refine wpAny_Assign_two (he H fun r s' reg' v hp st ra => ?_) (hw := hw env)
  cases r with
  | o b ρ₀ =>
    obtain ⟨rfl, H'⟩ := ra
    obtain ⟨a, kvs, k, m, ρ₁, ρ₂, hy, hd, ha, hi, hl, hz, u₁, u₂, hp⟩ := hp
    refine assign_sub (hd H' fun s₁ x₁ => hi (H'.ext x₁) fun s₂ v₂ x₂ r₂ => ?_)
    obtain ⟨t, rfl⟩ := r₂
    have H₂ := (H'.ext x₁).ext x₂
    obtain ⟨rg, o, g, r⟩ := H₂.own hy ha
    obtain ⟨us, ru, D⟩ := dct_of (prog := W.prog) (w := W.w) g r
    have hlen : us.length = kvs.length := by have := ru.length; simpa using this
    refine wpAny_setItem_pairs (intKind_is W.prog W.w k t) D (fun h' D' sb => ?_) (by simp [hlen]; exact hz)
    rw [stored_new (by simp [hlen]) (not_key hl)] at D'
    obtain ⟨o', g', r'⟩ := of_dct (kvs := kvs ++ [(k, .ref b)]) (us := us ++ [.ref b]) (by simpa using D') (by rw [List.map_append]; exact ru.append (.cons rfl .nil))
    obtain ⟨H₃, st₃⟩ := H₂.mutO (tk := s₂.toks + 1) hy ha sb g' r' u₁
    exact wpAny_assign_Name (store_var (b := .ob b) H₃ hk rfl u₂ fun s₄ H₄ st₄ => hQ _ _ _ reg' hp (st.trans ((Step.ext (x₁.trans x₂)).trans (st₃.trans st₄))) H₄)
  | v d ρ => exact hp.elim
  | x y ρ => exact hp.elim
theorem is_none_any {v : Value} {b : Bool} {Q : Value → Shared → Prop} {E : Value → Shared → Prop} (h : (v == .none) = b) (q : Q (.bool b) s) : wpAny W.M A (compareOp .Is v .none) Q E s := by
  show wpAny _ _ (isSame v Value.none >>= fun b => pure (Value.bool b)) _ _ _
  rw [isSame_none]
  refine wpAny_bind (wpAny_pure (wpAny_pure ?_))
  rw [h]; exact q
theorem Ex1.ifWal {z : Str} {e : Expr} {p p1 p2 p3 pos : Pos} {n : Nat} {body orelse : List Stmt} {d : VD} (hk : sc.names.lookup z = some .local ∨ sc.names.lookup z = some .cell) (he : EvD W ht sc ρ obs e d)
    (h1 : d = .none → ∃ ρ', Upd ρ z (.sh .none) ρ' ∧ Ex W ht sc ρ' obs body Post) (h2 : ∀ a, d = .ref a → ∃ ρ', Upd ρ z (.ob a) ρ' ∧ Ex W ht sc ρ' obs orelse Post) (h3 : ∀ i, d ≠ .int i) :
    Ex1 W ht sc ρ obs (.If (.Compare (.NamedExpr (.Name z p) e p1) [.Is] [.Constant .none n p2] p3) body orelse pos) Post := by
  intro A env base reg s Q E H hQ hE
  refine wpAny_If (wpAny_isTrue_Compare1 (wpAny_NamedExpr (he H fun s₁ v x₁ rv => wpAny_assign_Name ?_)))
  cases d with
  | none =>
    cases rv
    obtain ⟨ρ', u, hp⟩ := h1 rfl
    refine store_var (b := .sh .none) (H.ext x₁) hk rfl u fun s₂ H₂ st₂ => wpAny_Constant_none ?_
    have st := (Step.ext x₁).trans st₂
    refine is_none_any (b := true) rfl (wpAny_truthy_bool ?_)
    simp only [if_true]
    exact hp H₂ (hQ.step st) (hE.step st)
  | ref a =>
    cases rv
    obtain ⟨ρ', u, hp⟩ := h2 a rfl
    refine store_var (b := .ob a) (H.ext x₁) hk rfl u fun s₂ H₂ st₂ => wpAny_Constant_none ?_
    have st := (Step.ext x₁).trans st₂
    refine is_none_any (b := false) rfl (wpAny_truthy_bool ?_)
    simp only [Bool.false_eq_true, if_false]
    exact hp H₂ (hQ.step st) (hE.step st)
  | int i => exact absurd rfl (h3 i)
end
section
variable {W : Wrld} {ht ht' : Nat} {sc : Scope} {ρ ρ' : Vars} {obs : Obs} {Post : Out → Prop} {A : Around} {env : Env} {base : Heap} {reg : Reg} {s s' : Shared} {x y : Str} {root : Addr} {m m' : HM}
theorem Ex1.attr_newlist {e : Expr} {name : Str} {p pos pos' : Pos} (hx : (y, .ow (RM root m)) ∈ ρ)
    (h : ∀ a, m a = none → ∃ b m' ρ₁ ρ', Upd ρ y (.ow (RM root (m.set a (.lst [])))) ρ₁ ∧ EvV W ht sc ρ₁ obs e (.ref b) ∧ Wr W.K (m.set a (.lst [])) b name (.ref a) m' ∧ Upd ρ₁ y (.ow (RM root m')) ρ' ∧ Post (.nx ρ')) :
    Ex1 W ht sc ρ obs (.Assign [.Attribute e name p] (.List [] pos') pos) Post := by
  intro A env base reg s Q E H hQ hE
  refine plainObj_wpAny_Assign_Attribute (List_ (spliced_nil (wpAny_newList ?_ (by decide)))) rfl
  have g : (s.heap.push { cls := .type "list", data := .seq ([] : List Value).toArray }).get? s.heap.objs.size = some { cls := .type "list", data := .seq ([] : List Value).toArray } := Heap.get?_push_size _ rfl
  have hm : m s.heap.objs.size = none := by
    cases q : m s.heap.objs.size with
    | none => rfl
    | some od => obtain ⟨_, o, g', _⟩ := H.own hx q; rw [fresh_none] at g'; cases g'
  obtain ⟨b, m', ρ₁, ρ', u₁, he, w, u', hp⟩ := h _ hm
  obtain ⟨H₁, st₁⟩ := H.newO hx (Ext.push s _ s.toks) (fresh_none _) g (od := .lst []) ⟨#[], 0, rfl, .nil⟩ u₁
  refine he H₁ fun s₂ x₂ => ?_
  exact set_any (H₁.ext x₂) u₁.has w rfl u' fun s₃ H₃ st₃ => hQ _ _ _ _ hp (st₁.trans ((Step.ext x₂).trans st₃)) H₃
theorem Ex1.attr_newdict {e : Expr} {name : Str} {p pos pos' : Pos} (hx : (y, .ow (RM root m)) ∈ ρ)
    (h : ∀ a, m a = none → a ≠ sysModules → ∃ b m' ρ₁ ρ', Upd ρ y (.ow (RM root (m.set a (.dct [])))) ρ₁ ∧ EvV W ht sc ρ₁ obs e (.ref b) ∧ Wr W.K (m.set a (.dct [])) b name (.ref a) m' ∧ Upd ρ₁ y (.ow (RM root m')) ρ' ∧ Post (.nx ρ')) :
    Ex1 W ht sc ρ obs (.Assign [.Attribute e name p] (.Dict [] [] pos') pos) Post := by
  intro A env base reg s Q E H hQ hE
  refine plainObj_wpAny_Assign_Attribute (wpAny_Dict_empty ?_) rfl
  have g : (s.heap.push { cls := .type "dict", data := .dict #[] }).get? s.heap.objs.size = some { cls := .type "dict", data := .dict #[] } := Heap.get?_push_size _ rfl
  have hm : m s.heap.objs.size = none := by
    cases q : m s.heap.objs.size with
    | none => rfl
    | some od => obtain ⟨_, o, g', _⟩ := H.own hx q; rw [fresh_none] at g'; cases g'
  obtain ⟨b, m', ρ₁, ρ', u₁, he, w, u', hp⟩ := h _ hm H.size_ne
  obtain ⟨H₁, st₁⟩ := H.newO hx (Ext.push s _ s.toks) (fresh_none _) g (od := .dct []) ⟨#[], 0, rfl, List.nodup_nil, .nil⟩ u₁
  refine he H₁ fun s₂ x₂ => ?_
  exact set_any (H₁.ext x₂) u₁.has w rfl u' fun s₃ H₃ st₃ => hQ _ _ _ _ hp (st₁.trans ((Step.ext x₂).trans st₃)) H₃
theorem ne_od {a b : Addr} {o o' : OD} (h : m a = some o) (h' : m b = some o') (n : o ≠ o') : a ≠ b := fun e => n (by subst e; rw [h] at h'; exact Option.some.inj h')
noncomputable def VD.isN : VD → Bool
  | .none => true
  | _ => false
theorem EvT.isnot_none {e : Expr} {n : Nat} {p2 pos : Pos} {d : VD} (h : EvD W ht sc ρ obs e d) : EvT W ht sc ρ obs (.Compare e [.IsNot] [.Constant .none n p2] pos) (!d.isN) := by
  intro A env base reg s Q E H hQ
  refine wpAny_isTrue_Compare1 (h H fun s₁ v x₁ rv => wpAny_Constant_none ?_)
  show wpAny _ _ (isSame v Value.none >>= fun b => pure (Value.bool (!b))) _ _ _
  rw [isSame_none]
  refine wpAny_bind (wpAny_pure (wpAny_pure (wpAny_truthy_bool ?_)))
  cases d with
  | none => cases rv; exact hQ _ x₁
  | int i => obtain ⟨t, rfl⟩ := rv; exact hQ _ x₁
  | ref a => cases rv; exact hQ _ x₁
theorem EvT.is_none {e : Expr} {n : Nat} {p2 pos : Pos} {d : VD} (h : EvD W ht sc ρ obs e d) : EvT W ht sc ρ obs (.Compare e [.Is] [.Constant .none n p2] pos) d.isN := by
  intro A env base reg s Q E H hQ
  refine wpAny_isTrue_Compare1 (h H fun s₁ v x₁ rv => wpAny_Constant_none ?_)
  cases d with
  | none => cases rv; exact is_none_any (b := true) rfl (wpAny_truthy_bool (hQ _ x₁))
  | int i => obtain ⟨t, rfl⟩ := rv; exact is_none_any (b := false) rfl (wpAny_truthy_bool (hQ _ x₁))
  | ref a => cases rv; exact is_none_any (b := false) rfl (wpAny_truthy_bool (hQ _ x₁))
theorem EvD.attr {e : Expr} {name : Str} {pos : Pos} {a : Addr} {d : VD} (hx : (y, .ow (RM root m)) ∈ ρ) (he : EvV W ht sc ρ obs e (.ref a)) (R : Rd W.K m a name d) (hn : AttrNode e name pos := by intro _; rfl) : EvD W ht sc ρ obs (.Attribute e name pos) d := by
  intro A env base reg s Q E H hQ
  exact attr_any H hx he R hn hQ
theorem EvD.get {e i : Expr} {apos pos : Pos} {a : Addr} {kvs : List (Int × VD)} {k : Int} (hx : (y, .ow (RM root m)) ∈ ρ) (he : EvV W ht sc ρ obs e (.ref a)) (ha : m a = some (.dct kvs)) (hna : a ≠ sysModules) (hi : Ev W ht sc ρ obs i (.int k))
    (hb : ∀ env : Env, attributeBase e "get" env (eval e env) = eval e env := by intro _; rfl) (hline : (apos.endLine == pos.line) = true := by rfl) (hp : Plain i := by intro _ _; rfl) :
    EvD W ht sc ρ obs (.Call (.Attribute e "get" apos) [i] [] pos) ((kvs.lookup k).getD .none) := by
  intro A env base reg s Q E H hQ
  exact get_val H hx he ha hna hi (hb env) hline hp hQ
end
noncomputable abbrev PW : Program := PySem.Challenge.pw_ny0336_02
noncomputable def sv (x : String) (t : Nat) : Value := .str (Str.ofString x) t
noncomputable def kE (P : Params) (k : String) (t : Nat) (v : Value) : DictEntry := ⟨PyData.keyHash P (Str.ofString k), sv k t, v⟩
noncomputable def kT (a : Addr) (l : List Value) : Addr × Obj := (a, { cls := .type "tuple", data := .seq l.toArray })
noncomputable def kD (a : Addr) (l : List DictEntry) (n : Nat) : Addr × Obj := (a, { cls := .type "dict", data := .dict l.toArray n })
noncomputable def kX (a : Addr) (c : String) (l : List Value) : Addr × Obj := (a, { cls := .type c, data := .fields l.toArray })
noncomputable def kF : Option Stmt → (q : String) → (a r t n line argc fl : Nat) → (loc : Bool) → (dfl m : Value) → Frag
  | some (.FunctionDef x ps b _ _ _ sc _ _ _), q, a, r, t, n, line, argc, fl, loc, dfl, m =>
    [kX (a - 1) "code" [.str x t, sv q (t + 1), sv "/claim/cut.py" (t + 2), .int line 0, .int argc 0, .int 0 0, .int 0 0, .int fl 0, .ref r, .bool true, .int 181 0, .ref (r + 1), .none, if loc then .ref (r + 2) else .none, if loc then .ref (r + 3) else .none, .ref (a - 2), .int n 0, .int line 0, sv "/claim/cut.py" (n + 1)],
     (a, { cls := .type "function", data := .func { name := x, qualname := Str.ofString q, params := ps, body := .stmts b, scope := sc, globals := 3, closure := [], defaults := dfl, kwdefaults := .none, pyModule := m, code := .ref (a - 1) } })]
  | _, _, _, _, _, _, _, _, _, _, _, _ => []
noncomputable def mth (i j : Nat) : Option Stmt := match nth i PW.main.body with
  | some (.ClassDef _ _ _ b _ _ _ _ _ _ _) => nth j b
  | _ => none
@[irreducible] noncomputable def K1 (P : Params) : Frag :=
  [kD 3 [kE P "__name__" 165 (sv "law_ny0336_02" 477), kE P "__doc__" 166 .none, kE P "__package__" 167 .none, kE P "__loader__" 168 (.builtin "__main__.__loader__#opaque"), kE P "__spec__" 169 .none, kE P "__annotations__" 170 (.ref 6), kE P "__builtins__" 171 (.ref 4), kE P "__file__" 173 (sv "/claim/cut.py" 172), kE P "__cached__" 174 .none, kE P "_wall" 193 (.ref 21), kE P "sorted_list_difference" 209 (.ref 28), kE P "S_IFMT" 218 (.ref 35), kE P "S_IFDIR" 220 (.int 16384 219), kE P "S_IFCHR" 222 (.int 8192 221), kE P "S_IFBLK" 224 (.int 24576 223), kE P "S_IFREG" 226 (.int 32768 225), kE P "S_IFIFO" 228 (.int 4096 227), kE P "S_IFLNK" 230 (.int 40960 229), kE P "S_IFSOCK" 232 (.int 49152 231), kE P "S_ISUID" 234 (.int 2048 233), kE P "S_ISGID" 236 (.int 1024 235), kE P "S_ISVTX" 238 (.int 512 237), kE P "S_IRUSR" 240 (.int 256 239), kE P "S_IWUSR" 242 (.int 128 241), kE P "S_IXUSR" 244 (.int 64 243), kE P "S_IRGRP" 246 (.int 32 245), kE P "S_IWGRP" 248 (.int 16 247), kE P "S_IXGRP" 250 (.int 8 249), kE P "S_IROTH" 252 (.int 4 251), kE P "S_IWOTH" 254 (.int 2 253), kE P "S_IXOTH" 256 (.int 1 255), kE P "_filemode_table" 282 (.ref 68), kE P "filemode" 294 (.ref 75), kE P "_NODE_OUT" 299 (.int (-1) 298), kE P "_NODE_DONE" 302 (.int (-2) 301), kE P "_NodeInfo" 339 (.ref 94), kE P "CycleError" 357 (.ref 109), kE P "TopologicalSorter" 476 (.ref 191), kE P "_law_cells" 487 (.ref 202), kE P "_law_counts" 493 (.ref 207), kE P "_law_ways" 499 (.ref 212), kE P "_law_mode" 507 (.ref 219), kE P "_law_row" 519 (.ref 226), kE P "_law_bits" 529 (.ref 233), kE P "_law_turned" 535 (.ref 238), kE P "_law_sorter" 547 (.ref 245), kE P "_law_must_wait" 553 (.ref 250), kE P "_law_new_row" 559 (.ref 255), kE P "_law_run" 576 (.ref 262), kE P "_law_rows" 586 (.ref 269), kE P "_law_files_turned" 598 (.ref 276), kE P "_law_holds" 604 (.ref 281), kE P "law" 611 (.ref 288)] 53] ++
  kF (nth 2 PW.main.body) "sorted_list_difference" 28 22 196 207 5 2 3 true .none (sv "cpy313.unittest.util" 194) ++
  kF (nth 4 PW.main.body) "S_IFMT" 35 29 212 216 38 1 3 true .none (sv "cpy313.stat" 210) ++
  [kT 36 [.int 40960 229, sv "l" 257],
   kT 37 [.int 49152 231, sv "s" 258],
   kT 38 [.int 32768 225, sv "-" 259],
   kT 39 [.int 24576 223, sv "b" 260],
   kT 40 [.int 16384 219, sv "d" 261],
   kT 41 [.int 8192 221, sv "c" 262],
   kT 42 [.int 4096 227, sv "p" 263],
   kT 43 [.ref 36, .ref 37, .ref 38, .ref 39, .ref 40, .ref 41, .ref 42],
   kT 44 [.int 256 239, sv "r" 264],
   kT 45 [.ref 44],
   kT 46 [.int 128 241, sv "w" 265],
   kT 47 [.ref 46],
   kT 48 [.int 2112 266, sv "s" 267],
   kT 49 [.int 2048 233, sv "S" 268],
   kT 50 [.int 64 243, sv "x" 269],
   kT 51 [.ref 48, .ref 49, .ref 50],
   kT 52 [.int 32 245, sv "r" 270],
   kT 53 [.ref 52],
   kT 54 [.int 16 247, sv "w" 271],
   kT 55 [.ref 54],
   kT 56 [.int 1032 272, sv "s" 273],
   kT 57 [.int 1024 235, sv "S" 274],
   kT 58 [.int 8 249, sv "x" 275],
   kT 59 [.ref 56, .ref 57, .ref 58],
   kT 60 [.int 4 251, sv "r" 276],
   kT 61 [.ref 60],
   kT 62 [.int 2 253, sv "w" 277],
   kT 63 [.ref 62],
   kT 64 [.int 513 278, sv "t" 279],
   kT 65 [.int 512 237, sv "T" 280],
   kT 66 [.int 1 255, sv "x" 281],
   kT 67 [.ref 64, .ref 65, .ref 66],
   kT 68 [.ref 43, .ref 45, .ref 47, .ref 51, .ref 53, .ref 55, .ref 59, .ref 61, .ref 63, .ref 67]] ++
  kF (nth 25 PW.main.body) "filemode" 75 69 283 292 60 1 3 true .none (sv "cpy313.stat" 210) ++
  kF (mth 29 1) "_NodeInfo.__init__" 90 84 319 324 83 2 3 true .none (sv "cpy313.graphlib" 295) ++
  [kT 91 [sv "node" 327, sv "npredecessors" 328, sv "successors" 329],
   kD 93 [kE P "__module__" 310 (sv "cpy313.graphlib" 295), kE P "__firstlineno__" 314 (.int 80 313), kE P "__slots__" 318 (.ref 83), kE P "__init__" 326 (.ref 90), kE P "__static_attributes__" 330 (.ref 91), kE P "node" 332 (.ref 95), kE P "npredecessors" 334 (.ref 96), kE P "successors" 336 (.ref 97), kE P "__doc__" 337 .none] 5,
   (94, { cls := .type "type", data := .cls { name := Str.ofString "_NodeInfo", bases := [.type "object"], mro := [.ref 94, .type "object"], ns := 93, qualname := Str.ofString "_NodeInfo", hasDict := false, slotNames := [Str.ofString "node", Str.ofString "npredecessors", Str.ofString "successors"] }, slots := #[none, none, some (.str (Str.ofString "_NodeInfo") 303), some (.str (Str.ofString "_NodeInfo") 311), some (.builtin "object.__new__"), some (.bool false)] }),
   kX 95 "member_descriptor" [sv "node" 331, .ref 94, .builtin "proto.slot", .builtin "proto.slot#set", .int 2 0],
   kX 96 "member_descriptor" [sv "npredecessors" 333, .ref 94, .builtin "proto.slot", .builtin "proto.slot#set", .int 1 0],
   kX 97 "member_descriptor" [sv "successors" 335, .ref 94, .builtin "proto.slot", .builtin "proto.slot#set", .int 0 0],
   kD 108 [kE P "__module__" 347 (sv "cpy313.graphlib" 295), kE P "__firstlineno__" 351 (.int 87 350), kE P "__static_attributes__" 352 (.ref 107), kE P "__weakref__" 354 (.ref 110), kE P "__doc__" 355 .none] 3,
   (109, { cls := .type "type", data := .cls { name := Str.ofString "CycleError", bases := [.type "ValueError"], mro := [.ref 109, .type "ValueError", .type "Exception", .type "BaseException", .type "object"], ns := 108, qualname := Str.ofString "CycleError" }, slots := #[some (.ref 100), none, some (.str (Str.ofString "CycleError") 340), some (.str (Str.ofString "CycleError") 348), some (.builtin "ValueError.__new__"), some (.bool true)] }),
   kX 110 "getset_descriptor" [sv "__weakref__" 353, .ref 109, .builtin "ExceptionGroup.__weakref__", .none],
   kT 120 [.none]] ++
  kF (mth 31 0) "TopologicalSorter.__init__" 127 121 370 377 91 2 3 true (.ref 120) (sv "cpy313.graphlib" 295) ++
  kF (mth 31 1) "TopologicalSorter._get_nodeinfo" 134 128 380 386 100 2 3 true .none (sv "cpy313.graphlib" 295) ++
  kF (mth 31 2) "TopologicalSorter.add" 141 135 389 398 105 2 7 true .none (sv "cpy313.graphlib" 295) ++
  kF (mth 31 3) "TopologicalSorter.prepare" 146 142 401 404 114 1 3 false .none (sv "cpy313.graphlib" 295) ++
  kF (mth 31 4) "TopologicalSorter.get_ready" 153 147 407 414 122 1 3 true .none (sv "cpy313.graphlib" 295) ++
  kF (mth 31 5) "TopologicalSorter.is_active" 160 154 417 421 133 1 3 true .none (sv "cpy313.graphlib" 295) ++
  kF (mth 31 7) "TopologicalSorter.done" 174 168 431 442 141 1 7 true .none (sv "cpy313.graphlib" 295) ++
  kF (mth 31 8) "TopologicalSorter._find_cycle" 181 175 445 455 164 1 3 true .none (sv "cpy313.graphlib" 295) ++
  [kT 189 [sv "_nfinished" 465, sv "_node2info" 466, sv "_npassedout" 467, sv "_ready_nodes" 468],
   kD 190 [kE P "__module__" 365 (sv "cpy313.graphlib" 295), kE P "__firstlineno__" 369 (.int 89 368), kE P "__init__" 379 (.ref 127), kE P "_get_nodeinfo" 388 (.ref 134), kE P "add" 400 (.ref 141), kE P "prepare" 406 (.ref 146), kE P "get_ready" 416 (.ref 153), kE P "is_active" 423 (.ref 160), kE P "__bool__" 430 (.ref 167), kE P "done" 444 (.ref 174), kE P "_find_cycle" 457 (.ref 181), kE P "static_order" 464 (.ref 188), kE P "__static_attributes__" 469 (.ref 189), kE P "__dict__" 471 (.ref 192), kE P "__weakref__" 473 (.ref 193), kE P "__doc__" 474 .none] 4,
   (191, { cls := .type "type", data := .cls { name := Str.ofString "TopologicalSorter", bases := [.type "object"], mro := [.ref 191, .type "object"], ns := 190, qualname := Str.ofString "TopologicalSorter" }, slots := #[none, none, some (.str (Str.ofString "TopologicalSorter") 358), some (.str (Str.ofString "TopologicalSorter") 366), some (.builtin "object.__new__"), some (.bool true)] }),
   kX 192 "getset_descriptor" [sv "__dict__" 470, .ref 191, .builtin "function.__dict__", .builtin "function.__dict__#set"],
   kX 193 "getset_descriptor" [sv "__weakref__" 472, .ref 191, .builtin "ExceptionGroup.__weakref__", .none]] ++
  kF (nth 33 PW.main.body) "_law_cells" 202 196 479 485 196 1 3 true .none (sv "law_ny0336_02" 477) ++
  kF (nth 34 PW.main.body) "_law_counts" 207 203 488 491 201 1 3 false .none (sv "law_ny0336_02" 477) ++
  kF (nth 35 PW.main.body) "_law_ways" 212 208 494 497 209 1 3 false .none (sv "law_ny0336_02" 477) ++
  kF (nth 36 PW.main.body) "_law_mode" 219 213 500 505 216 2 3 true .none (sv "law_ny0336_02" 477) ++
  kF (nth 37 PW.main.body) "_law_row" 226 220 508 517 218 2 3 true .none (sv "law_ny0336_02" 477) ++
  kF (nth 38 PW.main.body) "_law_bits" 233 227 520 527 226 1 3 true .none (sv "law_ny0336_02" 477) ++
  kF (nth 39 PW.main.body) "_law_turned" 238 234 530 533 239 2 3 false .none (sv "law_ny0336_02" 477) ++
  kF (nth 40 PW.main.body) "_law_sorter" 245 239 536 545 251 2 3 true .none (sv "law_ny0336_02" 477) ++
  kF (nth 41 PW.main.body) "_law_must_wait" 250 246 548 551 259 3 3 false .none (sv "law_ny0336_02" 477) ++
  kF (nth 42 PW.main.body) "_law_new_row" 255 251 554 557 266 5 3 false .none (sv "law_ny0336_02" 477) ++
  kF (nth 43 PW.main.body) "_law_run" 262 256 560 574 273 4 3 true .none (sv "law_ny0336_02" 477) ++
  kF (nth 44 PW.main.body) "_law_rows" 269 263 577 584 293 2 3 true .none (sv "law_ny0336_02" 477) ++
  kF (nth 45 PW.main.body) "_law_files_turned" 276 270 587 596 298 2 3 true .none (sv "law_ny0336_02" 477) ++
  kF (nth 46 PW.main.body) "_law_holds" 281 277 599 602 307 1 3 false .none (sv "law_ny0336_02" 477) ++
  kF (nth 47 PW.main.body) "law" 288 282 605 609 324 1 3 true .none (sv "law_ny0336_02" 477)
noncomputable abbrev KK (P : Params) : Frag := K1 P
noncomputable def W1 (w : World) (base : Heap) : Wrld := { prog := PySem.Challenge.rw_ny0336_02.row.prog, w, K := KK w.params, G := gmapOf (KK w.params), base, calm := true }
theorem fn_ifmt (w : World) (base : Heap) : FnOk (W1 w base) 35 (fdOf (KK w.params) 35) (fnScope PW 4) (fnBody PW 4) [Str.ofString "mode"] [] := FnOk.look (by kernel_rfl) (by decide +kernel) (args1 fun v0 => by kernel_rfl)
theorem con_ifmt (w : World) (base : Heap) (m : Int) : Con (W1 w base) 1 (.ref 35) [.int m] (.int (Builtin.bitAnd m 61440)) := by
  refine Con.of (fn_ifmt w base) rfl ?_
  dsimp only [List.zip, List.zipWith, List.map, List.append_nil]
  refine Ex.cons (Ex1.ret (Ev.band (Ev.name (.head _)) Ev.const_int) rfl)
theorem fn_sorted_list_difference (w : World) (base : Heap) : FnOk (W1 w base) 28 (fdOf (KK w.params) 28) (fnScope PW 2) (fnBody PW 2) [Str.ofString "expected", Str.ofString "actual"] [Str.ofString "i", Str.ofString "j", Str.ofString "missing", Str.ofString "unexpected", Str.ofString "e", Str.ofString "a"] := FnOk.look (by kernel_rfl) (by decide +kernel) (args2 fun v0 v1 => by kernel_rfl)
theorem g_sorted_list_difference (w : World) (base : Heap) : (W1 w base).G (Str.ofString "sorted_list_difference") = some (.ref 28) := by kernel_rfl
theorem g_S_IFMT (w : World) (base : Heap) : (W1 w base).G (Str.ofString "S_IFMT") = some (.ref 35) := by kernel_rfl
theorem fn_filemode (w : World) (base : Heap) : FnOk (W1 w base) 75 (fdOf (KK w.params) 75) (fnScope PW 25) (fnBody PW 25) [Str.ofString "mode"] [Str.ofString "perm", Str.ofString "index", Str.ofString "table", Str.ofString "bit", Str.ofString "char"] := FnOk.look (by kernel_rfl) (by decide +kernel) (args1 fun v0 => by kernel_rfl)
theorem g_filemode (w : World) (base : Heap) : (W1 w base).G (Str.ofString "filemode") = some (.ref 75) := by kernel_rfl
theorem fn_l_cells (w : World) (base : Heap) : FnOk (W1 w base) 202 (fdOf (KK w.params) 202) (fnScope PW 33) (fnBody PW 33) [Str.ofString "script"] [Str.ofString "cells", Str.ofString "place"] := FnOk.look (by kernel_rfl) (by decide +kernel) (args1 fun v0 => by kernel_rfl)
theorem g_l_cells (w : World) (base : Heap) : (W1 w base).G (Str.ofString "_law_cells") = some (.ref 202) := by kernel_rfl
theorem fn_l_counts (w : World) (base : Heap) : FnOk (W1 w base) 207 (fdOf (KK w.params) 207) (fnScope PW 34) (fnBody PW 34) [Str.ofString "cells"] [Str.ofString "counts", Str.ofString "at", Str.ofString "two", Str.ofString "one"] := FnOk.look (by kernel_rfl) (by decide +kernel) (args1 fun v0 => by kernel_rfl)
theorem g_l_counts (w : World) (base : Heap) : (W1 w base).G (Str.ofString "_law_counts") = some (.ref 207) := by kernel_rfl
theorem fn_l_ways (w : World) (base : Heap) : FnOk (W1 w base) 212 (fdOf (KK w.params) 212) (fnScope PW 35) (fnBody PW 35) [Str.ofString "counts"] [Str.ofString "ways", Str.ofString "one", Str.ofString "two"] := FnOk.look (by kernel_rfl) (by decide +kernel) (args1 fun v0 => by kernel_rfl)
theorem g_l_ways (w : World) (base : Heap) : (W1 w base).G (Str.ofString "_law_ways") = some (.ref 212) := by kernel_rfl
theorem fn_l_mode (w : World) (base : Heap) : FnOk (W1 w base) 219 (fdOf (KK w.params) 219) (fnScope PW 36) (fnBody PW 36) [Str.ofString "kind", Str.ofString "rights"] [] := FnOk.look (by kernel_rfl) (by decide +kernel) (args2 fun v0 v1 => by kernel_rfl)
theorem g_l_mode (w : World) (base : Heap) : (W1 w base).G (Str.ofString "_law_mode") = some (.ref 219) := by kernel_rfl
theorem fn_l_row (w : World) (base : Heap) : FnOk (W1 w base) 226 (fdOf (KK w.params) 226) (fnScope PW 37) (fnBody PW 37) [Str.ofString "kind", Str.ofString "rights"] [Str.ofString "row", Str.ofString "turn", Str.ofString "digit", Str.ofString "last"] := FnOk.look (by kernel_rfl) (by decide +kernel) (args2 fun v0 v1 => by kernel_rfl)
theorem g_l_row (w : World) (base : Heap) : (W1 w base).G (Str.ofString "_law_row") = some (.ref 226) := by kernel_rfl
theorem fn_l_bits (w : World) (base : Heap) : FnOk (W1 w base) 233 (fdOf (KK w.params) 233) (fnScope PW 38) (fnBody PW 38) [Str.ofString "row"] [Str.ofString "bits", Str.ofString "turn", Str.ofString "sign"] := FnOk.look (by kernel_rfl) (by decide +kernel) (args1 fun v0 => by kernel_rfl)
theorem g_l_bits (w : World) (base : Heap) : (W1 w base).G (Str.ofString "_law_bits") = some (.ref 233) := by kernel_rfl
theorem fn_l_turned (w : World) (base : Heap) : FnOk (W1 w base) 238 (fdOf (KK w.params) 238) (fnScope PW 39) (fnBody PW 39) [Str.ofString "one", Str.ofString "two"] [Str.ofString "first", Str.ofString "second", Str.ofString "missing", Str.ofString "unexpected", Str.ofString "told", Str.ofString "value", Str.ofString "least"] := FnOk.look (by kernel_rfl) (by decide +kernel) (args2 fun v0 v1 => by kernel_rfl)
theorem g_l_turned (w : World) (base : Heap) : (W1 w base).G (Str.ofString "_law_turned") = some (.ref 238) := by kernel_rfl
theorem fn_l_sorter (w : World) (base : Heap) : FnOk (W1 w base) 245 (fdOf (KK w.params) 245) (fnScope PW 40) (fnBody PW 40) [Str.ofString "names", Str.ofString "counts"] [Str.ofString "sorter", Str.ofString "name", Str.ofString "two", Str.ofString "one"] := FnOk.look (by kernel_rfl) (by decide +kernel) (args2 fun v0 v1 => by kernel_rfl)
theorem g_l_sorter (w : World) (base : Heap) : (W1 w base).G (Str.ofString "_law_sorter") = some (.ref 245) := by kernel_rfl
theorem fn_l_must_wait (w : World) (base : Heap) : FnOk (W1 w base) 250 (fdOf (KK w.params) 250) (fnScope PW 41) (fnBody PW 41) [Str.ofString "names", Str.ofString "counts", Str.ofString "over"] [Str.ofString "row", Str.ofString "two"] := FnOk.look (by kernel_rfl) (by decide +kernel) (args3 fun v0 v1 v2 => by kernel_rfl)
theorem g_l_must_wait (w : World) (base : Heap) : (W1 w base).G (Str.ofString "_law_must_wait") = some (.ref 250) := by kernel_rfl
theorem fn_l_new_row (w : World) (base : Heap) : FnOk (W1 w base) 255 (fdOf (KK w.params) 255) (fnScope PW 42) (fnBody PW 42) [Str.ofString "names", Str.ofString "counts", Str.ofString "rows", Str.ofString "bits", Str.ofString "place"] [Str.ofString "own", Str.ofString "value", Str.ofString "one", Str.ofString "lap"] := FnOk.look (by kernel_rfl) (by decide +kernel) (args5 fun v0 v1 v2 v3 v4 => by kernel_rfl)
theorem g_l_new_row (w : World) (base : Heap) : (W1 w base).G (Str.ofString "_law_new_row") = some (.ref 255) := by kernel_rfl
theorem fn_l_run (w : World) (base : Heap) : FnOk (W1 w base) 262 (fdOf (KK w.params) 262) (fnScope PW 43) (fnBody PW 43) [Str.ofString "names", Str.ofString "counts", Str.ofString "rows", Str.ofString "picks"] [Str.ofString "sorter", Str.ofString "waiting", Str.ofString "over", Str.ofString "bits", Str.ofString "new", Str.ofString "turn", Str.ofString "name"] := FnOk.look (by kernel_rfl) (by decide +kernel) (args4 fun v0 v1 v2 v3 => by kernel_rfl)
theorem g_l_run (w : World) (base : Heap) : (W1 w base).G (Str.ofString "_law_run") = some (.ref 262) := by kernel_rfl
theorem fn_l_rows (w : World) (base : Heap) : FnOk (W1 w base) 269 (fdOf (KK w.params) 269) (fnScope PW 44) (fnBody PW 44) [Str.ofString "names", Str.ofString "files"] [Str.ofString "rows", Str.ofString "place"] := FnOk.look (by kernel_rfl) (by decide +kernel) (args2 fun v0 v1 => by kernel_rfl)
theorem g_l_rows (w : World) (base : Heap) : (W1 w base).G (Str.ofString "_law_rows") = some (.ref 269) := by kernel_rfl
theorem fn_l_files_turned (w : World) (base : Heap) : FnOk (W1 w base) 276 (fdOf (KK w.params) 276) (fnScope PW 45) (fnBody PW 45) [Str.ofString "files", Str.ofString "ways"] [Str.ofString "turned", Str.ofString "place", Str.ofString "rights", Str.ofString "one"] := FnOk.look (by kernel_rfl) (by decide +kernel) (args2 fun v0 v1 => by kernel_rfl)
theorem g_l_files_turned (w : World) (base : Heap) : (W1 w base).G (Str.ofString "_law_files_turned") = some (.ref 276) := by kernel_rfl
theorem fn_l_holds (w : World) (base : Heap) : FnOk (W1 w base) 281 (fdOf (KK w.params) 281) (fnScope PW 46) (fnBody PW 46) [Str.ofString "cells"] [Str.ofString "counts", Str.ofString "names", Str.ofString "files", Str.ofString "picks", Str.ofString "ways", Str.ofString "plain", Str.ofString "rows", Str.ofString "place", Str.ofString "told", Str.ofString "odd"] := FnOk.look (by kernel_rfl) (by decide +kernel) (args1 fun v0 => by kernel_rfl)
theorem g_l_holds (w : World) (base : Heap) : (W1 w base).G (Str.ofString "_law_holds") = some (.ref 281) := by kernel_rfl
theorem fn_law (w : World) (base : Heap) : FnOk (W1 w base) 288 (fdOf (KK w.params) 288) (fnScope PW 47) (fnBody PW 47) [Str.ofString "script"] [] := FnOk.look (by kernel_rfl) (by decide +kernel) (args1 fun v0 => by kernel_rfl)
theorem g_law (w : World) (base : Heap) : (W1 w base).G (Str.ofString "law") = some (.ref 288) := by kernel_rfl
theorem gn_range (w : World) (base : Heap) : (W1 w base).G (Str.ofString "range") = none := by kernel_rfl
theorem gn_len (w : World) (base : Heap) : (W1 w base).G (Str.ofString "len") = none := by kernel_rfl
theorem gn_sorted (w : World) (base : Heap) : (W1 w base).G (Str.ofString "sorted") = none := by kernel_rfl
theorem gn_enumerate (w : World) (base : Heap) : (W1 w base).G (Str.ofString "enumerate") = none := by kernel_rfl
theorem gn_list (w : World) (base : Heap) : (W1 w base).G (Str.ofString "list") = none := by kernel_rfl
theorem gn_tuple (w : World) (base : Heap) : (W1 w base).G (Str.ofString "tuple") = none := by kernel_rfl
theorem gn_IndexError (w : World) (base : Heap) : (W1 w base).G (Str.ofString "IndexError") = none := by kernel_rfl
theorem gn_sum (w : World) (base : Heap) : (W1 w base).G (Str.ofString "sum") = none := by kernel_rfl
theorem gn_min (w : World) (base : Heap) : (W1 w base).G (Str.ofString "min") = none := by kernel_rfl
theorem gn_max (w : World) (base : Heap) : (W1 w base).G (Str.ofString "max") = none := by kernel_rfl
theorem gn_bool (w : World) (base : Heap) : (W1 w base).G (Str.ofString "bool") = none := by kernel_rfl
noncomputable def intsD (l : List Int) : PyData := .list (l.map .int)
noncomputable def sldN : Nat → List Int → List Int → List Int × List Int
  | 0, E, A => (E, A)
  | _ + 1, [], A => ([], A)
  | _ + 1, e :: E, [] => (e :: E, [])
  | n + 1, e :: E, a :: A =>
    if e < a then (e :: (sldN n (E.dropWhile (· == e)) (a :: A)).1, (sldN n (E.dropWhile (· == e)) (a :: A)).2)
    else if a < e then ((sldN n (e :: E) (A.dropWhile (· == a))).1, a :: (sldN n (e :: E) (A.dropWhile (· == a))).2)
    else sldN n (E.dropWhile (· == e)) (A.dropWhile (· == a))
noncomputable def sld (E A : List Int) : List Int × List Int := sldN (E.length + A.length) E A
theorem dropWhile_len (p : Int → Bool) (l : List Int) : (l.dropWhile p).length ≤ l.length := by
  have h : l.takeWhile p ++ l.dropWhile p = l := List.takeWhile_append_dropWhile
  have := congrArg List.length h
  rw [List.length_append] at this; omega
theorem sldN_more : ∀ (n m : Nat) (E A : List Int), E.length + A.length ≤ n → E.length + A.length ≤ m → sldN n E A = sldN m E A
  | 0, m, E, A, h, _ => by
    have h1 : E = [] := by cases E with | nil => rfl | cons _ _ => simp at h
    have h2 : A = [] := by cases A with | nil => rfl | cons _ _ => simp at h
    subst h1 h2
    cases m <;> rfl
  | n + 1, 0, E, A, _, h => by
    have h1 : E = [] := by cases E with | nil => rfl | cons _ _ => simp at h
    have h2 : A = [] := by cases A with | nil => rfl | cons _ _ => simp at h
    subst h1 h2; rfl
  | n + 1, m + 1, [], A, _, _ => rfl
  | n + 1, m + 1, e :: E, [], _, _ => rfl
  | n + 1, m + 1, e :: E, a :: A, h, h' => by
    have d1 := dropWhile_len (· == e) E
    have d2 := dropWhile_len (· == a) A
    simp only [List.length_cons] at h h'
    unfold sldN
    rw [sldN_more n m (E.dropWhile (· == e)) (a :: A) (by simp; omega) (by simp; omega), sldN_more n m (e :: E) (A.dropWhile (· == a)) (by simp; omega) (by simp; omega), sldN_more n m (E.dropWhile (· == e)) (A.dropWhile (· == a)) (by omega) (by omega)]
theorem sld_nil (A : List Int) : sld [] A = ([], A) := by
  unfold sld; cases A <;> rfl
theorem sld_nilR (E : List Int) : sld E [] = (E, []) := by
  unfold sld; cases E <;> rfl
theorem sld_cons (e a : Int) (E A : List Int) : sld (e :: E) (a :: A) =
    if e < a then (e :: (sld (E.dropWhile (· == e)) (a :: A)).1, (sld (E.dropWhile (· == e)) (a :: A)).2)
    else if a < e then ((sld (e :: E) (A.dropWhile (· == a))).1, a :: (sld (e :: E) (A.dropWhile (· == a))).2)
    else sld (E.dropWhile (· == e)) (A.dropWhile (· == a)) := by
  have d1 := dropWhile_len (· == e) E
  have d2 := dropWhile_len (· == a) A
  have h0 : sld (e :: E) (a :: A) = sldN (E.length + A.length + 1 + 1) (e :: E) (a :: A) := sldN_more _ _ _ _ (by simp) (by simp; omega)
  have h1 : sld (E.dropWhile (· == e)) (a :: A) = sldN (E.length + A.length + 1) (E.dropWhile (· == e)) (a :: A) := sldN_more _ _ _ _ (by simp) (by simp; omega)
  have h2 : sld (e :: E) (A.dropWhile (· == a)) = sldN (E.length + A.length + 1) (e :: E) (A.dropWhile (· == a)) := sldN_more _ _ _ _ (by simp) (by simp; omega)
  have h3 : sld (E.dropWhile (· == e)) (A.dropWhile (· == a)) = sldN (E.length + A.length + 1) (E.dropWhile (· == e)) (A.dropWhile (· == a)) := sldN_more _ _ _ _ (by simp) (by omega)
  rw [h0, h1, h2, h3]
  rfl
theorem drop_at {l : List Int} {k : Nat} {v : Int} (h : l[k]? = some v) : l.drop k = v :: l.drop (k + 1) := by
  have hk := (List.getElem?_eq_some_iff.mp h).1
  rw [List.drop_eq_getElem_cons hk]
  congr 1
  have := (List.getElem?_eq_some_iff.mp h).2
  exact this
local macro_rules | `(tactic| k_extra "mem") => `(tactic| with_reducible first | exact mt0 | exact mt1 | exact mt2 | exact mt3 | exact mt4 | exact mt5 | exact mt6 | exact mt7 | exact mt8 | exact mt9 | exact mt10 | exact mt11 | exact mt12 | exact mt13 | exact mt14)
local macro_rules | `(tactic| k_extra "upd") => `(tactic| with_reducible first | exact ut0 | exact ut1 | exact ut2 | exact ut3 | exact ut4 | exact ut5 | exact ut6 | exact ut7 | exact ut8 | exact ut9 | exact ut10 | exact ut11 | exact ut12 | exact ut13 | exact ut14)
local macro_rules | `(tactic| k_extra "fgt") => `(tactic| with_reducible repeat first | exact Fgt.nil | apply Fgt.same | apply Fgt.un)
local macro_rules | `(tactic| k_extra "rep") => `(tactic| repeat first | exact Fgt.nil | refine Fgt.same ?_ | refine Fgt.un ?_ | exact Pick.nil | refine Pick.cons (by k_extra "mem") ?_)
local macro_rules | `(tactic| k_extra "end") => `(tactic| (fail_if_success with_reducible first | show Ev _ _ _ _ _ _ _ | show _ ∈ _); first | (intro _ _; rfl) | rfl | with_unfolding_all rfl | decide | exact Nat.le_of_ble_eq_true rfl | assumption | exact IntMulOk.of_left (by decide) | exact IntMulOk.of_right (by decide) | lia | decide +kernel)
local macro_rules | `(tactic| k_extra "sub") => `(tactic| first | (fail_if_success show (_ : Prop)) | k_extra "ev" | k_extra "evt" | k_extra "mem" | k_extra "slen" | k_extra "end")
local macro_rules | `(tactic| k_extra "slen") => `(tactic| first | with_reducible assumption | ((with_reducible first | refine' SLen.one .. | refine' kindS_len .. | refine' SLen.fit .. | refine' SLen.app .. | refine' SLen.ite (n := 1) ..) <;> k_extra "sub") | (show Str.length _ ≤ 1; decide +kernel))
local macro_rules | `(tactic| k_extra "ev") => `(tactic| first
  | (with_reducible first | exact Ev.const_int | exact Ev.const_str | exact Ev.const_bool | exact Ev.const_none)
  | ((with_reducible refine Ev.name ?_ ?_ ?_); (k_extra "mem"); decide; decide)
  | ((with_reducible first | refine' Ev.sub .. | refine' Ev.mul ?_ ?_ ?_ | refine' Ev.fdivP ?_ ?_ ?_ ?_ | refine' Ev.modP ?_ ?_ ?_ | refine' Ev.eq_int ?_ ?_ ?_ | refine' Ev.ne_int ?_ ?_ ?_ | refine' Ev.lt_int ?_ ?_ ?_ | refine' Ev.gt_int ?_ ?_ ?_ | refine' Ev.tuple ?_ ?_) <;> k_extra "sub")
  | ((with_reducible refine' Ev.add ..) <;> k_extra "sub")
  | ((with_reducible refine' Ev.add_str ?_ ?_ ?_) <;> k_extra "sub")
  | ((with_reducible refine' Ev.ifexp_str ..) <;> k_extra "sub")
  | ((with_reducible refine' Ev.ifexp_int ..) <;> k_extra "sub")
  | ((with_reducible refine' Ev.item_l1 ?_ ?_ ?_ ?_ ?_ ?_ ?_ ?_) <;> k_extra "sub")
  | ((with_reducible refine' Ev.item_l2 ?_ ?_ ?_ ?_ ?_ ?_ ?_ ?_ ?_ ?_ ?_ ?_ ?_) <;> k_extra "sub")
  | ((with_reducible refine' Ev.item_tuple ?_ ?_ ?_ ?_ ?_ ?_) <;> k_extra "sub")
  | ((with_reducible refine' Ev.item_list ?_ ?_ ?_ ?_ ?_ ?_) <;> k_extra "sub")
  | ((with_reducible refine' Ev.item_str ?_ ?_ ?_ ?_ ?_ ?_) <;> k_extra "sub"))
local macro_rules | `(tactic| k_extra "eva") => `(tactic| k_extra "sub")
local macro_rules | `(tactic| k_extra "evt") => `(tactic| ((with_reducible first | exact EvAll.nil | refine' EvAll.cons ?_ ?_ ?_ | refine' EvT.not .. | refine' EvT.and2 ?_ (fun _ => ?_) | refine' EvT.or2 ?_ (fun _ => ?_) | refine' EvT.cmp .. | refine' EvT.plain ?_ ?_ ?_) <;> k_extra "sub"))
noncomputable abbrev ixX (W : Wrld) : XD := ⟨.type "IndexError", .none, W.calm, false⟩
section
variable {W : Wrld} {ht : Nat} {sc : Scope} {obs : Obs} {Post : Out → Prop}
theorem skip_i {b1 b2 b3 b4 b5 : B} {xs : List Int} {v : Int} {k₀ : Nat} {p1 p2 p3 p4 p5 p6 p7 p8 p9 : Pos} {n1 : Nat} (hk : sc.names.lookup (Str.ofString "i") = some .local ∨ sc.names.lookup (Str.ofString "i") = some .cell) (hR : W.Rs) (hz : xs.length < 2 ^ 62) (h0 : k₀ ≤ xs.length)
    (h1 : ∀ k, k₀ ≤ k → k < xs.length → xs.drop k = (xs.drop k₀).dropWhile (· == v) → Post (.nx [(Str.ofString "expected", .sh (intsD xs)), (Str.ofString "actual", b1), (Str.ofString "i", .sh (.int (k : Nat))), (Str.ofString "j", b2), (Str.ofString "missing", b3), (Str.ofString "unexpected", b4), (Str.ofString "e", .sh (.int v)), (Str.ofString "a", b5)]))
    (h2 : (xs.drop k₀).dropWhile (· == v) = [] → Post (.ex (ixX W) [(Str.ofString "expected", .sh (intsD xs)), (Str.ofString "actual", b1), (Str.ofString "i", .sh (.int (xs.length : Nat))), (Str.ofString "j", b2), (Str.ofString "missing", b3), (Str.ofString "unexpected", b4), (Str.ofString "e", .sh (.int v)), (Str.ofString "a", b5)])) :
    Ex1 W ht sc [(Str.ofString "expected", .sh (intsD xs)), (Str.ofString "actual", b1), (Str.ofString "i", .sh (.int (k₀ : Nat))), (Str.ofString "j", b2), (Str.ofString "missing", b3), (Str.ofString "unexpected", b4), (Str.ofString "e", .sh (.int v)), (Str.ofString "a", b5)] obs
      (.While (.Compare (.Subscript (.Name (Str.ofString "expected") p1) (.Name (Str.ofString "i") p2) p3) [.Eq] [.Name (Str.ofString "e") p4] p5) [.AugAssign (.Name (Str.ofString "i") p6) .Add (.Constant (.int 1) n1 p7) p8] [] p9) Post := by
  refine Ex1.whileX (σ := Nat) (fun k => [(Str.ofString "expected", .sh (intsD xs)), (Str.ofString "actual", b1), (Str.ofString "i", .sh (.int (k : Nat))), (Str.ofString "j", b2), (Str.ofString "missing", b3), (Str.ofString "unexpected", b4), (Str.ofString "e", .sh (.int v)), (Str.ofString "a", b5)])
    (fun n k => k₀ ≤ k ∧ k ≤ xs.length ∧ n = xs.length - k ∧ (xs.drop k).dropWhile (· == v) = (xs.drop k₀).dropWhile (· == v)) (xs.length - k₀) k₀ ⟨Nat.le_refl _, h0, rfl, rfl⟩ (.same (.same (.same (.same (.same (.same (.same (.same .nil)))))))) ?_
  rintro n k ⟨hk0, hkl, rfl, hdw⟩
  by_cases hlt : k < xs.length
  · refine .inl ⟨xs[k] == v, EvT.cmp (Ev.eq_int (a := xs[k]) (b := v) (Ev.item_list (xs := xs.map .int) (k := (k : Nat)) (Ev.name (d := intsD xs) (by k_extra "mem")) (by k_extra "ev") (by lia) (by lia) (by simp [hlt])) (by k_extra "ev")), fun hb => ?_, fun hb => ?_⟩
    · refine Ex.cons (Ex1.aug_add (a := (k : Nat)) (b := 1) (by k_extra "mem") hk (by k_extra "ev") (by k_extra "upd") (Ex.nil ⟨k + 1, ⟨xs.length - (k + 1), by lia, by lia, by lia, rfl, ?_⟩, ?_⟩))
      · rw [← hdw, drop_at (l := xs) (k := k) (v := xs[k]) (by simp [hlt]), List.dropWhile_cons, hb]; rfl
      · exact .same (.same (.same (.same (.same (.same (.same (.same .nil)))))))
    · refine Ex.nil (h1 k hk0 hlt ?_)
      rw [← hdw, drop_at (l := xs) (k := k) (v := xs[k]) (by simp [hlt]), List.dropWhile_cons, hb]; rfl
  · have hk' : k = xs.length := by lia
    subst hk'
    refine .inr ⟨ixX W, EvTX.cmpL (EvX.item_out (xs := xs.map .int) (k := (xs.length : Nat)) (Ev.name (d := intsD xs) (by k_extra "mem")) (by k_extra "ev") (by simp) (by lia) hR), h2 ?_⟩
    rw [← hdw]; simp
theorem skip_j {b1 b2 b3 b4 b5 : B} {xs : List Int} {v : Int} {k₀ : Nat} {p1 p2 p3 p4 p5 p6 p7 p8 p9 : Pos} {n1 : Nat} (hk : sc.names.lookup (Str.ofString "j") = some .local ∨ sc.names.lookup (Str.ofString "j") = some .cell) (hR : W.Rs) (hz : xs.length < 2 ^ 62) (h0 : k₀ ≤ xs.length)
    (h1 : ∀ k, k₀ ≤ k → k < xs.length → xs.drop k = (xs.drop k₀).dropWhile (· == v) → Post (.nx [(Str.ofString "expected", b1), (Str.ofString "actual", .sh (intsD xs)), (Str.ofString "i", b2), (Str.ofString "j", .sh (.int (k : Nat))), (Str.ofString "missing", b3), (Str.ofString "unexpected", b4), (Str.ofString "e", b5), (Str.ofString "a", .sh (.int v))]))
    (h2 : (xs.drop k₀).dropWhile (· == v) = [] → Post (.ex (ixX W) [(Str.ofString "expected", b1), (Str.ofString "actual", .sh (intsD xs)), (Str.ofString "i", b2), (Str.ofString "j", .sh (.int (xs.length : Nat))), (Str.ofString "missing", b3), (Str.ofString "unexpected", b4), (Str.ofString "e", b5), (Str.ofString "a", .sh (.int v))])) :
    Ex1 W ht sc [(Str.ofString "expected", b1), (Str.ofString "actual", .sh (intsD xs)), (Str.ofString "i", b2), (Str.ofString "j", .sh (.int (k₀ : Nat))), (Str.ofString "missing", b3), (Str.ofString "unexpected", b4), (Str.ofString "e", b5), (Str.ofString "a", .sh (.int v))] obs
      (.While (.Compare (.Subscript (.Name (Str.ofString "actual") p1) (.Name (Str.ofString "j") p2) p3) [.Eq] [.Name (Str.ofString "a") p4] p5) [.AugAssign (.Name (Str.ofString "j") p6) .Add (.Constant (.int 1) n1 p7) p8] [] p9) Post := by
  refine Ex1.whileX (σ := Nat) (fun k => [(Str.ofString "expected", b1), (Str.ofString "actual", .sh (intsD xs)), (Str.ofString "i", b2), (Str.ofString "j", .sh (.int (k : Nat))), (Str.ofString "missing", b3), (Str.ofString "unexpected", b4), (Str.ofString "e", b5), (Str.ofString "a", .sh (.int v))])
    (fun n k => k₀ ≤ k ∧ k ≤ xs.length ∧ n = xs.length - k ∧ (xs.drop k).dropWhile (· == v) = (xs.drop k₀).dropWhile (· == v)) (xs.length - k₀) k₀ ⟨Nat.le_refl _, h0, rfl, rfl⟩ (.same (.same (.same (.same (.same (.same (.same (.same .nil)))))))) ?_
  rintro n k ⟨hk0, hkl, rfl, hdw⟩
  by_cases hlt : k < xs.length
  · refine .inl ⟨xs[k] == v, EvT.cmp (Ev.eq_int (a := xs[k]) (b := v) (Ev.item_list (xs := xs.map .int) (k := (k : Nat)) (Ev.name (d := intsD xs) (by k_extra "mem")) (by k_extra "ev") (by lia) (by lia) (by simp [hlt])) (by k_extra "ev")), fun hb => ?_, fun hb => ?_⟩
    · refine Ex.cons (Ex1.aug_add (a := (k : Nat)) (b := 1) (by k_extra "mem") hk (by k_extra "ev") (by k_extra "upd") (Ex.nil ⟨k + 1, ⟨xs.length - (k + 1), by lia, by lia, by lia, rfl, ?_⟩, ?_⟩))
      · rw [← hdw, drop_at (l := xs) (k := k) (v := xs[k]) (by simp [hlt]), List.dropWhile_cons, hb]; rfl
      · exact .same (.same (.same (.same (.same (.same (.same (.same .nil)))))))
    · refine Ex.nil (h1 k hk0 hlt ?_)
      rw [← hdw, drop_at (l := xs) (k := k) (v := xs[k]) (by simp [hlt]), List.dropWhile_cons, hb]; rfl
  · have hk' : k = xs.length := by lia
    subst hk'
    refine .inr ⟨ixX W, EvTX.cmpL (EvX.item_out (xs := xs.map .int) (k := (xs.length : Nat)) (Ev.name (d := intsD xs) (by k_extra "mem")) (by k_extra "ev") (by simp) (by lia) hR), h2 ?_⟩
    rw [← hdw]; simp
end
structure SldF (xs ys : List Int) (i j : Nat) (M U : List Int) : Prop where
  hi : i ≤ xs.length
  hj : j ≤ ys.length
  hM : M.length ≤ i
  hU : U.length ≤ j
  m : M ++ xs.drop i = (sld xs ys).1
  u : U ++ ys.drop j = (sld xs ys).2
structure SldI (xs ys : List Int) (i j : Nat) (M U : List Int) : Prop where
  hi : i ≤ xs.length
  hj : j ≤ ys.length
  hM : M.length ≤ i
  hU : U.length ≤ j
  m : M ++ (sld (xs.drop i) (ys.drop j)).1 = (sld xs ys).1
  u : U ++ (sld (xs.drop i) (ys.drop j)).2 = (sld xs ys).2
theorem SldI.endL {xs ys : List Int} {j : Nat} {M U : List Int} (h : SldI xs ys xs.length j M U) : SldF xs ys xs.length j M U := by
  have m := h.m; have u := h.u
  rw [List.drop_length, sld_nil] at m u
  exact ⟨h.hi, h.hj, h.hM, h.hU, by simpa using m, by simpa using u⟩
theorem SldI.endR {xs ys : List Int} {i : Nat} {M U : List Int} (h : SldI xs ys i ys.length M U) : SldF xs ys i ys.length M U := by
  have m := h.m; have u := h.u
  rw [List.drop_length, sld_nilR] at m u
  exact ⟨h.hi, h.hj, h.hM, h.hU, by simpa using m, by simpa using u⟩
theorem SldI.lt {xs ys : List Int} {i j k : Nat} {M U : List Int} {e a : Int} (I : SldI xs ys i j M U) (he : xs[i]? = some e) (ha : ys[j]? = some a) (h : e < a) (hk : k ≤ xs.length) (hik : i + 1 ≤ k) (hd : xs.drop k = (xs.drop (i + 1)).dropWhile (· == e)) : SldI xs ys k j (M ++ [e]) U := by
  have m := I.m; have u := I.u
  rw [drop_at he, drop_at ha, sld_cons, if_pos h, ← drop_at ha, ← hd] at m u
  refine ⟨hk, I.hj, ?_, I.hU, by simpa using m, u⟩
  have := I.hM; simp; lia
theorem SldI.gt {xs ys : List Int} {i j k : Nat} {M U : List Int} {e a : Int} (I : SldI xs ys i j M U) (he : xs[i]? = some e) (ha : ys[j]? = some a) (h : a < e) (hk : k ≤ ys.length) (hik : j + 1 ≤ k) (hd : ys.drop k = (ys.drop (j + 1)).dropWhile (· == a)) : SldI xs ys i k M (U ++ [a]) := by
  have m := I.m; have u := I.u
  rw [drop_at he, drop_at ha, sld_cons, if_neg (by lia), if_pos h, ← drop_at he, ← hd] at m u
  refine ⟨I.hi, hk, I.hM, ?_, m, by simpa using u⟩
  have := I.hU; simp; lia
theorem SldI.eq {xs ys : List Int} {i j k l : Nat} {M U : List Int} {e : Int} (I : SldI xs ys i j M U) (he : xs[i]? = some e) (ha : ys[j]? = some e) (hk : k ≤ xs.length) (hik : i + 1 ≤ k) (hd : xs.drop k = (xs.drop (i + 1)).dropWhile (· == e))
    (hl : l ≤ ys.length) (hjl : j + 1 ≤ l) (hd' : ys.drop l = (ys.drop (j + 1)).dropWhile (· == e)) : SldI xs ys k l M U := by
  have m := I.m; have u := I.u
  rw [drop_at he, drop_at ha, sld_cons, if_neg (by lia), if_neg (by lia), ← hd, ← hd'] at m u
  exact ⟨hk, hl, by have := I.hM; lia, by have := I.hU; lia, m, u⟩
noncomputable def SldP (xs ys : List Int) (i j : Nat) : Out → Prop
  | .nx ρ => ∃ (i' j' : Nat) (M U : List Int) (be ba : B), ρ = [(Str.ofString "expected", .sh (intsD xs)), (Str.ofString "actual", .sh (intsD ys)), (Str.ofString "i", .sh (.int (i' : Nat))), (Str.ofString "j", .sh (.int (j' : Nat))), (Str.ofString "missing", .l1 (M.map .int)), (Str.ofString "unexpected", .l1 (U.map .int)), (Str.ofString "e", be), (Str.ofString "a", ba)] ∧ SldI xs ys i' j' M U ∧ (xs.length - i') + (ys.length - j') < (xs.length - i) + (ys.length - j)
  | .ex x ρ => x.cls = .type "IndexError" ∧ ∃ (i' j' : Nat) (M U : List Int) (be ba : B), ρ = [(Str.ofString "expected", .sh (intsD xs)), (Str.ofString "actual", .sh (intsD ys)), (Str.ofString "i", .sh (.int (i' : Nat))), (Str.ofString "j", .sh (.int (j' : Nat))), (Str.ofString "missing", .l1 (M.map .int)), (Str.ofString "unexpected", .l1 (U.map .int)), (Str.ofString "e", be), (Str.ofString "a", ba)] ∧ SldF xs ys i' j' M U
  | _ => False
set_option maxHeartbeats 4000000 in
theorem con_sld (w : World) (base : Heap) (xs ys : List Int) (hx : xs.length ≤ 100) (hy : ys.length ≤ 100) : Con (W1 w base) 1 (.ref 28) [intsD xs, intsD ys] (.tuple [intsD (sld xs ys).1, intsD (sld xs ys).2]) := by
  refine Con.of (fn_sorted_list_difference w base) rfl ?_
  dsimp only [List.zip, List.zipWith, List.map, List.append_nil, List.cons_append, List.nil_append]
  refine Ex.cons (Ex1.assign2 (d := .int 0) locOk locOk (by k_extra "ev") (by k_extra "upd") (by k_extra "upd") ?_)
  refine Ex.cons (Ex1.assign_nil locOk (by k_extra "upd") ?_)
  refine Ex.cons (Ex1.assign_nil locOk (by k_extra "upd") ?_)
  have li : (fnScope PW 2).names.lookup (Str.ofString "i") = some .local ∨ (fnScope PW 2).names.lookup (Str.ofString "i") = some .cell := locOk
  have lj : (fnScope PW 2).names.lookup (Str.ofString "j") = some .local ∨ (fnScope PW 2).names.lookup (Str.ofString "j") = some .cell := locOk
  have hsz : (200 : Nat) ≤ sizeLine := by rw [sizeLine_eq]; decide
  refine Ex.cons (Ex1.whileS (σ := Nat × Nat × List Int × List Int)
    (fun σ => [(Str.ofString "expected", .sh (intsD xs)), (Str.ofString "actual", .sh (intsD ys)), (Str.ofString "i", .sh (.int (σ.1 : Nat))), (Str.ofString "j", .sh (.int (σ.2.1 : Nat))), (Str.ofString "missing", .l1 (σ.2.2.1.map .int)), (Str.ofString "unexpected", .l1 (σ.2.2.2.map .int)), (Str.ofString "e", .un), (Str.ofString "a", .un)])
    (fun n σ => SldI xs ys σ.1 σ.2.1 σ.2.2.1 σ.2.2.2 ∧ n = (xs.length - σ.1) + (ys.length - σ.2.1)) (xs.length + ys.length) (0, 0, [], []) ⟨⟨Nat.zero_le _, Nat.zero_le _, Nat.le_refl _, Nat.le_refl _, rfl, rfl⟩, by simp⟩ (.same (.same (.same (.same (.same (.same (.same (.same .nil)))))))) ?_)
  rintro n ⟨i, j, M, U⟩ ⟨I, rfl⟩
  dsimp only at I ⊢
  refine ⟨true, by k_extra "evt", fun _ => ?_, fun e => nomatch e⟩
  refine Ex.cons (Ex1.try1 (c := .type "IndexError") (Ex.mono (Post := SldP xs ys i j) ?body ?impl) (fun n ρ' => EvV.builtin (by kernel_rfl) (gn_IndexError w base) (by kernel_rfl)))
  case impl =>
    intro o ho
    cases o with
    | nx ρ =>
      obtain ⟨i', j', M', U', be, ba, rfl, I', lt⟩ := ho
      exact Ex.nil ⟨(i', j', M', U'), ⟨_, lt, I', rfl⟩, .same (.same (.same (.same (.same (.same (.un (.un .nil)))))))⟩
    | ex x ρ =>
      obtain ⟨hc, i', j', M', U', be, ba, rfl, F'⟩ := ho
      refine ⟨true, by rw [hc]; exact Mtch.B, fun _ => ?_, fun z => nomatch z⟩
      have z1 : (M'.map PyData.int).length + ((xs.map PyData.int).drop i').length ≤ sizeLine := by
        have := F'.hM; have := F'.hi
        simp only [List.length_map, List.length_drop]; lia
      have z2 : (U'.map PyData.int).length + ((ys.map PyData.int).drop j').length ≤ sizeLine := by
        have := F'.hU; have := F'.hj
        simp only [List.length_map, List.length_drop]; lia
      refine Ex.cons (Ex1.extend (xs := M'.map .int) (ys := (xs.map .int).drop i') (by k_extra "mem") (Ev.from (xs := xs.map .int) (k := i') (Ev.name (d := intsD xs) (by k_extra "mem")) (by k_extra "ev") (by rw [List.length_map]; lia)) z1 (by k_extra "upd") ?_)
      refine Ex.cons (Ex1.extend (xs := U'.map .int) (ys := (ys.map .int).drop j') (by k_extra "mem") (Ev.from (xs := ys.map .int) (k := j') (Ev.name (d := intsD ys) (by k_extra "mem")) (by k_extra "ev") (by rw [List.length_map]; lia)) z2 (by k_extra "upd") ?_)
      refine Ex.cons (Ex1.brk ?_)
      rw [← List.map_drop, ← List.map_append, ← List.map_drop, ← List.map_append, F'.m, F'.u]
      refine Ex.freeze (x := Str.ofString "missing") (by k_extra "mem") (by k_extra "upd") ?_
      dsimp only [B.frozen]
      refine Ex.freeze (x := Str.ofString "unexpected") (by k_extra "mem") (by k_extra "upd") ?_
      dsimp only [B.frozen]
      refine Ex.cons (Ex1.ret (Ev.tuple (EvAll.cons (Ev.name (d := .list ((sld xs ys).1.map .int)) (by k_extra "mem")) (EvAll.cons (Ev.name (d := .list ((sld xs ys).2.map .int)) (by k_extra "mem")) EvAll.nil)) (by simp [sizeLine_eq])) rfl)
    | _ => exact ho.elim
  case body =>
    have hi := I.hi
    have hj := I.hj
    by_cases hil : i < xs.length
    rotate_left
    · have : i = xs.length := by lia
      subst this
      exact Ex.cons (Ex1.assignX (x := ixX (W1 w base)) (EvX.item_out (xs := xs.map .int) (k := (xs.length : Nat)) (Ev.name (d := intsD xs) (by k_extra "mem")) (by k_extra "ev") (by simp) (by lia) (.inl rfl)) ⟨rfl, xs.length, j, M, U, _, _, rfl, I.endL⟩)
    refine Ex.cons (Ex1.assign (d := .int xs[i]) locOk (Ev.item_list (xs := xs.map .int) (k := (i : Nat)) (Ev.name (d := intsD xs) (by k_extra "mem")) (by k_extra "ev") (by lia) (by lia) (by simp [hil])) (by k_extra "upd") ?_)
    by_cases hjl : j < ys.length
    rotate_left
    · have : j = ys.length := by lia
      subst this
      exact Ex.cons (Ex1.assignX (x := ixX (W1 w base)) (EvX.item_out (xs := ys.map .int) (k := (ys.length : Nat)) (Ev.name (d := intsD ys) (by k_extra "mem")) (by k_extra "ev") (by simp) (by lia) (.inl rfl)) ⟨rfl, i, ys.length, M, U, _, _, rfl, I.endR⟩)
    refine Ex.cons (Ex1.assign (d := .int ys[j]) locOk (Ev.item_list (xs := ys.map .int) (k := (j : Nat)) (Ev.name (d := intsD ys) (by k_extra "mem")) (by k_extra "ev") (by lia) (by lia) (by simp [hjl])) (by k_extra "upd") ?_)
    have he : xs[i]? = some xs[i] := by simp [hil]
    have ha : ys[j]? = some ys[j] := by simp [hjl]
    generalize xs[i] = e at he
    generalize ys[j] = a at ha
    have hMl := I.hM
    have hUl := I.hU
    refine Ex.cons (Ex1.ifs (b := decide (e < a)) (by k_extra "evt") (fun hb => ?_) fun hb => ?_)
    · have hlt : e < a := of_decide_eq_true hb
      refine Ex.cons (Ex1.append (d := .int e) (xs := M.map .int) (by k_extra "mem") (by k_extra "ev") (by rw [List.length_map]; lia) (by k_extra "upd") ?_)
      refine Ex.cons (Ex1.aug_add (a := (i : Nat)) (b := 1) (by k_extra "mem") li (by k_extra "ev") (by k_extra "upd") ?_)
      rw [show M.map PyData.int ++ [.int e] = (M ++ [e]).map .int by simp]
      refine Ex.cons (skip_i (k₀ := i + 1) li (.inl rfl) (by lia) (by lia) (fun k h1 h2 h3 => ?_) fun h3 => ?_)
      · exact Ex.nil (Ex.nil ⟨k, j, M ++ [e], U, _, _, rfl, I.lt he ha hlt (by lia) h1 h3, by lia⟩)
      · exact ⟨rfl, xs.length, j, M ++ [e], U, _, _, rfl, (I.lt he ha hlt (Nat.le_refl _) (by lia) (by rw [h3, List.drop_length])).endL⟩
    · have hnl : ¬ e < a := of_decide_eq_false hb
      refine Ex.cons (Ex1.ifs (b := decide (a < e)) (by k_extra "evt") (fun hb => ?_) fun hb => ?_)
      · have hlt : a < e := of_decide_eq_true hb
        refine Ex.cons (Ex1.append (d := .int a) (xs := U.map .int) (by k_extra "mem") (by k_extra "ev") (by rw [List.length_map]; lia) (by k_extra "upd") ?_)
        refine Ex.cons (Ex1.aug_add (a := (j : Nat)) (b := 1) (by k_extra "mem") lj (by k_extra "ev") (by k_extra "upd") ?_)
        rw [show U.map PyData.int ++ [.int a] = (U ++ [a]).map .int by simp]
        refine Ex.cons (skip_j (k₀ := j + 1) lj (.inl rfl) (by lia) (by lia) (fun k h1 h2 h3 => ?_) fun h3 => ?_)
        · exact Ex.nil (Ex.nil (Ex.nil ⟨i, k, M, U ++ [a], _, _, rfl, I.gt he ha hlt (by lia) h1 h3, by lia⟩))
        · exact ⟨rfl, i, ys.length, M, U ++ [a], _, _, rfl, (I.gt he ha hlt (Nat.le_refl _) (by lia) (by rw [h3, List.drop_length])).endR⟩
      · have hea : a = e := by have := of_decide_eq_false hb; lia
        subst hea
        refine Ex.cons (Ex1.aug_add (a := (i : Nat)) (b := 1) (by k_extra "mem") li (by k_extra "ev") (by k_extra "upd") ?_)
        refine Ex.cons (Ex1.tryf ?_)
        refine Ex.cons (skip_i (k₀ := i + 1) li (.inl rfl) (by lia) (by lia) (fun k h1 h2 h3 => ?_) fun h3 => ?_)
        · refine Ex.nil ?_
          refine Ex.cons (Ex1.aug_add (a := (j : Nat)) (b := 1) (by k_extra "mem") lj (by k_extra "ev") (by k_extra "upd") ?_)
          refine Ex.cons (skip_j (k₀ := j + 1) lj (.inl rfl) (by lia) (by lia) (fun l g1 g2 g3 => ?_) fun g3 => ?_)
          · exact Ex.nil (Ex.nil (Ex.nil (Ex.nil ⟨k, l, M, U, _, _, rfl, I.eq he ha (by lia) h1 h3 (by lia) g1 g3, by lia⟩)))
          · exact ⟨rfl, k, ys.length, M, U, _, _, rfl, (I.eq he ha (by lia) h1 h3 (Nat.le_refl _) (by lia) (by rw [g3, List.drop_length])).endR⟩
        · refine ⟨rfl, rfl, ?_⟩
          refine Ex.cons (Ex1.aug_add (a := (j : Nat)) (b := 1) (by k_extra "mem") lj (by k_extra "ev") (by k_extra "upd") ?_)
          refine Ex.cons (skip_j (k₀ := j + 1) lj (.inr ⟨rfl, _, rfl⟩) (by lia) (by lia) (fun l g1 g2 g3 => ?_) fun g3 => ?_)
          · exact Ex.nil ⟨rfl, xs.length, l, M, U, _, _, rfl, (I.eq he ha (Nat.le_refl _) (by lia) (by rw [h3, List.drop_length]) (by lia) g1 g3).endL⟩
          · exact ⟨rfl, xs.length, ys.length, M, U, _, _, rfl, (I.eq he ha (Nat.le_refl _) (by lia) (by rw [h3, List.drop_length]) (Nat.le_refl _) (by lia) (by rw [g3, List.drop_length])).endL⟩
noncomputable def mBody (p : Program) (i j : Nat) : List Stmt := match nth i p.main.body with
  | some (.ClassDef _ _ _ b _ _ _ _ _ _ _) => (match nth j b with
    | some (.FunctionDef _ _ b _ _ _ _ _ _ _) => b
    | _ => [])
  | _ => []
noncomputable def mScope (p : Program) (i j : Nat) : Scope := match nth i p.main.body with
  | some (.ClassDef _ _ _ b _ _ _ _ _ _ _) => (match nth j b with
    | some (.FunctionDef _ _ _ _ _ _ s _ _ _) => s
    | _ => default)
  | _ => default
theorem star0 {S : Value → List Value → List Value → Prop} (h0 : ∀ v, S v [] []) (h1 : ∀ v a, S v [] [a]) (h2 : ∀ v a b, S v [] [a, b]) (h3 : ∀ v a b c, S v [] [a, b, c]) (h4 : ∀ v a b c d, S v [] [a, b, c, d]) (h5 : ∀ v a b c d e, S v [] [a, b, c, d, e]) (h6 : ∀ v a b c d e f, S v [] [a, b, c, d, e, f]) : ∀ v us vs, us.length = 0 → vs.length ≤ 6 → S v us vs :=
  fun v us vs hu hv => args0 (P := fun us => S v us vs) (argsS (P := S v []) (h0 v) (h1 v) (h2 v) (h3 v) (h4 v) (h5 v) (h6 v) vs hv) us hu
theorem star1 {S : Value → List Value → List Value → Prop} (h0 : ∀ v u, S v [u] []) (h1 : ∀ v u a, S v [u] [a]) (h2 : ∀ v u a b, S v [u] [a, b]) (h3 : ∀ v u a b c, S v [u] [a, b, c]) (h4 : ∀ v u a b c d, S v [u] [a, b, c, d]) (h5 : ∀ v u a b c d e, S v [u] [a, b, c, d, e]) (h6 : ∀ v u a b c d e f, S v [u] [a, b, c, d, e, f]) : ∀ v us vs, us.length = 1 → vs.length ≤ 6 → S v us vs :=
  fun v us vs hu hv => args1 (P := fun us => S v us vs) (fun u => argsS (P := S v [u]) (h0 v u) (h1 v u) (h2 v u) (h3 v u) (h4 v u) (h5 v u) (h6 v u) vs hv) us hu
theorem bind_fixed {W : Wrld} {fd : FuncData} {x : Str} {ps : List Str} {ds : List PyData} (hl : ds.length = ps.length) (h : ∀ (v : Value) (vs : List Value), vs.length = ps.length → bindArgs fd ⟨v :: vs, []⟩ = pure ((x :: ps).zip (v :: vs))) :
    ∀ (M : Model) (A : Around) (Q : List (Str × Value) → Shared → Prop) (E : Value → Shared → Prop) (s : Shared) (P : Addr → Prop) (v : Value) (vs : List Value), (∀ a, s.heap.get? a = none → P a) → W.Ok s.heap → (∀ a o, W.base.get? a = some o → P a) → RlAll s.heap P ds vs →
    (∀ h' tk ws, s.heap.StaysIn h' → RlAll h' P ds ws → Q ((x :: ps).zip (v :: ws)) { s with heap := h', toks := tk }) → wpAny M A (bindArgs fd ⟨v :: vs, []⟩) Q E s := by
  intro M A Q E s P v vs _ _ _ r hQ
  rw [h v vs (r.length.trans hl)]
  exact wpAny_pure (hQ s.heap s.toks vs (fun _ _ e => e) r)
theorem rl_split {h : Heap} {P : Addr → Prop} : ∀ {xs ys : List PyData} {vs : List Value}, RlAll h P (xs ++ ys) vs → ∃ us ws, vs = us ++ ws ∧ RlAll h P xs us ∧ RlAll h P ys ws
  | [], _, vs, r => ⟨[], vs, rfl, rfl, r⟩
  | _ :: xs, _, _, ⟨v, vs', e, r, rs⟩ => by
    obtain ⟨us, ws, rfl, r1, r2⟩ := rl_split (xs := xs) rs
    exact ⟨v :: us, ws, e, ⟨v, us, rfl, r, r1⟩, r2⟩
theorem bind_star {W : Wrld} {fd : FuncData} {x : Str} {ps : List Str} {du dv : List PyData} (_ : du.length + 1 = ps.length) (hz : dv.length ≤ 6) (h : ∀ (v : Value) (us vs : List Value), us.length = du.length → vs.length ≤ 6 → bindArgs fd ⟨v :: (us ++ vs), []⟩ = (newTuple vs >>= fun t => pure ((x :: ps).zip (v :: (us ++ [t]))))) :
    ∀ (M : Model) (A : Around) (Q : List (Str × Value) → Shared → Prop) (E : Value → Shared → Prop) (s : Shared) (P : Addr → Prop) (v : Value) (vs : List Value), (∀ a, s.heap.get? a = none → P a) → W.Ok s.heap → (∀ a o, W.base.get? a = some o → P a) → RlAll s.heap P (du ++ dv) vs →
    (∀ h' tk ws, s.heap.StaysIn h' → RlAll h' P (du ++ [.tuple dv]) ws → Q ((x :: ps).zip (v :: ws)) { s with heap := h', toks := tk }) → wpAny M A (bindArgs fd ⟨v :: vs, []⟩) Q E s := by
  intro M A Q E s P v vs hP _ _ r hQ
  obtain ⟨us, ws, rfl, r1, r2⟩ := rl_split r
  rw [h v us ws r1.length (r2.length ▸ hz)]
  refine wpAny_bind (wpAny_newTuple (wpAny_pure (hQ _ s.toks _ (fun b o e => Heap.get?_push_of_some _ e) (RlAll.append (RlAll.mono (fun b o q g => ⟨Heap.get?_push_of_some _ g, q⟩) _ _ r1) (RlAll.one ⟨_, ws.toArray, 0, rfl, hP _ (fresh_none _), Heap.get?_push_size _ rfl, RlAll.mono (fun b o q g => ⟨Heap.get?_push_of_some _ g, q⟩) _ _ r2⟩)))) ?_)
  have := r2.length
  rw [sizeLine_eq]; (lia -abstractProof)
theorem bind_dflt {W : Wrld} {fd : FuncData} {x g : Str} {T : Addr} {o : Obj} {items : Array Value} {n : Nat}  (hd : fd.defaults = .ref T) (ho : W.K.lookup T = some o) (hs : o.data = .seq items n)
    (h₂ : ∀ v, ∃ k', bindArgs fd ⟨[v], []⟩ = seqItems? fd.defaults >>= k' ∧ k' (some items) = pure [(x, v), (g, .none)]) :
    ∀ (M : Model) (A : Around) (Q : List (Str × Value) → Shared → Prop) (E : Value → Shared → Prop) (s : Shared) (P : Addr → Prop) (v : Value) (vs : List Value), (∀ a, s.heap.get? a = none → P a) → W.Ok s.heap → (∀ a o, W.base.get? a = some o → P a) → RlAll s.heap P [] vs →
    (∀ h' tk ws, s.heap.StaysIn h' → RlAll h' P [.none] ws → Q ([x, g].zip (v :: ws)) { s with heap := h', toks := tk }) → wpAny M A (bindArgs fd ⟨v :: vs, []⟩) Q E s := by
  intro M A Q E s P v vs _ ok _ r hQ
  cases r
  obtain ⟨k', h3, h4⟩ := h₂ v
  refine BindsTo.of_defaults hd (ok.k _ _ ho) hs h3 h4 M A E Q (hQ s.heap s.toks [.none] (fun _ _ e => e) (RlAll.one rfl))
noncomputable def dfOf (K : Frag) (a : Addr) : Addr := match (fdOf K a).defaults with
  | .ref t => t
  | _ => 0
theorem mi_get_nodeinfo (P : Params) : MethIn (KK P) 191 (Str.ofString "_get_nodeinfo") 134 := ⟨by kernel_rfl, by kernel_rfl, by kernel_rfl, by kernel_rfl, by kernel_rfl⟩
theorem mi_add (P : Params) : MethIn (KK P) 191 (Str.ofString "add") 141 := ⟨by kernel_rfl, by kernel_rfl, by kernel_rfl, by kernel_rfl, by kernel_rfl⟩
theorem mi_prepare (P : Params) : MethIn (KK P) 191 (Str.ofString "prepare") 146 := ⟨by kernel_rfl, by kernel_rfl, by kernel_rfl, by kernel_rfl, by kernel_rfl⟩
theorem mi_get_ready (P : Params) : MethIn (KK P) 191 (Str.ofString "get_ready") 153 := ⟨by kernel_rfl, by kernel_rfl, by kernel_rfl, by kernel_rfl, by kernel_rfl⟩
theorem mi_is_active (P : Params) : MethIn (KK P) 191 (Str.ofString "is_active") 160 := ⟨by kernel_rfl, by kernel_rfl, by kernel_rfl, by kernel_rfl, by kernel_rfl⟩
theorem mi_done (P : Params) : MethIn (KK P) 191 (Str.ofString "done") 174 := ⟨by kernel_rfl, by kernel_rfl, by kernel_rfl, by kernel_rfl, by kernel_rfl⟩
theorem mi_find_cycle (P : Params) : MethIn (KK P) 191 (Str.ofString "_find_cycle") 181 := ⟨by kernel_rfl, by kernel_rfl, by kernel_rfl, by kernel_rfl, by kernel_rfl⟩
theorem ai_node2info (P : Params) : AttrIn (KK P) 191 (Str.ofString "_node2info") := ⟨by kernel_rfl, by kernel_rfl, by kernel_rfl⟩
theorem si_node2info (P : Params) : StoreIn (KK P) 191 (Str.ofString "_node2info") none := ⟨by kernel_rfl, by kernel_rfl, by kernel_rfl⟩
theorem ai_ready_nodes (P : Params) : AttrIn (KK P) 191 (Str.ofString "_ready_nodes") := ⟨by kernel_rfl, by kernel_rfl, by kernel_rfl⟩
theorem si_ready_nodes (P : Params) : StoreIn (KK P) 191 (Str.ofString "_ready_nodes") none := ⟨by kernel_rfl, by kernel_rfl, by kernel_rfl⟩
theorem ai_npassedout (P : Params) : AttrIn (KK P) 191 (Str.ofString "_npassedout") := ⟨by kernel_rfl, by kernel_rfl, by kernel_rfl⟩
theorem si_npassedout (P : Params) : StoreIn (KK P) 191 (Str.ofString "_npassedout") none := ⟨by kernel_rfl, by kernel_rfl, by kernel_rfl⟩
theorem ai_nfinished (P : Params) : AttrIn (KK P) 191 (Str.ofString "_nfinished") := ⟨by kernel_rfl, by kernel_rfl, by kernel_rfl⟩
theorem si_nfinished (P : Params) : StoreIn (KK P) 191 (Str.ofString "_nfinished") none := ⟨by kernel_rfl, by kernel_rfl, by kernel_rfl⟩
theorem hd_ts (P : Params) : hasDictIn (KK P) 191 = true := by kernel_rfl
theorem sl_node (P : Params) : SlotIn (KK P) 94 (Str.ofString "node") 95 0 := ⟨by kernel_rfl, by kernel_rfl, by kernel_rfl, by kernel_rfl, by kernel_rfl, by kernel_rfl, by kernel_rfl⟩
theorem ss_node (P : Params) : StoreIn (KK P) 94 (Str.ofString "node") (some (.ref 95)) := ⟨by kernel_rfl, by kernel_rfl, by kernel_rfl⟩
theorem st_node (P : Params) : typeIn (KK P) (.ref 95) = some (.type "member_descriptor") := by kernel_rfl
theorem sl_npredecessors (P : Params) : SlotIn (KK P) 94 (Str.ofString "npredecessors") 96 1 := ⟨by kernel_rfl, by kernel_rfl, by kernel_rfl, by kernel_rfl, by kernel_rfl, by kernel_rfl, by kernel_rfl⟩
theorem ss_npredecessors (P : Params) : StoreIn (KK P) 94 (Str.ofString "npredecessors") (some (.ref 96)) := ⟨by kernel_rfl, by kernel_rfl, by kernel_rfl⟩
theorem st_npredecessors (P : Params) : typeIn (KK P) (.ref 96) = some (.type "member_descriptor") := by kernel_rfl
theorem sl_successors (P : Params) : SlotIn (KK P) 94 (Str.ofString "successors") 97 2 := ⟨by kernel_rfl, by kernel_rfl, by kernel_rfl, by kernel_rfl, by kernel_rfl, by kernel_rfl, by kernel_rfl⟩
theorem ss_successors (P : Params) : StoreIn (KK P) 94 (Str.ofString "successors") (some (.ref 97)) := ⟨by kernel_rfl, by kernel_rfl, by kernel_rfl⟩
theorem st_successors (P : Params) : typeIn (KK P) (.ref 97) = some (.type "member_descriptor") := by kernel_rfl
theorem mk_ni (P : Params) : MakeIn (KK P) 94 90 := ⟨by kernel_rfl, by kernel_rfl, by kernel_rfl, by kernel_rfl⟩
theorem mk_ts (P : Params) : MakeIn (KK P) 191 127 := ⟨by kernel_rfl, by kernel_rfl, by kernel_rfl, by kernel_rfl⟩
theorem g_TS (w : World) (base : Heap) : (W1 w base).G (Str.ofString "TopologicalSorter") = some (.ref 191) := by kernel_rfl
theorem g_NI (w : World) (base : Heap) : (W1 w base).G (Str.ofString "_NodeInfo") = some (.ref 94) := by kernel_rfl
theorem g_CE (w : World) (base : Heap) : (W1 w base).G (Str.ofString "CycleError") = some (.ref 109) := by kernel_rfl
theorem fm_ni_init (w : World) (base : Heap) (d : PyData) : FnM (W1 w base) 90 (fdOf (KK w.params) 90) (mScope PW 29 1) (mBody PW 29 1) (Str.ofString "self") [Str.ofString "node"] [] [d] [d] := FnM.look (by kernel_rfl) (by decide +kernel) (rfl) (bind_fixed rfl fun v => args1 (fun v0 => by kernel_rfl))
theorem fm_ts_init (w : World) (base : Heap)  : FnM (W1 w base) 127 (fdOf (KK w.params) 127) (mScope PW 31 0) (mBody PW 31 0) (Str.ofString "self") [Str.ofString "graph"] [Str.ofString "node", Str.ofString "predecessors"] [] [.none] := FnM.look (by kernel_rfl) (by decide +kernel) (rfl) (bind_dflt (T := dfOf (KK w.params) 127) (o := (KK w.params).lookup (dfOf (KK w.params) 127) |>.getD default) (items := #[.none]) (n := 0) (by kernel_rfl) (by kernel_rfl) (by kernel_rfl) fun v => ⟨_, rfl, by kernel_rfl⟩)
theorem fm_get_nodeinfo (w : World) (base : Heap) (d : PyData) : FnM (W1 w base) 134 (fdOf (KK w.params) 134) (mScope PW 31 1) (mBody PW 31 1) (Str.ofString "self") [Str.ofString "node"] [Str.ofString "result"] [d] [d] := FnM.look (by kernel_rfl) (by decide +kernel) (rfl) (bind_fixed rfl fun v => args1 (fun v0 => by kernel_rfl))
theorem fm_add (w : World) (base : Heap) (d : PyData) (dv : List PyData) (hz : dv.length ≤ 6) : FnM (W1 w base) 141 (fdOf (KK w.params) 141) (mScope PW 31 2) (mBody PW 31 2) (Str.ofString "self") [Str.ofString "node", Str.ofString "predecessors"] [Str.ofString "nodeinfo", Str.ofString "pred", Str.ofString "pred_info"] ([d] ++ dv) ([d] ++ [.tuple dv]) := FnM.look (by kernel_rfl) (by decide +kernel) (by simp) (bind_star (du := [d]) rfl hz (star1 (fun _ _ => by kernel_rfl) (fun _ _ _ => by kernel_rfl) (fun _ _ _ _ => by kernel_rfl) (fun _ _ _ _ _ => by kernel_rfl) (fun _ _ _ _ _ _ => by kernel_rfl) (fun _ _ _ _ _ _ _ => by kernel_rfl) (fun _ _ _ _ _ _ _ _ => by kernel_rfl)))
theorem fm_prepare (w : World) (base : Heap)  : FnM (W1 w base) 146 (fdOf (KK w.params) 146) (mScope PW 31 3) (mBody PW 31 3) (Str.ofString "self") [] [Str.ofString "cycle"] [] [] := FnM.look (by kernel_rfl) (by decide +kernel) (rfl) (bind_fixed rfl fun v => args0 (by kernel_rfl))
theorem fm_get_ready (w : World) (base : Heap)  : FnM (W1 w base) 153 (fdOf (KK w.params) 153) (mScope PW 31 4) (mBody PW 31 4) (Str.ofString "self") [] [Str.ofString "result", Str.ofString "n2i", Str.ofString "node"] [] [] := FnM.look (by kernel_rfl) (by decide +kernel) (rfl) (bind_fixed rfl fun v => args0 (by kernel_rfl))
theorem fm_is_active (w : World) (base : Heap)  : FnM (W1 w base) 160 (fdOf (KK w.params) 160) (mScope PW 31 5) (mBody PW 31 5) (Str.ofString "self") [] [] [] [] := FnM.look (by kernel_rfl) (by decide +kernel) (rfl) (bind_fixed rfl fun v => args0 (by kernel_rfl))
theorem fm_done (w : World) (base : Heap) (dv : List PyData) (hz : dv.length ≤ 6) : FnM (W1 w base) 174 (fdOf (KK w.params) 174) (mScope PW 31 7) (mBody PW 31 7) (Str.ofString "self") [Str.ofString "nodes"] [Str.ofString "n2i", Str.ofString "node", Str.ofString "nodeinfo", Str.ofString "stat", Str.ofString "successor", Str.ofString "successor_info"] ([] ++ dv) ([] ++ [.tuple dv]) := FnM.look (by kernel_rfl) (by decide +kernel) (by simp) (bind_star (du := []) rfl hz (star0 (fun _ => by kernel_rfl) (fun _ _ => by kernel_rfl) (fun _ _ _ => by kernel_rfl) (fun _ _ _ _ => by kernel_rfl) (fun _ _ _ _ _ => by kernel_rfl) (fun _ _ _ _ _ _ => by kernel_rfl) (fun _ _ _ _ _ _ _ => by kernel_rfl)))
theorem fm_find_cycle (w : World) (base : Heap)  : FnM (W1 w base) 181 (fdOf (KK w.params) 181) (mScope PW 31 8) (mBody PW 31 8) (Str.ofString "self") [] [Str.ofString "n2i", Str.ofString "stack", Str.ofString "itstack", Str.ofString "seen", Str.ofString "node2stacki", Str.ofString "node"] [] [] := FnM.look (by kernel_rfl) (by decide +kernel) (rfl) (bind_fixed rfl fun v => args0 (by kernel_rfl))
structure SS where
  nodes : List Int
  np : Int → Int
  su : Int → List Int
  ready : Option (List Int)
  npo : Int
  nfi : Int
structure Lay where
  dx : Addr
  n2i : Addr
  rd : Addr
  ia : Int → Addr
  da : Int → Addr
  sa : Int → Addr
noncomputable def rdV (L : Lay) (σ : SS) : VD := match σ.ready with
  | none => .none
  | some _ => .ref L.rd
noncomputable def tsNs (L : Lay) (σ : SS) : List (Str × VD) := [(Str.ofString "_node2info", .ref L.n2i), (Str.ofString "_ready_nodes", rdV L σ), (Str.ofString "_npassedout", .int σ.npo), (Str.ofString "_nfinished", .int σ.nfi)]
structure Sor (root : Addr) (L : Lay) (σ : SS) (m : HM) : Prop where
  inst : m root = some (.inst 191 L.dx [])
  dict : m L.dx = some (.ns (tsNs L σ))
  n2i : m L.n2i = some (.dct (σ.nodes.map fun k => (k, .ref (L.ia k))))
  n2iN : L.n2i ≠ sysModules
  info : ∀ k ∈ σ.nodes, m (L.ia k) = some (.inst 94 (L.da k) [some (.int k), some (.int (σ.np k)), some (.ref (L.sa k))])
  idx : ∀ k ∈ σ.nodes, m (L.da k) = some (.ns [])
  succ : ∀ k ∈ σ.nodes, m (L.sa k) = some (.lst ((σ.su k).map .int))
  rdy : ∀ l, σ.ready = some l → m L.rd = some (.lst (l.map .int)) ∧ ∀ k ∈ σ.nodes, L.sa k ≠ L.rd
  inj : ∀ k ∈ σ.nodes, ∀ k' ∈ σ.nodes, L.sa k = L.sa k' → k = k'
  nodup : σ.nodes.Nodup
noncomputable def updF {β : Type} (f : Int → β) (k : Int) (v : β) : Int → β := fun j => if j = k then v else f j
theorem updF_self {β : Type} {f : Int → β} {k : Int} {v : β} : updF f k v k = v := if_pos rfl
theorem updF_ne {β : Type} {f : Int → β} {k j : Int} {v : β} (h : j ≠ k) : updF f k v j = f j := if_neg h
section
variable {root : Addr} {L : Lay} {σ : SS} {m : HM}
theorem Sor.ia_inj (S : Sor root L σ m) {k k' : Int} (h : k ∈ σ.nodes) (h' : k' ∈ σ.nodes) (e : L.ia k = L.ia k') : k = k' := by
  have h1 := S.info k h
  rw [e, S.info k' h'] at h1
  exact (congrArg (fun o => match o with | some (OD.inst _ _ (some (VD.int x) :: _)) => x | _ => 0) h1).symm
theorem Sor.set_np (S : Sor root L σ m) {k n : Int} (hk : k ∈ σ.nodes) : Sor root L { σ with np := updF σ.np k n } (m.set (L.ia k) (.inst 94 (L.da k) [some (.int k), some (.int n), some (.ref (L.sa k))])) := by
  have hi := S.info k hk
  have ne : ∀ {b o}, m b = some o → (∀ sl, o ≠ .inst 94 (L.da k) sl) → b ≠ L.ia k := fun h n => ne_od h hi (n _)
  refine ⟨?_, ?_, ?_, S.n2iN, fun j hj => ?_, fun j hj => ?_, fun j hj => ?_, fun l hl => ⟨?_, (S.rdy l hl).2⟩, S.inj, S.nodup⟩
  · rw [HM.set_ne (ne S.inst (fun sl => by intro e; cases e))]; exact S.inst
  · rw [HM.set_ne (ne S.dict (fun sl => by intro e; cases e))]; exact S.dict
  · rw [HM.set_ne (ne S.n2i (fun sl => by intro e; cases e))]; exact S.n2i
  · by_cases e : j = k
    · subst e; rw [HM.set_self]; simp only [updF_self]
    · rw [HM.set_ne fun q => e (S.ia_inj hj hk q)]
      simp only [updF_ne e]; exact S.info j hj
  · rw [HM.set_ne (ne (S.idx j hj) (fun sl => by intro e; cases e))]; exact S.idx j hj
  · rw [HM.set_ne (ne (S.succ j hj) (fun sl => by intro e; cases e))]; exact S.succ j hj
  · rw [HM.set_ne (ne (S.rdy l hl).1 (fun sl => by intro e; cases e))]; exact (S.rdy l hl).1
theorem Sor.set_su (S : Sor root L σ m) {k : Int} {l : List Int} (hk : k ∈ σ.nodes) : Sor root L { σ with su := updF σ.su k l } (m.set (L.sa k) (.lst (l.map .int))) := by
  have hi := S.succ k hk
  have ne : ∀ {b o}, m b = some o → (∀ vs, o ≠ .lst vs) → b ≠ L.sa k := fun h n => ne_od h hi (n _)
  refine ⟨?_, ?_, ?_, S.n2iN, fun j hj => ?_, fun j hj => ?_, fun j hj => ?_, fun r hl => ⟨?_, (S.rdy r hl).2⟩, S.inj, S.nodup⟩
  · rw [HM.set_ne (ne S.inst (fun sl => by intro e; cases e))]; exact S.inst
  · rw [HM.set_ne (ne S.dict (fun sl => by intro e; cases e))]; exact S.dict
  · rw [HM.set_ne (ne S.n2i (fun sl => by intro e; cases e))]; exact S.n2i
  · rw [HM.set_ne (ne (S.info j hj) (fun sl => by intro e; cases e))]; exact S.info j hj
  · rw [HM.set_ne (ne (S.idx j hj) (fun sl => by intro e; cases e))]; exact S.idx j hj
  · by_cases e : j = k
    · subst e; rw [HM.set_self]; simp only [updF_self]
    · rw [HM.set_ne fun q => e (S.inj j hj k hk q)]
      simp only [updF_ne e]; exact S.succ j hj
  · rw [HM.set_ne (Ne.symm ((S.rdy r hl).2 k hk))]; exact (S.rdy r hl).1
theorem Sor.set_rd (S : Sor root L σ m) {l l' : List Int} (hr : σ.ready = some l) : Sor root L { σ with ready := some l' } (m.set L.rd (.lst (l'.map .int))) := by
  have hi := (S.rdy l hr).1
  have ne : ∀ {b o}, m b = some o → (∀ vs, o ≠ .lst vs) → b ≠ L.rd := fun h n => ne_od h hi (n _)
  have ed : tsNs L { σ with ready := some l' } = tsNs L σ := by unfold tsNs rdV; rw [hr]
  refine ⟨?_, ?_, ?_, S.n2iN, fun j hj => ?_, fun j hj => ?_, fun j hj => ?_, fun r q => ⟨?_, (S.rdy l hr).2⟩, S.inj, S.nodup⟩
  · rw [HM.set_ne (ne S.inst (fun sl => by intro e; cases e))]; exact S.inst
  · rw [HM.set_ne (ne S.dict (fun sl => by intro e; cases e)), ed]; exact S.dict
  · rw [HM.set_ne (ne S.n2i (fun sl => by intro e; cases e))]; exact S.n2i
  · rw [HM.set_ne (ne (S.info j hj) (fun sl => by intro e; cases e))]; exact S.info j hj
  · rw [HM.set_ne (ne (S.idx j hj) (fun sl => by intro e; cases e))]; exact S.idx j hj
  · rw [HM.set_ne ((S.rdy l hr).2 j hj)]; exact S.succ j hj
  · cases q; exact HM.set_self
theorem Sor.set_ns (S : Sor root L σ m) {npo nfi : Int} : Sor root L { σ with npo := npo, nfi := nfi } (m.set L.dx (.ns (tsNs L { σ with npo := npo, nfi := nfi }))) := by
  have hi := S.dict
  have ne : ∀ {b o}, m b = some o → (∀ vs, o ≠ .ns vs) → b ≠ L.dx := fun h n => ne_od h hi (n _)
  refine ⟨?_, HM.set_self, ?_, S.n2iN, fun j hj => ?_, fun j hj => ?_, fun j hj => ?_, fun r q => ⟨?_, (S.rdy r q).2⟩, S.inj, S.nodup⟩
  · rw [HM.set_ne (ne S.inst (fun sl => by intro e; cases e))]; exact S.inst
  · rw [HM.set_ne (ne S.n2i (fun sl => by intro e; cases e))]; exact S.n2i
  · rw [HM.set_ne (ne (S.info j hj) (fun sl => by intro e; cases e))]; exact S.info j hj
  · rw [HM.set_ne (ne_od (S.idx j hj) hi (by intro e; cases e))]; exact S.idx j hj
  · rw [HM.set_ne (ne (S.succ j hj) (fun sl => by intro e; cases e))]; exact S.succ j hj
  · rw [HM.set_ne (ne (S.rdy r q).1 (fun sl => by intro e; cases e))]; exact (S.rdy r q).1
theorem Sor.look (_ : Sor root L σ m) (k : Int) : (σ.nodes.map fun k => (k, VD.ref (L.ia k))).lookup k = if k ∈ σ.nodes then some (.ref (L.ia k)) else none := by
  have : ∀ l : List Int, (l.map fun k => (k, VD.ref (L.ia k))).lookup k = if k ∈ l then some (.ref (L.ia k)) else none := by
    intro l
    induction l with
    | nil => rfl
    | cons j l ih =>
      rw [List.map_cons, List.lookup_cons]
      by_cases e : k = j
      · subst e; simp
      · have : (k == j) = false := by simpa using e
        rw [this, ih]
        simp [e]
  exact this _
end
section
variable {W : Wrld} {ht : Nat} {sc : Scope} {ρ : Vars} {obs : Obs} {x : Str} {root : Addr} {m : HM} {Post : MO → Prop}
theorem Ex.endM (h : (x, .ow (RM root m)) ∈ ρ) (hp : Post (.v .none m)) : Ex W ht sc ρ obs [] (MEnds x root Post) := Ex.nil ⟨m, h, hp⟩
end
noncomputable def NewNI (k : Int) (x : Addr) (m' : HM) : Prop := ∃ dx sa, m' x = some (.inst 94 dx [some (.int k), some (.int 0), some (.ref sa)]) ∧ m' dx = some (.ns []) ∧ m' sa = some (.lst []) ∧ ∀ a od, m' a = some od → a = x ∨ a = dx ∨ a = sa
theorem con_ni_init (w : World) (base : Heap) (k : Int) (x dx : Addr) (hne : x ≠ dx) : Mth (W1 w base) 1 (.ref 90) x (mk0 94 x dx) [.int k] (fun mo => ∃ m', mo = .v .none m' ∧ NewNI k x m') := by
  refine Mth.of (fm_ni_init w base (.int k)) fun obs => ?_
  dsimp only [List.zip, List.zipWith, List.map, List.append_nil, List.cons_append, List.nil_append]
  have h1 : mk0 94 x dx x = some (.inst 94 dx []) := if_pos rfl
  have h2 : mk0 94 x dx dx = some (.ns []) := by unfold mk0; rw [if_neg (Ne.symm hne), if_pos rfl]
  refine Ex.cons (Ex1.attr_set (d := .int k) (by k_extra "mem") (EvD.int (by k_extra "ev")) (EvV.rooted (by k_extra "mem")) (Wr.slot h1 h2 (ss_node w.params) (sl_node w.params) (st_node w.params) (by decide)) (by k_extra "upd") ?_)
  refine Ex.cons (Ex1.attr_set (d := .int 0) (by k_extra "mem") (EvD.int (by k_extra "ev")) (EvV.rooted (by k_extra "mem")) (Wr.slot HM.set_self (by rw [HM.set_ne (Ne.symm hne)]; exact h2) (ss_npredecessors w.params) (sl_npredecessors w.params) (st_npredecessors w.params) (by decide)) (by k_extra "upd") ?_)
  refine Ex.cons (Ex1.attr_newlist (by k_extra "mem") fun a ha => ?_)
  have hax : a ≠ x := by rintro rfl; rw [HM.set_self] at ha; contradiction
  have had : a ≠ dx := by rintro rfl; rw [HM.set_ne (Ne.symm hne), HM.set_ne (Ne.symm hne), h2] at ha; contradiction
  refine ⟨x, _, _, _, by k_extra "upd", EvV.rooted (by k_extra "mem"), Wr.slot (by rw [HM.set_ne (Ne.symm hax)]; exact HM.set_self) (by rw [HM.set_ne (Ne.symm had), HM.set_ne (Ne.symm hne), HM.set_ne (Ne.symm hne)]; exact h2) (ss_successors w.params) (sl_successors w.params) (st_successors w.params) (by decide), by k_extra "upd", ?_⟩
  refine Ex.endM (by k_extra "mem") ⟨_, rfl, dx, a, ?_, ?_, ?_, ?_⟩
  · exact HM.set_self
  · rw [HM.set_ne (Ne.symm hne), HM.set_ne (Ne.symm had), HM.set_ne (Ne.symm hne), HM.set_ne (Ne.symm hne)]; exact h2
  · rw [HM.set_ne hax]; exact HM.set_self
  · intro b od hb
    by_cases e1 : b = x
    · exact .inl e1
    · by_cases e2 : b = a
      · exact .inr (.inr e2)
      · rw [HM.set_ne e1, HM.set_ne e2, HM.set_ne e1, HM.set_ne e1] at hb
        unfold mk0 at hb
        rw [if_neg e1] at hb
        split at hb
        · rename_i e; exact .inr (.inl e)
        · contradiction
theorem Sor.add_node {root : Addr} {L : Lay} {σ : SS} {m m' : HM} (S : Sor root L σ m) {k : Int} {x : Addr} (hk : k ∉ σ.nodes) (hr : σ.ready = none) (hm : ∀ a od, m' a = some od → m a = none) (hn : NewNI k x m') :
    ∃ L', L'.ia k = x ∧ L'.n2i = L.n2i ∧ L'.dx = L.dx ∧ Sor root L' { σ with nodes := σ.nodes ++ [k], np := updF σ.np k 0, su := updF σ.su k [] } ((m.join m').set L.n2i (.dct ((σ.nodes.map fun k => (k, .ref (L.ia k))) ++ [(k, .ref x)]))) := by
  obtain ⟨dx, sa, n1, n2, n3, n4⟩ := hn
  have old : ∀ {a od}, m a = some od → m.join m' a = some od := fun {a od} h => by
    unfold HM.join
    cases q : m' a with
    | none => exact h
    | some od' => rw [hm a od' q] at h; contradiction
  have new : ∀ {a od}, m' a = some od → m.join m' a = some od := fun {a od} h => by unfold HM.join; rw [h]
  have hn2i := S.n2i
  have ne : ∀ {b o}, m.join m' b = some o → (∀ kvs, o ≠ .dct kvs) → b ≠ L.n2i := fun h n => ne_od h (old hn2i) (n _)
  have kn : ∀ j ∈ σ.nodes, j ≠ k := fun j hj e => hk (e ▸ hj)
  let L' : Lay := { L with ia := updF L.ia k x, da := updF L.da k dx, sa := updF L.sa k sa }
  have mapE : ((σ.nodes ++ [k]).map fun k => (k, VD.ref (L'.ia k))) = (σ.nodes.map fun k => (k, .ref (L.ia k))) ++ [(k, .ref x)] := by
    rw [List.map_append]
    congr 1
    · apply List.map_congr_left
      intro j hj
      show (j, VD.ref (updF L.ia k x j)) = _
      rw [updF_ne (kn j hj)]
    · show [(k, VD.ref (updF L.ia k x k))] = _
      rw [updF_self]
  have edict : tsNs L' { σ with nodes := σ.nodes ++ [k], np := updF σ.np k 0, su := updF σ.su k [] } = tsNs L σ := rfl
  have saNe : ∀ j ∈ σ.nodes, L.sa j ≠ sa := fun j hj e => by have := S.succ j hj; rw [e, hm sa _ n3] at this; contradiction
  refine ⟨L', updF_self, rfl, rfl, ?_, ?_, ?_, S.n2iN, fun j hj => ?_, fun j hj => ?_, fun j hj => ?_, fun l hl => ?_, fun j hj j' hj' e => ?_, ?_⟩
  · rw [HM.set_ne (ne (old S.inst) (fun _ => by intro e; contradiction))]; exact old S.inst
  · rw [edict]
    show (HM.set _ _ _) L.dx = _
    rw [HM.set_ne (ne (old S.dict) (fun _ => by intro e; contradiction))]; exact old S.dict
  · show (HM.set _ _ _) L.n2i = _
    rw [mapE]; exact HM.set_self
  · rcases List.mem_append.mp hj with hj | hj
    · show (HM.set _ _ _) (updF L.ia k x j) = some (.inst 94 (updF L.da k dx j) [some (.int j), some (.int (updF σ.np k 0 j)), some (.ref (updF L.sa k sa j))])
      rw [updF_ne (kn j hj), updF_ne (kn j hj), updF_ne (kn j hj), updF_ne (kn j hj), HM.set_ne (ne (old (S.info j hj)) (fun _ => by intro e; contradiction))]
      exact old (S.info j hj)
    · have : j = k := by simpa using hj
      subst this
      show (HM.set _ _ _) (updF L.ia j x j) = some (.inst 94 (updF L.da j dx j) [some (.int j), some (.int (updF σ.np j 0 j)), some (.ref (updF L.sa j sa j))])
      rw [updF_self, updF_self, updF_self, updF_self, HM.set_ne (ne (new n1) (fun _ => by intro e; contradiction))]
      exact new n1
  · rcases List.mem_append.mp hj with hj | hj
    · show (HM.set _ _ _) (updF L.da k dx j) = _
      rw [updF_ne (kn j hj), HM.set_ne (ne (old (S.idx j hj)) (fun _ => by intro e; contradiction))]
      exact old (S.idx j hj)
    · have : j = k := by simpa using hj
      subst this
      show (HM.set _ _ _) (updF L.da j dx j) = _
      rw [updF_self, HM.set_ne (ne (new n2) (fun _ => by intro e; contradiction))]
      exact new n2
  · rcases List.mem_append.mp hj with hj | hj
    · show (HM.set _ _ _) (updF L.sa k sa j) = some (.lst ((updF σ.su k [] j).map .int))
      rw [updF_ne (kn j hj), updF_ne (kn j hj), HM.set_ne (ne (old (S.succ j hj)) (fun _ => by intro e; contradiction))]
      exact old (S.succ j hj)
    · have : j = k := by simpa using hj
      subst this
      show (HM.set _ _ _) (updF L.sa j sa j) = some (.lst ((updF σ.su j [] j).map .int))
      rw [updF_self, updF_self, HM.set_ne (ne (new n3) (fun _ => by intro e; contradiction))]
      exact new n3
  · rw [show σ.ready = some l from hl] at hr; contradiction
  · have e' : updF L.sa k sa j = updF L.sa k sa j' := e
    rcases List.mem_append.mp hj with h1 | h1 <;> rcases List.mem_append.mp hj' with h2 | h2
    · rw [updF_ne (kn j h1), updF_ne (kn j' h2)] at e'
      exact S.inj j h1 j' h2 e'
    · have h3 : j' = k := by simpa using h2
      rw [h3, updF_ne (kn j h1), updF_self] at e'
      exact absurd e' (saNe j h1)
    · have h3 : j = k := by simpa using h1
      rw [h3, updF_ne (kn j' h2), updF_self] at e'
      exact absurd e'.symm (saNe j' h2)
    · have h3 : j = k := by simpa using h1
      have h4 : j' = k := by simpa using h2
      rw [h3, h4]
  · exact List.nodup_append.mpr ⟨S.nodup, by simp, fun a ha b hb => by simp at hb; subst hb; exact kn a ha⟩
noncomputable def SS.told (σ : SS) (k : Int) : SS := if k ∈ σ.nodes then σ else { σ with nodes := σ.nodes ++ [k], np := updF σ.np k 0, su := updF σ.su k [] }
set_option maxHeartbeats 1000000 in
theorem con_get_nodeinfo (w : World) (base : Heap) {root : Addr} {L : Lay} {σ : SS} {m : HM} (S : Sor root L σ m) (hr : σ.ready = none) (hz : σ.nodes.length ≤ 100) (k : Int) :
    Mth (W1 w base) 3 (.ref 134) root m [.int k] (fun mo => ∃ L' m', mo = .o (L'.ia k) m' ∧ Sor root L' (σ.told k) m') := by
  refine Mth.of (fm_get_nodeinfo w base (.int k)) fun obs => ?_
  dsimp only [List.zip, List.zipWith, List.map, List.append_nil, List.cons_append, List.nil_append]
  have lk := S.look k
  have hsz : (108 : Nat) ≤ sizeLine := by rw [sizeLine_eq]; decide
  have n2iR : ∀ {m' : HM}, m' root = some (.inst 191 L.dx []) → m' L.dx = some (.ns (tsNs L σ)) → Rd (W1 w base).K m' root (Str.ofString "_node2info") (.ref L.n2i) := fun h1 h2 => Rd.dict h1 h2 rfl (ai_node2info w.params)
  refine Ex.cons (Ex1.ifWal (d := ((σ.nodes.map fun k => (k, VD.ref (L.ia k))).lookup k).getD .none) locOk (EvD.get (by k_extra "mem") (EvV.attr (by k_extra "mem") (EvV.rooted (by k_extra "mem")) (n2iR S.inst S.dict)) S.n2i S.n2iN (by k_extra "ev")) (fun e => ?_) (fun a e => ?_) (fun i e => ?_))
  · have hk : k ∉ σ.nodes := fun h => by rw [lk, if_pos h] at e; contradiction
    refine ⟨_, by k_extra "upd", Ex.cons (Ex1.setnew (y := Str.ofString "self") (root := root) locOk ?_)⟩
    refine EvM.make (y := Str.ofString "self") (root := root) (m := m) (C := 94) (fI := 90) (ds := [.int k]) (MP := NewNI k) (by k_extra "mem") (by kernel_rfl) (g_NI w base) (mk_ni w.params) (EvAll.cons (by k_extra "ev") EvAll.nil) (by simp) (fun x dx hne => con_ni_init w base k x dx hne) (Nat.le_refl _) fun x m' hm hn => ?_
    obtain ⟨L', q1, q2, q3, S'⟩ := S.add_node hk hr hm hn
    have old : ∀ {a od}, m a = some od → m.join m' a = some od := fun {a od} h => by
      unfold HM.join
      cases q : m' a with
      | none => exact h
      | some od' => rw [hm a od' q] at h; contradiction
    refine ⟨_, by k_extra "upd", L.n2i, σ.nodes.map fun k => (k, VD.ref (L.ia k)), k, m.join m', _, _, by k_extra "mem", EvV.attr (by k_extra "mem") (EvV.rooted (by k_extra "mem")) (n2iR (old S.inst) (old S.dict)), old S.n2i, by k_extra "ev", by rw [lk, if_neg hk], by rw [List.length_map]; (lia -abstractProof), by k_extra "upd", by k_extra "upd", ?_⟩
    refine Ex.nil ?_
    refine Ex.cons (Ex1.retO (EvV.var (by k_extra "mem")) ⟨_, by k_extra "mem", L', _, by rw [q1], ?_⟩)
    unfold SS.told
    rw [if_neg hk]
    exact S'
  · have hk : k ∈ σ.nodes := Classical.byContradiction fun h => by rw [lk, if_neg h] at e; contradiction
    rw [lk, if_pos hk] at e
    cases e
    refine ⟨_, by k_extra "upd", Ex.nil ?_⟩
    refine Ex.cons (Ex1.retO (EvV.var (by k_extra "mem")) ⟨_, by k_extra "mem", L, _, rfl, ?_⟩)
    unfold SS.told
    rw [if_pos hk]
    exact S
  · rw [lk] at e
    split at e <;> contradiction
theorem Con.len_tuple {W : Wrld} {ht : Nat} {xs : List PyData} (hz : xs.length < 2 ^ 62) : Con W ht (.builtin "len") [.tuple xs] (.int xs.length) := by
  intro A s vs P Q E M hP hF r hQ
  obtain ⟨v, vs', rfl, ⟨a, us, n, rfl, p, g, r⟩, rs⟩ := r
  cases rs
  have hz' : us.size = xs.length := by simpa using r.length
  exact PyProof.Rows.len_tuple ⟨_, g, rfl, n, rfl⟩ (by omega) (hQ _ _ (Ext.tok _ _) ⟨_, by rw [hz']⟩)
section
variable {root : Addr} {L : Lay} {σ : SS} {m : HM}
theorem Sor.rd_np (S : Sor root L σ m) (w : World) {k : Int} (hk : k ∈ σ.nodes) : Rd (KK w.params) m (L.ia k) (Str.ofString "npredecessors") (.int (σ.np k)) := Rd.slot (S.info k hk) (S.idx k hk) rfl (sl_npredecessors w.params)
theorem Sor.rd_node (S : Sor root L σ m) (w : World) {k : Int} (hk : k ∈ σ.nodes) : Rd (KK w.params) m (L.ia k) (Str.ofString "node") (.int k) := Rd.slot (S.info k hk) (S.idx k hk) rfl (sl_node w.params)
theorem Sor.rd_su (S : Sor root L σ m) (w : World) {k : Int} (hk : k ∈ σ.nodes) : Rd (KK w.params) m (L.ia k) (Str.ofString "successors") (.ref (L.sa k)) := Rd.slot (S.info k hk) (S.idx k hk) rfl (sl_successors w.params)
theorem Sor.wr_np (S : Sor root L σ m) (w : World) {k : Int} (hk : k ∈ σ.nodes) (n : Int) : Wr (KK w.params) m (L.ia k) (Str.ofString "npredecessors") (.int n) (m.set (L.ia k) (.inst 94 (L.da k) [some (.int k), some (.int n), some (.ref (L.sa k))])) :=
  Wr.slot (S.info k hk) (S.idx k hk) (ss_npredecessors w.params) (sl_npredecessors w.params) (st_npredecessors w.params) (by decide)
theorem Sor.rd_n2i (S : Sor root L σ m) (w : World) : Rd (KK w.params) m root (Str.ofString "_node2info") (.ref L.n2i) := Rd.dict S.inst S.dict rfl (ai_node2info w.params)
theorem Sor.rd_ready (S : Sor root L σ m) (w : World) : Rd (KK w.params) m root (Str.ofString "_ready_nodes") (rdV L σ) := Rd.dict S.inst S.dict rfl (ai_ready_nodes w.params)
theorem Sor.rd_npo (S : Sor root L σ m) (w : World) : Rd (KK w.params) m root (Str.ofString "_npassedout") (.int σ.npo) := Rd.dict S.inst S.dict rfl (ai_npassedout w.params)
theorem Sor.rd_nfi (S : Sor root L σ m) (w : World) : Rd (KK w.params) m root (Str.ofString "_nfinished") (.int σ.nfi) := Rd.dict S.inst S.dict rfl (ai_nfinished w.params)
theorem ts_small {L : Lay} {σ : SS} : (tsNs L σ).length < 900 := by show 4 < 900; decide
theorem Sor.wr_npo (S : Sor root L σ m) (w : World) (n : Int) : Wr (KK w.params) m root (Str.ofString "_npassedout") (.int n) (m.set L.dx (.ns (tsNs L { σ with npo := n }))) := Wr.dict S.inst S.dict (si_npassedout w.params) (hd_ts w.params) ts_small
theorem Sor.wr_nfi (S : Sor root L σ m) (w : World) (n : Int) : Wr (KK w.params) m root (Str.ofString "_nfinished") (.int n) (m.set L.dx (.ns (tsNs L { σ with nfi := n }))) := Wr.dict S.inst S.dict (si_nfinished w.params) (hd_ts w.params) ts_small
end
noncomputable def SS.zero : SS := { nodes := [], np := fun _ => 0, su := fun _ => [], ready := none, npo := 0, nfi := 0 }
noncomputable def SS.told1 (k : Int) (σ : SS) (p : Int) : SS := { σ.told p with su := updF (σ.told p).su p ((σ.told p).su p ++ [k]) }
noncomputable def SS.add (σ : SS) (k : Int) (ps : List Int) : SS := ps.foldl (SS.told1 k) { σ.told k with np := updF (σ.told k).np k ((σ.told k).np k + ps.length) }
section
variable {σ : SS} {k p : Int}
theorem SS.told_mem : k ∈ (σ.told k).nodes := by unfold SS.told; split <;> simp [*]
theorem SS.told_ready : (σ.told k).ready = σ.ready := by unfold SS.told; split <;> rfl
theorem SS.told_len : (σ.told k).nodes.length ≤ σ.nodes.length + 1 := by unfold SS.told; split <;> simp
theorem SS.told_su (j : Int) : ((σ.told k).su j).length ≤ (σ.su j).length := by
  unfold SS.told
  split
  · exact Nat.le_refl _
  · show (updF σ.su k [] j).length ≤ _
    unfold updF; split <;> simp
theorem SS.told1_su (j : Int) : ((σ.told1 k p).su j).length ≤ (σ.su j).length + 1 := by
  show (updF (σ.told p).su p ((σ.told p).su p ++ [k]) j).length ≤ _
  have := SS.told_su (σ := σ) (k := p) j
  unfold updF
  split
  · rename_i e; subst e; simp; omega
  · omega
end
set_option maxHeartbeats 1000000 in
theorem con_ts_init (w : World) (base : Heap) (x dx : Addr) (hne : x ≠ dx) : Mth (W1 w base) 1 (.ref 127) x (mk0 191 x dx) [] (fun mo => ∃ m', mo = .v .none m' ∧ ∃ L, Sor x L SS.zero m') := by
  refine Mth.of (fm_ts_init w base) fun obs => ?_
  dsimp only [List.zip, List.zipWith, List.map, List.append_nil, List.cons_append, List.nil_append]
  have h1 : mk0 191 x dx x = some (.inst 191 dx []) := if_pos rfl
  have h2 : mk0 191 x dx dx = some (.ns []) := by unfold mk0; rw [if_neg (Ne.symm hne), if_pos rfl]
  refine Ex.cons (Ex1.attr_newdict (by k_extra "mem") fun a ha hs => ?_)
  have hax : a ≠ x := by rintro rfl; rw [h1] at ha; contradiction
  have had : a ≠ dx := by rintro rfl; rw [h2] at ha; contradiction
  refine ⟨x, _, _, _, by k_extra "upd", EvV.rooted (by k_extra "mem"), Wr.dict (by rw [HM.set_ne (Ne.symm hax)]; exact h1) (by rw [HM.set_ne (Ne.symm had)]; exact h2) (si_node2info w.params) (hd_ts w.params) (Nat.lt_of_lt_of_le (m := 10) (Nat.le_of_ble_eq_true (by kernel_rfl)) (by decide)), by k_extra "upd", ?_⟩
  generalize hm1 : ((mk0 191 x dx).set a (.dct [])).set dx (.ns (putL [] (Str.ofString "_node2info") (.ref a))) = m1
  have f1 : m1 x = some (.inst 191 dx []) := by rw [← hm1, HM.set_ne hne, HM.set_ne (Ne.symm hax)]; exact h1
  have f2 : m1 dx = some (.ns [(Str.ofString "_node2info", .ref a)]) := by rw [← hm1]; exact HM.set_self
  have f3 : m1 a = some (.dct []) := by rw [← hm1, HM.set_ne had]; exact HM.set_self
  refine Ex.cons (Ex1.attr_set (d := .none) (by k_extra "mem") (EvD.none (by k_extra "ev")) (EvV.rooted (by k_extra "mem")) (Wr.dict f1 f2 (si_ready_nodes w.params) (hd_ts w.params) (Nat.lt_of_lt_of_le (m := 10) (Nat.le_of_ble_eq_true (by kernel_rfl)) (by decide))) (by k_extra "upd") ?_)
  refine Ex.cons (Ex1.attr_set (d := .int 0) (by k_extra "mem") (EvD.int (by k_extra "ev")) (EvV.rooted (by k_extra "mem")) (Wr.dict (by rw [HM.set_ne hne]; exact f1) HM.set_self (si_npassedout w.params) (hd_ts w.params) (Nat.lt_of_lt_of_le (m := 10) (Nat.le_of_ble_eq_true (by kernel_rfl)) (by decide))) (by k_extra "upd") ?_)
  refine Ex.cons (Ex1.attr_set (d := .int 0) (by k_extra "mem") (EvD.int (by k_extra "ev")) (EvV.rooted (by k_extra "mem")) (Wr.dict (by rw [HM.set_ne hne, HM.set_ne hne]; exact f1) HM.set_self (si_nfinished w.params) (hd_ts w.params) (Nat.lt_of_lt_of_le (m := 10) (Nat.le_of_ble_eq_true (by kernel_rfl)) (by decide))) (by k_extra "upd") ?_)
  refine Ex.cons (Ex1.ifs (b := false) (EvT.isnot_none (d := .none) (EvD.none (by k_extra "ev"))) (fun e => nomatch e) fun _ => ?_)
  refine Ex.nil (Ex.endM (by k_extra "mem") ⟨_, rfl, ⟨dx, a, 0, fun _ => 0, fun _ => 0, fun _ => 0⟩, ?_, ?_, ?_, hs, fun k hk => (nomatch hk), fun k hk => (nomatch hk), fun k hk => (nomatch hk), fun l hl => (nomatch hl), fun k hk => (nomatch hk), List.nodup_nil⟩)
  · rw [HM.set_ne hne, HM.set_ne hne, HM.set_ne hne]; exact f1
  · refine HM.set_self.trans ?_
    kernel_rfl
  · show (HM.set _ _ _) a = _
    rw [HM.set_ne had, HM.set_ne had, HM.set_ne had]; exact f3
set_option maxHeartbeats 1000000 in
theorem con_add (w : World) (base : Heap) {root : Addr} {L : Lay} {σ : SS} {m : HM} (S : Sor root L σ m) (hr : σ.ready = none) (k : Int) (ps : List Int) (h6 : ps.length ≤ 6) (hz : σ.nodes.length ≤ 80) (hu : ∀ j, (σ.su j).length ≤ 800) :
    Mth (W1 w base) 4 (.ref 141) root m (.int k :: ps.map .int) (fun mo => ∃ L' m', mo = .v .none m' ∧ Sor root L' (σ.add k ps) m') := by
  refine Mth.of (fm_add w base (.int k) (ps.map .int) (by simpa using h6)) fun obs => ?_
  dsimp only [List.zip, List.zipWith, List.map, List.append_nil, List.cons_append, List.nil_append]
  have hsz : (1000 : Nat) ≤ sizeLine := by rw [sizeLine_eq]; decide
  refine Ex.cons (Ex1.ifs (b := false) (EvT.of_eq (EvT.isnot_none (d := rdV L σ) (EvD.attr (by k_extra "mem") (EvV.rooted (by k_extra "mem")) (S.rd_ready w))) (by unfold rdV VD.isN; rw [hr]; rfl)) (fun e => nomatch e) fun _ => Ex.nil ?_)
  refine Ex.cons (Ex1.assignM locOk (EvM.meth (y := Str.ofString "self") (by k_extra "mem") S.inst S.dict rfl (mi_get_nodeinfo w.params) (EvAll.cons (d := .int k) (by k_extra "ev") EvAll.nil) (con_get_nodeinfo w base S hr (by lia) k) ?_))
  rintro _ ⟨L1, m1, rfl, S1⟩
  refine ⟨_, by k_extra "upd", _, by k_extra "upd", ?_⟩
  have hk := SS.told_mem (σ := σ) (k := k)
  refine Ex.cons (Ex1.attr_add (i := (σ.told k).np k) (j := (ps.length : Int)) (by k_extra "mem") (EvV.var (by k_extra "mem")) (S1.rd_np w hk)
    (Ev.of_eq (Ev.callB (by kernel_rfl) (gn_len w base) (by kernel_rfl) (EvAll.cons (Ev.name (d := .tuple (ps.map .int)) (by k_extra "mem")) EvAll.nil) (Con.len_tuple (ht := 0) (by simp; lia))) (by simp))
    (S1.wr_np w hk _) (by k_extra "upd") ?_)
  have S2 := S1.set_np (n := (σ.told k).np k + ps.length) hk
  generalize hm2 : m1.set (L1.ia k) (OD.inst 94 (L1.da k) [some (.int k), some (.int ((σ.told k).np k + ps.length)), some (.ref (L1.sa k))]) = m2 at S2 ⊢
  refine Ex.cons (Ex1.forS (σ := Lay × HM) (It.tuple (ds := ps.map .int) (Ev.name (by k_extra "mem"))).s
    (fun q => [(Str.ofString "self", .ow (RM root q.2)), (Str.ofString "node", .sh (.int k)), (Str.ofString "predecessors", .sh (.tuple (ps.map .int))), (Str.ofString "nodeinfo", .un), (Str.ofString "pred", .un), (Str.ofString "pred_info", .un)])
    (fun i q => Sor root q.1 ((ps.take i).foldl (SS.told1 k) { σ.told k with np := updF (σ.told k).np k ((σ.told k).np k + ps.length) }) q.2) (L1, m2) S2 (.same (.same (.same (.un (.un (.un .nil)))))) ?_ ?_)
  · rintro i d ⟨L3, m3⟩ hd S3
    rw [List.getElem?_map] at hd
    obtain ⟨p, hp, rfl⟩ := Option.map_eq_some_iff.mp hd
    have hi : i < ps.length := (List.getElem?_eq_some_iff.mp hp).1
    have htake : ps.take (i + 1) = ps.take i ++ [p] := by rw [List.take_add_one, hp]; rfl
    dsimp only at S3 ⊢
    have bnd : ∀ (l : List Int) (τ : SS), τ.ready = none → τ.nodes.length ≤ 81 → (∀ j, (τ.su j).length ≤ 800) → l.length ≤ 6 → (l.foldl (SS.told1 k) τ).ready = none ∧ (l.foldl (SS.told1 k) τ).nodes.length ≤ 81 + l.length ∧ ∀ j, ((l.foldl (SS.told1 k) τ).su j).length ≤ 800 + l.length := by
      intro l
      have gen : ∀ (l : List Int) (τ : SS) (a b : Nat), τ.ready = none → τ.nodes.length ≤ a → (∀ j, (τ.su j).length ≤ b) → (l.foldl (SS.told1 k) τ).ready = none ∧ (l.foldl (SS.told1 k) τ).nodes.length ≤ a + l.length ∧ ∀ j, ((l.foldl (SS.told1 k) τ).su j).length ≤ b + l.length := by
        intro l
        induction l with
        | nil => intro τ a b h1 h2 h3; exact ⟨h1, h2, h3⟩
        | cons q l ih =>
          intro τ a b h1 h2 h3
          obtain ⟨z1, z2, z3⟩ := ih (τ.told1 k q) (a + 1) (b + 1) ((SS.told_ready (σ := τ) (k := q)).trans h1) (Nat.le_trans (SS.told_len (σ := τ) (k := q)) (by lia)) (fun j => Nat.le_trans (SS.told1_su j) (by have := h3 j; lia))
          exact ⟨z1, by simp only [List.foldl_cons, List.length_cons]; lia, fun j => by have := z3 j; simp only [List.foldl_cons, List.length_cons]; lia⟩
      intro τ h1 h2 h3 h4
      exact gen l τ 81 800 h1 h2 h3
    obtain ⟨b1, b2, b3⟩ := bnd (ps.take i) { σ.told k with np := updF (σ.told k).np k ((σ.told k).np k + ps.length) } ((SS.told_ready (σ := σ) (k := k)).trans hr) (Nat.le_trans (SS.told_len (σ := σ) (k := k)) (by lia)) (fun j => Nat.le_trans (SS.told_su j) (hu j)) (by simp; lia)
    have hti : (ps.take i).length ≤ 6 := by simp; lia
    generalize hτ : (ps.take i).foldl (SS.told1 k) { σ.told k with np := updF (σ.told k).np k ((σ.told k).np k + ps.length) } = τ at S3 b1 b2 b3
    refine ⟨_, Asg.name locOk (by k_extra "upd"), ?_⟩
    refine Ex.cons (Ex1.assignM locOk (EvM.meth (y := Str.ofString "self") (by k_extra "mem") S3.inst S3.dict rfl (mi_get_nodeinfo w.params) (EvAll.cons (d := .int p) (by k_extra "ev") EvAll.nil) (con_get_nodeinfo w base S3 b1 (by lia) p) ?_))
    rintro _ ⟨L4, m4, rfl, S4⟩
    refine ⟨_, by k_extra "upd", _, by k_extra "upd", ?_⟩
    have hp4 := SS.told_mem (σ := τ) (k := p)
    have b4 : ((τ.told p).su p).length ≤ 806 := by have := SS.told_su (σ := τ) (k := p) p; have := b3 p; lia
    refine Ex.cons (Ex1.appendO (vs := ((τ.told p).su p).map .int) (d := .int k) (by k_extra "mem") (EvV.attr (by k_extra "mem") (EvV.var (by k_extra "mem")) (S4.rd_su w hp4)) (S4.succ p hp4) (EvD.int (by k_extra "ev")) (by rw [List.length_map]; lia) (by k_extra "upd") ?_)
    refine Ex.nil ⟨(L4, m4.set (L4.sa p) (.lst (((τ.told p).su p).map .int ++ [.int k]))), ?_, .same (.same (.same (.un (.un (.un .nil)))))⟩
    dsimp only
    rw [htake, List.foldl_append, hτ]
    have S5 := S4.set_su (l := (τ.told p).su p ++ [k]) hp4
    rw [List.map_append] at S5
    exact S5
  · rintro ⟨L3, m3⟩ S3
    dsimp only at S3
    rw [List.length_map, List.take_length] at S3
    refine Ex.nil (Ex.endM (by k_extra "mem") ⟨L3, _, rfl, ?_⟩)
    exact S3
theorem meets_bool_new_list (l : Addr) (items : Array Value) (hfit : (items.size : Int) < 2 ^ 63) :
    Meets (Builtin.«bool.__new__» ⟨[.type "bool", .ref l], []⟩) (fun _ R s => s.heap.IsList l items ∧ R (.ok (.ret (.bool (!items.isEmpty)))) { s with toks := s.toks + 1 + 1 }) :=
  Meets.of_wp fun prog w A R s hs => by
    obtain ⟨hp, g, d, tk, os⟩ := s
    obtain ⟨hl, hs⟩ := hs
    have f1 := PySem.F.conv_sub_bool
    repeat (any_goals (first | assumption | (with_reducible refine wpAny_truthy_list hl hfit ?_) | wp_step))
    all_goals first | exact ⟨_, rfl, hs⟩ | exact hs | skip
section
variable {W : Wrld} {ht ht' : Nat} {sc : Scope} {ρ ρ' : Vars} {obs : Obs} {Post : Out → Prop} {A : Around} {env : Env} {base : Heap} {reg : Reg} {s s' : Shared} {x y : Str} {root : Addr} {m m' : HM}
theorem call_bool_list {l : Addr} {items : Array Value} {Q E : Value → Shared → Prop} (hl : s.heap.IsList l items) (hfit : (items.size : Int) < 2 ^ 63) (h : Q (.bool (!items.isEmpty)) { s with toks := s.toks + 1 + 1 }) : wpAny W.M A (call (.type "bool") [.ref l]) Q E s :=
  call_bool_1 (meets_bool_new_list l items hfit) ⟨hl, rfl, h⟩
theorem Here.lstO {a : Addr} {vs : List VD} (H : Here W ht sc ρ obs A env base reg s) (hx : (y, .ow (RM root m)) ∈ ρ) (ha : m a = some (.lst vs)) : ∃ l, s.heap.PlainList a l ∧ All2 VRel vs l.toList ∧ l.size = vs.length := by
  obtain ⟨_, o, g, l, n, rfl, r⟩ := H.own hx ha
  exact ⟨l, ⟨n, g⟩, r, by simpa using r.length⟩
theorem vd_ints {h : Heap} {P : Addr → Prop} : ∀ {ns : List Int} {vs : List Value}, All2 VRel (ns.map .int) vs → RlAll h P (ns.map .int) vs
  | [], _, r => by cases r; rfl
  | n :: ns, _, r => by cases r with | cons a b => exact ⟨_, _, rfl, a, vd_ints b⟩
theorem Ev.tuple_of {e : Expr} {p pos : Pos} {a : Addr} {ns : List Int} (hx : (y, .ow (RM root m)) ∈ ρ) (hn : sc.names.lookup (Str.ofString "tuple") = some .globalImplicit) (hm : W.G (Str.ofString "tuple") = none) (he : EvV W ht sc ρ obs e (.ref a)) (ha : m a = some (.lst (ns.map .int))) (hz : ns.length ≤ sizeLine)
    (hp : Plain e := by intro _ _; rfl) : Ev W ht sc ρ obs (.Call (.Name (Str.ofString "tuple") p) [e] [] pos) (.tuple (ns.map .int)) := by
  intro A env base reg s Q E H hQ
  have e1 : backTo pos (starEach [e] env) = [(false, eval e env)] := by rw [hp env []]; rfl
  refine Call_Name e1 (name_builtin H hn hm (v := .type "tuple") (by kernel_rfl) (PySem.callWith_type rfl (evalArgs_plain (spliced_cons (he H fun s₁ x₁ => spliced_nil ?_)))) (by decide) (by decide))
  have H₁ := H.ext x₁
  obtain ⟨l, pl, r, hl⟩ := H₁.lstO hx ha
  refine call_tuple_list pl.isList (fun h' k => ?_) (by rw [hl, List.length_map]; exact hz)
  have k' : s₁.heap.StaysIn (h'.push { cls := .type "tuple", data := .seq l }) := fun b o e => Heap.get?_push_of_some _ (k b o e)
  have x₂ : Ext (Loose reg) s₁ { s₁ with heap := h'.push { cls := .type "tuple", data := .seq l }, toks := s₁.toks } := Ext.of k'
  refine hQ _ _ (x₁.trans x₂) ⟨_, l, 0, rfl, ?_, Heap.get?_push_size _ rfl, vd_ints r⟩
  refine H₁.sta.high _ ?_
  cases q : s₁.heap.get? h'.objs.size with
  | none => rfl
  | some o => have := k _ _ q; rw [fresh_none] at this; contradiction
theorem Ev.bool_of {e : Expr} {p pos : Pos} {a : Addr} {vs : List VD} (hx : (y, .ow (RM root m)) ∈ ρ) (hn : sc.names.lookup (Str.ofString "bool") = some .globalImplicit) (hm : W.G (Str.ofString "bool") = none) (he : EvV W ht sc ρ obs e (.ref a)) (ha : m a = some (.lst vs)) (hz : vs.length < 2 ^ 62)
    (hp : Plain e := by intro _ _; rfl) : Ev W ht sc ρ obs (.Call (.Name (Str.ofString "bool") p) [e] [] pos) (.bool (!vs.isEmpty)) := by
  intro A env base reg s Q E H hQ
  have e1 : backTo pos (starEach [e] env) = [(false, eval e env)] := by rw [hp env []]; rfl
  refine Call_Name e1 (name_builtin H hn hm (v := .type "bool") (by kernel_rfl) (PySem.callWith_type rfl (evalArgs_plain (spliced_cons (he H fun s₁ x₁ => spliced_nil ?_)))) (by decide) (by decide))
  have H₁ := H.ext x₁
  obtain ⟨l, pl, r, hl⟩ := H₁.lstO hx ha
  refine call_bool_list pl.isList (by (lia -abstractProof)) ?_
  have e2 : (!l.isEmpty) = !vs.isEmpty := by
    cases vs <;> simp_all [Array.isEmpty]
  rw [e2]
  exact hQ _ _ (x₁.trans (Ext.tok _ _)) rfl
end
theorem g_NODE_OUT (w : World) (base : Heap) : ∃ t, (W1 w base).G (Str.ofString "_NODE_OUT") = some (.int (-1) t) := ⟨298, by kernel_rfl⟩
theorem g_NODE_DONE (w : World) (base : Heap) : ∃ t, (W1 w base).G (Str.ofString "_NODE_DONE") = some (.int (-2) t) := ⟨301, by kernel_rfl⟩
noncomputable def SS.out (σ : SS) (l : List Int) : SS := { σ with np := l.foldl (fun f k => updF f k (-1)) σ.np, ready := some [], npo := σ.npo + l.length }
theorem look_ia {L : Lay} {σ : SS} {root : Addr} {m : HM} (S : Sor root L σ m) {k : Int} (hk : k ∈ σ.nodes) : (σ.nodes.map fun k => (k, VD.ref (L.ia k))).lookup k = some (.ref (L.ia k)) := by rw [S.look k, if_pos hk]
theorem con_is_active (w : World) (base : Heap) {root : Addr} {L : Lay} {σ : SS} {m : HM} (S : Sor root L σ m) {l : List Int} (hr : σ.ready = some l) (hz : l.length ≤ 1000) :
    Mth (W1 w base) 1 (.ref 160) root m [] (fun mo => mo = .v (.bool (decide (σ.nfi < σ.npo) || !l.isEmpty)) m) := by
  refine Mth.of (fm_is_active w base) fun obs => ?_
  dsimp only [List.zip, List.zipWith, List.map, List.append_nil, List.cons_append, List.nil_append]
  refine Ex.cons (Ex1.ifs (b := false) (EvT.of_eq (EvT.is_none (d := rdV L σ) (EvD.attr (by k_extra "mem") (EvV.rooted (by k_extra "mem")) (S.rd_ready w))) (by unfold rdV VD.isN; rw [hr])) (fun e => nomatch e) fun _ => Ex.nil ?_)
  have rr : Rd (W1 w base).K m root (Str.ofString "_ready_nodes") (.ref L.rd) := by have := S.rd_ready w; unfold rdV at this; rw [hr] at this; exact this
  refine Ex.cons (Ex1.ret (d := .bool (decide (σ.nfi < σ.npo) || !l.isEmpty)) (Ev.or2 (Ev.lt_int (Ev.attr_int (by k_extra "mem") (EvV.rooted (by k_extra "mem")) (S.rd_nfi w)) (Ev.attr_int (by k_extra "mem") (EvV.rooted (by k_extra "mem")) (S.rd_npo w))) fun _ => Ev.of_eq (Ev.bool_of (by k_extra "mem") (by kernel_rfl) (gn_bool w base) (EvV.attr (by k_extra "mem") (EvV.rooted (by k_extra "mem")) rr) (S.rdy l hr).1 (by rw [List.length_map]; lia)) (by cases l <;> rfl)) ⟨_, by k_extra "mem", rfl⟩)
set_option maxHeartbeats 1000000 in
theorem con_get_ready (w : World) (base : Heap) {root : Addr} {L : Lay} {σ : SS} {m : HM} (S : Sor root L σ m) {l : List Int} (hr : σ.ready = some l) (hz : l.length ≤ 1000) (hl : ∀ k ∈ l, k ∈ σ.nodes) :
    Mth (W1 w base) 1 (.ref 153) root m [] (fun mo => ∃ m', mo = .v (.tuple (l.map .int)) m' ∧ Sor root L (σ.out l) m') := by
  refine Mth.of (fm_get_ready w base) fun obs => ?_
  dsimp only [List.zip, List.zipWith, List.map, List.append_nil, List.cons_append, List.nil_append]
  have hsz : (1000 : Nat) ≤ sizeLine := by rw [sizeLine_eq]; decide
  obtain ⟨tk, hout⟩ := g_NODE_OUT w base
  refine Ex.cons (Ex1.ifs (b := false) (EvT.of_eq (EvT.is_none (d := rdV L σ) (EvD.attr (by k_extra "mem") (EvV.rooted (by k_extra "mem")) (S.rd_ready w))) (by unfold rdV VD.isN; rw [hr])) (fun e => nomatch e) fun _ => Ex.nil ?_)
  have rr : ∀ {σ' : SS} {m' : HM} {l' : List Int}, Sor root L σ' m' → σ'.ready = some l' → Rd (W1 w base).K m' root (Str.ofString "_ready_nodes") (.ref L.rd) := fun S' hr' => by have := S'.rd_ready w; unfold rdV at this; rw [hr'] at this; exact this
  refine Ex.cons (Ex1.assign (d := .tuple (l.map .int)) locOk (Ev.tuple_of (by k_extra "mem") (by kernel_rfl) (gn_tuple w base) (EvV.attr (by k_extra "mem") (EvV.rooted (by k_extra "mem")) (rr S hr)) (S.rdy l hr).1 (by (lia -abstractProof))) (by k_extra "upd") ?_)
  refine Ex.cons (Ex1.assignO locOk (EvV.attr (by k_extra "mem") (EvV.rooted (by k_extra "mem")) (S.rd_n2i w)) (by k_extra "upd") ?_)
  refine Ex.cons (Ex1.forS (σ := HM) (It.tuple (ds := l.map .int) (Ev.name (by k_extra "mem"))).s
    (fun q => [(Str.ofString "self", .ow (RM root q)), (Str.ofString "result", .sh (.tuple (l.map .int))), (Str.ofString "n2i", .ob L.n2i), (Str.ofString "node", .un)])
    (fun i q => Sor root L { σ with np := (l.take i).foldl (fun f k => updF f k (-1)) σ.np } q) m S (.same (.same (.same (.same .nil)))) ?_ ?_)
  · rintro i d m3 hd S3
    rw [List.getElem?_map] at hd
    obtain ⟨p, hp, rfl⟩ := Option.map_eq_some_iff.mp hd
    have htake : l.take (i + 1) = l.take i ++ [p] := by rw [List.take_add_one, hp]; rfl
    have hpn : p ∈ σ.nodes := hl p (List.mem_of_getElem? hp)
    refine ⟨_, Asg.name locOk (by k_extra "upd"), ?_⟩
    refine Ex.cons (Ex1.attr_set (d := .int (-1)) (by k_extra "mem") (EvD.int (Ev.global (by kernel_rfl) hout (fun _ _ => ⟨_, rfl⟩))) (EvV.item (by k_extra "mem") (EvV.var (by k_extra "mem")) S3.n2i (by k_extra "ev") (look_ia S3 hpn)) (S3.wr_np w hpn _) (by k_extra "upd") ?_)
    refine Ex.nil ⟨_, ?_, .same (.same (.same (.un .nil)))⟩
    dsimp only
    rw [htake, List.foldl_append]
    exact S3.set_np hpn
  · rintro m3 S3
    rw [List.length_map, List.take_length] at S3
    refine Ex.nil ?_
    refine Ex.cons (Ex1.clearO (by k_extra "mem") (EvV.attr (by k_extra "mem") (EvV.rooted (by k_extra "mem")) (rr S3 hr)) (S3.rdy l hr).1 (by rw [List.length_map]; (lia -abstractProof)) (by k_extra "upd") ?_)
    have S4 : Sor root L _ (m3.set L.rd (.lst [])) := S3.set_rd (l' := []) hr
    refine Ex.cons (Ex1.attr_add (i := σ.npo) (j := (l.length : Int)) (by k_extra "mem") (EvV.rooted (by k_extra "mem")) (S4.rd_npo w)
      (Ev.of_eq (Ev.callB (by kernel_rfl) (gn_len w base) (by kernel_rfl) (EvAll.cons (Ev.name (d := .tuple (l.map .int)) (by k_extra "mem")) EvAll.nil) (Con.len_tuple (ht := 0) (by simp; (lia -abstractProof)))) (by simp))
      (S4.wr_npo w _) (by k_extra "upd") ?_)
    have S5 := S4.set_ns (npo := σ.npo + l.length) (nfi := σ.nfi)
    refine Ex.cons (Ex1.ret (Ev.name (d := .tuple (l.map .int)) (by k_extra "mem")) ⟨_, by k_extra "mem", _, rfl, ?_⟩)
    exact S5
section
variable {W : Wrld} {ht ht' : Nat} {sc : Scope} {ρ ρ' : Vars} {obs : Obs} {Post : Out → Prop} {A : Around} {env : Env} {base : Heap} {reg : Reg} {s s' : Shared} {x y : Str} {root : Addr} {m m' : HM}
structure SrcO (W : Wrld) (ht : Nat) (sc : Scope) (obs : Obs) (A : Around) (env : Env) (base : Heap) (tg : Expr) (I : Addr) (ds : List PyData) (Inv : Nat → Vars → Prop) (St : Nat → Heap → Prop) : Prop where
  frame : ∀ i h h', St i h → (∀ o, h.get? I = some o → h'.get? I = some o) → St i h'
  there : ∀ i h, St i h → ∃ o, h.get? I = some o
  item : ∀ i ρ' reg' (s : Shared) (Q : Value → Shared → Prop) (E : Value → Shared → Prop), i < ds.length → Inv i ρ' → Here W ht sc ρ' obs A env base reg' s → reg' I = .it → St i s.heap →
    (∀ v d h' tk, ds[i]? = some d → (∀ h P, Rl h P d v) → St (i + 1) h' → (∀ b o, b ≠ I → s.heap.get? b = some o → h'.get? b = some o) → Q v { s with heap := h', toks := tk }) →
    wpAny W.M A (pyNext (.ref I)) (fun r s₁ => match r with | none => False | some v => wpAny W.M A (letOwnedTupleGo tg (.ref I) v) (fun _ s' => Q v s') E s₁) E s
  done : ∀ ρ' reg' (s : Shared) (Q : Option Value → Shared → Prop) (E : Value → Shared → Prop), Inv ds.length ρ' → Here W ht sc ρ' obs A env base reg' s → reg' I = .it → St ds.length s.heap →
    (∀ h' tk, (∀ b o, b ≠ I → s.heap.get? b = some o → h'.get? b = some o) → Q none { s with heap := h', toks := tk }) → wpAny W.M A (pyNext (.ref I)) Q E s
theorem for_coreO {target iter : Expr} {body orelse : List Stmt} {pos : Pos} {ds : List PyData} {Q : Flow → Shared → Prop} {E : Value → Shared → Prop} (H : Here W ht sc ρ obs A env base reg s)
    (hQ : QOk W ht sc obs A env base reg s Post Q) (hE : EOk W ht sc obs A env base reg s Post E) (Inv : Nat → Vars → Prop) (h0 : Inv 0 ρ)
    (hit : ∀ (Q : Value → Shared → Prop) (E : Value → Shared → Prop), (∀ s' I St, Ext (Loose reg) s s' → SrcO W ht sc obs A env base target I ds Inv St → St 0 s'.heap → s.heap.get? I = none → Q (.ref I) s') → wpAny W.M A (eval iter env) (fun xv s₁ => wpAny W.M A (pyIter xv) Q E s₁) E s)
    (turn : ∀ (i : Nat) d ρ', ds[i]? = some d → Inv i ρ' → ∃ ρ'', Asg W ht sc target d ρ' ρ'' ∧ Ex W ht sc ρ'' obs body (Turn (Inv (i + 1)) Post)) (done : ∀ ρ', Inv ds.length ρ' → Ex W ht sc ρ' obs orelse Post)
    (hs : ∀ (env : Env) x, foldedSetIterable iter env x = pure x) : wpAny W.M A (exec (.For target iter body orelse pos) env) Q E s :=
  for_core H hQ hE Inv h0 (fun Q E hq => hit Q E fun s' I St x Wk hst hn => hq s' I [I] [I] St x
    ⟨fun i h h' st k => Wk.frame i h h' st (k I List.mem_cons_self),
     fun i ρ' reg' s Q E hi hinv H' hr st hq => Wk.item i ρ' reg' s Q E hi hinv H' (hr I List.mem_cons_self) st fun v d h' tk hd hrd st' kp => hq v d h' tk hd (fun _ _ _ => hrd _ _) st' fun b o hb => kp b o fun z => hb (List.mem_singleton.mpr z),
     fun ρ' reg' s Q E hinv H' hr st hq => Wk.done ρ' reg' s Q E hinv H' (hr I List.mem_cons_self) st fun h' tk kp => hq h' tk fun b o hb => kp b o fun z => hb (List.mem_singleton.mpr z)⟩
    hst (fun i h st b hb => by rw [List.mem_singleton.mp hb]; exact Wk.there i h st) (fun b hb => by rw [List.mem_singleton.mp hb]; exact hn)
    fun b hb => ⟨.inl hb, by rw [List.mem_singleton.mp hb]; exact Wk.there 0 _ hst⟩) turn done hs
theorem Ex1.forL {τ : Type} {target iter : Expr} {body orelse : List Stmt} {pos : Pos} {a : Addr} {ns : List Int} (hx : (y, .ow (RM root m)) ∈ ρ) (he : EvV W ht sc ρ obs iter (.ref a)) (ha : m a = some (.lst (ns.map .int))) (hc : W.calm = true) (F : τ → Vars) (M : τ → HM) (P : Nat → τ → Prop) (s0 : τ) (h0 : P 0 s0) (f0 : Fgt ρ (F s0))
    (hF : ∀ i t, P i t → (y, .ow (RM root (M t))) ∈ F t ∧ M t a = some (.lst (ns.map .int)))
    (turn : ∀ (i : Nat) n t, ns[i]? = some n → P i t → ∃ ρ'', Asg W ht sc target (.int n) (F t) ρ'' ∧ Ex W ht sc ρ'' obs body (TurnS F (P (i + 1)) Post)) (done : ∀ t, P ns.length t → Ex W ht sc (F t) obs orelse Post)
    (hs : ∀ (env : Env) x, foldedSetIterable iter env x = pure x := by intro _ _; rfl) : Ex1 W ht sc ρ obs (.For target iter body orelse pos) Post := by
  intro A env base reg s Q E H hQ hE
  refine for_coreO (ds := ns.map .int) H hQ hE (fun i ρ' => ∃ t, P i t ∧ Fgt ρ' (F t)) ⟨s0, h0, f0⟩ (fun Q' E' hq => he H fun s₁ x₁ => ?_) ?_ ?_ hs
  · have H₁ := H.ext x₁
    obtain ⟨l, pl, r, hl⟩ := H₁.lstO hx ha
    have hne : a ≠ s₁.heap.objs.size := by obtain ⟨n, g⟩ := pl; exact Nat.ne_of_lt (Heap.lt_size g)
    refine wpAny_pyIter_list pl.isList ?_
    have at_ : ∀ {i : Nat} {ρ' : Vars} {reg' : Reg} {s' : Shared}, (∃ t, P i t ∧ Fgt ρ' (F t)) → Here W ht sc ρ' obs A env base reg' s' → ∃ l, s'.heap.PlainList a l ∧ All2 VRel (ns.map .int) l.toList ∧ l.size = ns.length := fun ⟨t, ht', f⟩ H' => by
      obtain ⟨q1, q2⟩ := hF _ t ht'
      obtain ⟨l, h1, h2, h3⟩ := (H'.fgt f).lstO q1 q2
      exact ⟨l, h1, h2, by simpa using h3⟩
    refine hq _ s₁.heap.objs.size (fun i h => h.IsListIter s₁.heap.objs.size a i) (x₁.trans (Ext.push _ _ s₁.toks)) ⟨fun i h h' st k => st.at fun o e => k o e, fun i h st => ?_, fun i ρ' reg' s' Q E hi hinv H' rI st hk => ?_, fun ρ' reg' s' Q E hinv H' rI st hk => ?_⟩ ⟨_, Heap.get?_push_size _ rfl, rfl, rfl⟩ (x₁.none (fresh_none _))
    · obtain ⟨o, g, _⟩ := st; exact ⟨o, g⟩
    · obtain ⟨l', pl', r', hl'⟩ := at_ hinv H'
      have hi' : i < ns.length := by simpa using hi
      obtain ⟨v, hv, rv⟩ := r'.get (i := i) (a := .int ns[i]) (by simp [hi'])
      refine wpAny_pyNext_list_item st pl'.isList (x := v) (by simpa using hv) fun h' hit' sb => ?_
      obtain ⟨o, g, c, dd⟩ := hit'
      refine let_go (s := { s' with heap := h' }) g c dd (by decide +kernel) ?_
      exact hk v (.int ns[i]) h' s'.toks (by simp [hi']) (fun h P => rv) ⟨o, g, c, dd⟩ fun b o hb e => sb.extBut b o hb e
    · obtain ⟨l', pl', r', hl'⟩ := at_ hinv H'
      refine wpAny_pyNext_list_end (H'.amb.handled hc) st pl'.isList (by simp [hl']) fun h' xb => hk h' s'.toks fun b o hb e => xb b o hb e
  · rintro i d ρ' hd ⟨t, ht', f⟩
    rw [List.getElem?_map] at hd
    obtain ⟨n, hn, rfl⟩ := Option.map_eq_some_iff.mp hd
    obtain ⟨ρ'', q1, q2⟩ := turn i n t hn ht'
    refine ⟨ρ'', q1.fgt f, q2.mono fun o ho => ?_⟩
    cases o <;> exact ho
  · rintro ρ' ⟨t, ht', f⟩
    rw [List.length_map] at ht'
    exact (done t ht').fgt f
end
noncomputable def SS.dec (σ : SS) (j : Int) : SS := { σ with np := updF σ.np j (σ.np j - 1), ready := if σ.np j - 1 = 0 then σ.ready.map (· ++ [j]) else σ.ready }
noncomputable def SS.fin (σ : SS) (k : Int) : SS := { (σ.su k).foldl SS.dec { σ with np := updF σ.np k (-2) } with nfi := σ.nfi + 1 }
theorem dec_fold (l : List Int) : ∀ (σ : SS), (l.foldl SS.dec σ).nodes = σ.nodes ∧ (l.foldl SS.dec σ).su = σ.su ∧ (l.foldl SS.dec σ).npo = σ.npo ∧ (l.foldl SS.dec σ).nfi = σ.nfi ∧ ((l.foldl SS.dec σ).ready.isSome = σ.ready.isSome) ∧ ∀ r, σ.ready = some r → ∃ r', (l.foldl SS.dec σ).ready = some r' ∧ r'.length ≤ r.length + l.length := by
  induction l with
  | nil => intro σ; exact ⟨rfl, rfl, rfl, rfl, rfl, fun r h => ⟨r, h, by simp⟩⟩
  | cons j l ih =>
    intro σ
    obtain ⟨h1, h2, h3, h4, h5, h6⟩ := ih (σ.dec j)
    refine ⟨h1, h2, h3, h4, h5.trans ?_, fun r hr => ?_⟩
    · show (if σ.np j - 1 = 0 then σ.ready.map (· ++ [j]) else σ.ready).isSome = _
      split <;> simp
    · by_cases e : σ.np j - 1 = 0
      · obtain ⟨r', q1, q2⟩ := h6 (r ++ [j]) (by show (if σ.np j - 1 = 0 then σ.ready.map (· ++ [j]) else σ.ready) = _; rw [if_pos e, hr]; rfl)
        exact ⟨r', q1, by simp at q2 ⊢; omega⟩
      · obtain ⟨r', q1, q2⟩ := h6 r (by show (if σ.np j - 1 = 0 then σ.ready.map (· ++ [j]) else σ.ready) = _; rw [if_neg e, hr])
        exact ⟨r', q1, by simp at q2 ⊢; omega⟩
section
variable {W : Wrld} {ht : Nat} {sc : Scope} {ρ : Vars} {obs : Obs}
theorem EvD.of_eq {e : Expr} {d d' : VD} (h : EvD W ht sc ρ obs e d) (q : d = d') : EvD W ht sc ρ obs e d' := q ▸ h
end
set_option maxHeartbeats 2000000 in
theorem con_done (w : World) (base : Heap) {root : Addr} {L : Lay} {σ : SS} {m : HM} (S : Sor root L σ m) {r : List Int} (hr : σ.ready = some r) (l : List Int) (h6 : l.length ≤ 6) (hl : ∀ k ∈ l, k ∈ σ.nodes) (hsu : ∀ k ∈ σ.nodes, ∀ j ∈ σ.su k, j ∈ σ.nodes)
    (hout : ∀ i k, l[i]? = some k → ((l.take i).foldl SS.fin σ).np k = -1) (hz : ∀ k, (σ.su k).length ≤ 100) (hrz : r.length ≤ 100) :
    Mth (W1 w base) 1 (.ref 174) root m (l.map .int) (fun mo => ∃ m', mo = .v .none m' ∧ Sor root L (l.foldl SS.fin σ) m') := by
  refine Mth.of (fm_done w base (l.map .int) (by simpa using h6)) fun obs => ?_
  dsimp only [List.zip, List.zipWith, List.map, List.append_nil, List.cons_append, List.nil_append]
  have hsz : (1000 : Nat) ≤ sizeLine := by rw [sizeLine_eq]; decide
  obtain ⟨tk, gout⟩ := g_NODE_OUT w base
  obtain ⟨tk2, gdone⟩ := g_NODE_DONE w base
  have rr : ∀ {σ' : SS} {m' : HM} {l' : List Int}, Sor root L σ' m' → σ'.ready = some l' → Rd (W1 w base).K m' root (Str.ofString "_ready_nodes") (.ref L.rd) := fun S' hr' => by have := S'.rd_ready w; unfold rdV at this; rw [hr'] at this; exact this
  have inv : ∀ i, ((l.take i).foldl SS.fin σ).nodes = σ.nodes ∧ ((l.take i).foldl SS.fin σ).su = σ.su ∧ ∃ r', ((l.take i).foldl SS.fin σ).ready = some r' ∧ r'.length ≤ 100 + 100 * (l.take i).length := by
    intro i
    have gen : ∀ (q : List Int) (τ : SS) (c : Nat), (∀ k, (τ.su k).length ≤ 100) → (∃ r', τ.ready = some r' ∧ r'.length ≤ c) → (q.foldl SS.fin τ).nodes = τ.nodes ∧ (q.foldl SS.fin τ).su = τ.su ∧ ∃ r', (q.foldl SS.fin τ).ready = some r' ∧ r'.length ≤ c + 100 * q.length := by
      intro q
      induction q with
      | nil => intro τ c _ h; exact ⟨rfl, rfl, h⟩
      | cons k q ih =>
        intro τ c hz' ⟨r', h1, h2⟩
        obtain ⟨d1, d2, d3, d4, d5, d6⟩ := dec_fold (τ.su k) { τ with np := updF τ.np k (-2) }
        obtain ⟨r'', e1, e2⟩ := d6 r' h1
        have hn : (τ.fin k).nodes = τ.nodes := d1
        have hs : (τ.fin k).su = τ.su := d2
        obtain ⟨z1, z2, r3, z3, z4⟩ := ih (τ.fin k) (c + 100) (by rw [hs]; exact hz') ⟨r'', e1, by have := hz' k; (lia -abstractProof)⟩
        exact ⟨z1.trans hn, z2.trans hs, r3, z3, by simp only [List.length_cons]; (lia -abstractProof)⟩
    exact gen (l.take i) σ 100 hz ⟨r, hr, hrz⟩
  refine Ex.cons (Ex1.ifs (b := false) (EvT.of_eq (EvT.is_none (d := rdV L σ) (EvD.attr (by k_extra "mem") (EvV.rooted (by k_extra "mem")) (S.rd_ready w))) (by unfold rdV VD.isN; rw [hr])) (fun e => nomatch e) fun _ => Ex.nil ?_)
  refine Ex.cons (Ex1.assignO locOk (EvV.attr (by k_extra "mem") (EvV.rooted (by k_extra "mem")) (S.rd_n2i w)) (by k_extra "upd") ?_)
  refine Ex.cons (Ex1.forS (σ := HM) (It.tuple (ds := l.map .int) (Ev.name (by k_extra "mem"))).s
    (fun q => [(Str.ofString "self", .ow (RM root q)), (Str.ofString "nodes", .sh (.tuple (l.map .int))), (Str.ofString "n2i", .ob L.n2i), (Str.ofString "node", .un), (Str.ofString "nodeinfo", .un), (Str.ofString "stat", .un), (Str.ofString "successor", .un), (Str.ofString "successor_info", .un)])
    (fun i q => Sor root L ((l.take i).foldl SS.fin σ) q) m S (.same (.same (.same (.same (.same (.same (.same (.same .nil)))))))) ?_ ?_)
  · rintro i d m3 hd S3
    rw [List.getElem?_map] at hd
    obtain ⟨p, hp, rfl⟩ := Option.map_eq_some_iff.mp hd
    have hil : i < l.length := (List.getElem?_eq_some_iff.mp hp).1
    have htake : l.take (i + 1) = l.take i ++ [p] := by rw [List.take_add_one, hp]; rfl
    obtain ⟨i1, i2, r3, i3, i4⟩ := inv i
    have hnp := hout i p hp
    have hlen : (l.take i).length ≤ 6 := by simp; (lia -abstractProof)
    rw [htake, List.foldl_append] at *
    generalize hτ : (l.take i).foldl SS.fin σ = τ at S3 i1 i2 i3 hnp ⊢
    have hpn : p ∈ τ.nodes := by rw [i1]; exact hl p (List.mem_of_getElem? hp)
    refine ⟨_, Asg.name locOk (by k_extra "upd"), ?_⟩
    refine Ex.cons (Ex1.ifWal (d := .ref (L.ia p)) locOk (EvD.of_eq (EvD.get (by k_extra "mem") (EvV.var (by k_extra "mem")) S3.n2i S3.n2iN (by k_extra "ev")) (by rw [look_ia S3 hpn]; rfl)) (fun e => nomatch e) (fun a e => ?_) (fun i e => nomatch e))
    cases e
    refine ⟨_, by k_extra "upd", Ex.nil ?_⟩
    refine Ex.cons (Ex1.assign (d := .int (-1)) locOk (Ev.of_eq (Ev.attr_int (by k_extra "mem") (EvV.var (by k_extra "mem")) (S3.rd_np w hpn)) (by rw [hnp])) (by k_extra "upd") ?_)
    refine Ex.cons (Ex1.ifs (b := false) (EvT.of_eq (EvT.cmp (Ev.ne_int (a := -1) (b := -1) (by k_extra "ev") (Ev.global (by kernel_rfl) gout (fun _ _ => ⟨_, rfl⟩)))) rfl) (fun e => nomatch e) fun _ => Ex.nil ?_)
    refine Ex.cons (Ex1.attr_set (d := .int (-2)) (by k_extra "mem") (EvD.int (Ev.global (by kernel_rfl) gdone (fun _ _ => ⟨_, rfl⟩))) (EvV.var (by k_extra "mem")) (S3.wr_np w hpn _) (by k_extra "upd") ?_)
    have S4 := S3.set_np (n := -2) hpn
    generalize m3.set (L.ia p) (.inst 94 (L.da p) [some (.int p), some (.int (-2)), some (.ref (L.sa p))]) = m4 at S4 ⊢
    have spn : ∀ j ∈ τ.su p, j ∈ τ.nodes := fun j hj => by rw [i1]; rw [i2] at hj; rw [i1] at hpn; exact hsu p hpn j hj
    have spz : (τ.su p).length ≤ 100 := by rw [i2]; exact hz p
    refine Ex.cons (Ex1.forL (τ := HM) (y := Str.ofString "self") (by k_extra "mem") (EvV.attr (by k_extra "mem") (EvV.var (by k_extra "mem")) (S4.rd_su w hpn)) (S4.succ p hpn) rfl
      (fun q => [(Str.ofString "self", .ow (RM root q)), (Str.ofString "nodes", .sh (.tuple (l.map .int))), (Str.ofString "n2i", .ob L.n2i), (Str.ofString "node", .sh (.int p)), (Str.ofString "nodeinfo", .ob (L.ia p)), (Str.ofString "stat", .sh (.int (-1))), (Str.ofString "successor", .un), (Str.ofString "successor_info", .un)]) (fun q => q)
      (fun i q => Sor root L (((τ.su p).take i).foldl SS.dec { τ with np := updF τ.np p (-2) }) q) m4 S4 (.same (.same (.same (.same (.same (.same (.same (.same .nil)))))))) (fun i q hq => ⟨by k_extra "mem", ?_⟩) ?_ ?_)
    · obtain ⟨d1, d2, _⟩ := dec_fold ((τ.su p).take i) { τ with np := updF τ.np p (-2) }
      have := hq.succ p (by rw [d1]; exact hpn)
      rw [d2] at this
      exact this
    · rintro i' n q hn S5
      have hnm : n ∈ τ.su p := List.mem_of_getElem? hn
      have htk : (τ.su p).take (i' + 1) = (τ.su p).take i' ++ [n] := by rw [List.take_add_one, hn]; rfl
      obtain ⟨d1, d2, d3, d4, d5, d6⟩ := dec_fold ((τ.su p).take i') { τ with np := updF τ.np p (-2) }
      obtain ⟨r5, e1, e2⟩ := d6 r3 i3
      have e3 : ((τ.su p).take i').length ≤ 100 := by simp; (lia -abstractProof)
      rw [htk, List.foldl_append]
      generalize hu : ((τ.su p).take i').foldl SS.dec { τ with np := updF τ.np p (-2) } = υ at S5 d1 d2 e1 ⊢
      have hnn : n ∈ υ.nodes := by rw [d1]; exact spn n hnm
      refine ⟨_, Asg.name locOk (by k_extra "upd"), ?_⟩
      refine Ex.cons (Ex1.assignO locOk (EvV.item (by k_extra "mem") (EvV.var (by k_extra "mem")) S5.n2i (by k_extra "ev") (look_ia S5 hnn)) (by k_extra "upd") ?_)
      refine Ex.cons (Ex1.attr_sub (i := υ.np n) (j := 1) (by k_extra "mem") (EvV.var (by k_extra "mem")) (S5.rd_np w hnn) (by k_extra "ev") (S5.wr_np w hnn _) (by k_extra "upd") ?_)
      have S6 := S5.set_np (n := υ.np n - 1) hnn
      generalize q.set (L.ia n) (.inst 94 (L.da n) [some (.int n), some (.int (υ.np n - 1)), some (.ref (L.sa n))]) = q6 at S6 ⊢
      refine Ex.cons (Ex1.ifs (b := (υ.np n - 1 == 0)) (EvT.cmp (Ev.eq_int (Ev.of_eq (Ev.attr_int (by k_extra "mem") (EvV.var (by k_extra "mem")) (S6.rd_np w hnn)) (by simp only [updF_self])) (by k_extra "ev"))) (fun hb => ?_) fun hb => ?_)
      · have hb : υ.np n - 1 = 0 := by simpa using hb
        refine Ex.cons (Ex1.appendO (vs := r5.map .int) (d := .int n) (by k_extra "mem") (EvV.attr (by k_extra "mem") (EvV.rooted (by k_extra "mem")) (rr S6 e1)) (S6.rdy r5 e1).1 (EvD.int (by k_extra "ev")) (by rw [List.length_map]; simp only [List.length_take] at *; (lia -abstractProof)) (by k_extra "upd") (Ex.nil (Ex.nil ⟨_, ?_, .same (.same (.same (.same (.same (.same (.un (.un .nil)))))))⟩)))
        have S7 := S6.set_rd (l' := r5 ++ [n]) e1
        rw [List.map_append] at S7
        have : υ.dec n = { υ with np := updF υ.np n (υ.np n - 1), ready := some (r5 ++ [n]) } := by unfold SS.dec; rw [if_pos hb, e1]; rfl
        show Sor root L (υ.dec n) _
        rw [this]; exact S7
      · have hb : ¬ υ.np n - 1 = 0 := by simpa using hb
        refine Ex.nil (Ex.nil ⟨_, ?_, .same (.same (.same (.same (.same (.same (.un (.un .nil)))))))⟩)
        have : υ.dec n = { υ with np := updF υ.np n (υ.np n - 1) } := by unfold SS.dec; rw [if_neg hb]
        show Sor root L (υ.dec n) _
        rw [this]; exact S6
    · rintro q S5
      rw [List.take_length] at S5
      refine Ex.nil ?_
      obtain ⟨d1, d2, d3, d4, d5, d6⟩ := dec_fold (τ.su p) { τ with np := updF τ.np p (-2) }
      refine Ex.cons (Ex1.attr_add (i := τ.nfi) (j := 1) (by k_extra "mem") (EvV.rooted (by k_extra "mem")) (by have := S5.rd_nfi w; rw [d4] at this; exact this) (by k_extra "ev") (S5.wr_nfi w _) (by k_extra "upd") ?_)
      refine Ex.nil ⟨_, ?_, .same (.same (.same (.un (.un (.un (.un (.un .nil)))))))⟩
      exact S5.set_ns (npo := ((τ.su p).foldl SS.dec { τ with np := updF τ.np p (-2) }).npo) (nfi := τ.nfi + 1)
  · rintro m3 S3
    rw [List.length_map, List.take_length] at S3
    refine Ex.nil (Ex.endM (by k_extra "mem") ⟨_, rfl, S3⟩)
section
variable {W : Wrld} {ht ht' : Nat} {sc : Scope} {ρ ρ' : Vars} {obs : Obs} {Post : Out → Prop} {A : Around} {env : Env} {base : Heap} {reg : Reg} {s s' : Shared} {x y : Str} {root : Addr} {m m' : HM}
theorem Here.madeX {h' : Heap} {tk : Nat} {e : Addr} {cls : Value} {vs : List Value} {ds : List PyData} (H : Here W ht sc ρ obs A env base reg s) (X : Heap.MadeExcOf s.heap h' e cls vs) (r : RlAll s.heap (Sh reg) ds vs) :
    ∃ reg', Here W ht sc ρ obs A env base reg' { s with heap := h', toks := tk } ∧ Step reg s reg' { s with heap := h', toks := tk } ∧ ExAt reg' h' ⟨cls, .tuple ds, true, true⟩ (.ref e) := by
  obtain ⟨t, h1, h2, h3⟩ := X.there
  have x : Ext (Loose reg) s { s with heap := h', toks := tk } := Ext.of X.keeps
  have nt : t ≠ e := fun q => by subst q; rw [h1] at h3; cases h3
  refine ⟨Mine.claim reg (· = e) .ob, H.claim x (fun a q => by rw [q]; exact X.new) (fun a (q : a = e) => by subst q; exact ⟨_, h1⟩), Step.claim x (fun a q => by rw [q]; exact X.new), ?_⟩
  refine ⟨e, _, _, .ref t, rfl, claim_new rfl, h1, rfl, rfl, rfl, fun _ => ⟨t, vs.toArray, 0, rfl, ?_, h3, ?_⟩, fun _ => rfl, by simp, .inl rfl⟩
  · exact (claim_old (T := (· = e)) nt).trans (H.sta.high t h2)
  · exact RlAll.mono (fun b o q g => ⟨X.keeps b o g, (claim_old fun z => by rw [z, X.new] at g; contradiction).trans q⟩) _ _ r
theorem Ev.joined1 {v : Expr} {pos : Pos} {d : PyData} (h : Ev W ht sc ρ obs v d) : Ev W ht sc ρ obs (.JoinedStr [v] pos) d := by
  intro A env base reg s Q E H hQ
  exact wpAny_JoinedStr_one (h H hQ)
end
noncomputable def strKeys (K : Frag) (N : Addr) : Bool := nsOk K N && (nsFind (nsE K N) "__init__").isNone
noncomputable def ExcOk (K : Frag) (C N : Addr) (bm : List Value) (newId : String) : Prop :=
  ∃ nm q bs hdct sn sub ab col dd k0 k1 k2 k3 k5, K.lookup C = some (excClassObj nm q C N bs bm hdct sn sub ab col dd k0 k1 k2 k3 k5 newId) ∧ strKeys K N = true
theorem exc_of {K : Frag} {h : Heap} {C N : Addr} {bm : List Value} {newId : String} (X : K.In h) (e : ExcOk K C N bm newId) :
    ∃ nm q bs hdct sn sub ab col dd k0 k1 k2 k3 k5 mN, h.get? C = some (excClassObj nm q C N bs bm hdct sn sub ab col dd k0 k1 k2 k3 k5 newId) ∧ h.Ns N mN ∧ mN "__init__" = none := by
  obtain ⟨nm, q, bs, hdct, sn, sub, ab, col, dd, k0, k1, k2, k3, k5, h1, e2⟩ := e
  obtain ⟨e2, e3⟩ := Bool.and_eq_true_iff.mp e2
  exact ⟨nm, q, bs, hdct, sn, sub, ab, col, dd, k0, k1, k2, k3, k5, _, X _ _ h1, ns_ok X e2, Option.isNone_iff_eq_none.mp e3⟩
section
variable {W : Wrld} {ht ht' : Nat} {sc : Scope} {ρ ρ' : Vars} {obs : Obs} {Post : Out → Prop} {A : Around} {env : Env} {base : Heap} {reg : Reg} {s s' : Shared} {x y : Str} {root : Addr} {m m' : HM}
theorem Ex1.raiseO {B newId initId : String} {bm : List Value} (FB : ExcBaseFacts B newId initId bm) {C N : Addr} (hK : ExcOk W.K C N bm newId) {c : Str} {np cpos pos : Pos} {e₀ : Expr} {rest : List Expr} {ds : List PyData} (hn : EvV W ht sc ρ obs (.Name c np) (.ref C)) (ha : EvAll W ht sc ρ obs (e₀ :: rest) ds) (hz : ds.length ≤ sizeLine) (hc : W.calm = true)
    (h : Post (.ex ⟨.ref C, .tuple ds, true, true⟩ ρ)) (he : ∀ env : Env, starEach (e₀ :: rest) env = (false, eval e₀ env) :: starEach rest env := by intro _; rfl) (hpl : ∀ env : Env, (backTo cpos (starEach rest env)).any (·.1) = false := by intro _; rfl) :
    Ex1 W ht sc ρ obs (.Raise (some (.Call (.Name c np) (e₀ :: rest) [] cpos)) none pos) Post := by
  intro A env base reg s Q E H hQ hE
  obtain ⟨nm, q, bs, hdct, sn, sub, ab, col, dd, k0, k1, k2, k3, k5, mN, g1, g2, g3⟩ := exc_of H.amb.ok.good.k hK
  refine wpAny_Raise_call_subU (C := C) (N := N) (nm := nm) (q := q) (bs := bs) (bm := bm) (hdct := hdct) (sn := sn) (sub := sub) (ab := ab) (col := col) (dd := dd) (k0 := k0) (k1 := k1) (k2 := k2) (k3 := k3) (k5 := k5) (mN := mN) FB FB.hasB FB FB.hasBase (H.amb.handled hc) ?_ g3 (hn H fun s₁ x₁ => ⟨rfl, ?_⟩)
  · rw [he]; show (false || (backTo cpos (starEach rest env)).any (·.1)) = false; rw [hpl]; rfl
  have H₁ := H.ext x₁
  have e1 : backTo cpos (starEach (e₀ :: rest) env) = (false, eval e₀ env) :: backTo cpos (starEach rest env) := by rw [he]; rfl
  rw [e1]
  refine evalArgs_plain ?_
  rw [← e1]
  refine ha.2 cpos H₁ fun s₂ vs x₂ r => ?_
  have H₂ := H₁.ext x₂
  refine ⟨rfl, by rw [r.length]; exact hz, H₂.ok.stays _ _ g1, g2.keeps H₂.ok.stays, .base, fun h' e X => ?_⟩
  obtain ⟨reg', H', st, ex⟩ := H₂.madeX (tk := s₂.toks) X r
  exact hE _ ρ _ _ reg' h ((Step.ext (x₁.trans x₂)).trans st) H' ex
end
section
variable {prog : Program} {w : World} {A : Around} {E : Value → Shared → Prop} {h : Heap} {g : Array GenState} {d : Drawn} {t : Nat} {os : OsState} {a : Addr} {o : Obj}
end
section
variable {W : Wrld} {ht ht' : Nat} {sc : Scope} {ρ ρ' : Vars} {obs : Obs} {Post : Out → Prop} {A : Around} {env : Env} {base : Heap} {reg : Reg} {s s' : Shared} {x y : Str}
end
noncomputable abbrev veMro : List Value := [.type "ValueError", .type "Exception", .type "BaseException", .type "object"]
theorem exc_CE (P : Params) : ExcOk (KK P) 109 108 veMro "ValueError.__new__" :=
  ⟨Str.ofString "CycleError", Str.ofString "CycleError", [.type "ValueError"], true, [], [], false, none, none, some (.ref 100), none, some (.str (Str.ofString "CycleError") 340), some (.str (Str.ofString "CycleError") 348), some (.bool true), by kernel_rfl, by kernel_rfl⟩
noncomputable def SetR (S : List Int) : OwnRel where
  rel O P h v := ∃ a o f, v = .ref a ∧ O a ∧ h.get? a = some o ∧ o.IntSetOf f S.length ∧ ∀ k, f k = decide (k ∈ S)
  mono := fun kO kP ⟨a, o, f, e, p, g, r⟩ => ⟨a, o, f, e, (kO a o p g).2, (kO a o p g).1, r⟩
section
variable {W : Wrld} {ht ht' : Nat} {sc : Scope} {ρ ρ' : Vars} {obs : Obs} {Post : Out → Prop} {A : Around} {env : Env} {base : Heap} {reg : Reg} {s s' : Shared} {x y : Str} {root : Addr} {m m' : HM}
theorem Ex1.setNew {p p' pos pos' : Pos} (hk : sc.names.lookup y = some .local ∨ sc.names.lookup y = some .cell) (hx : sc.names.lookup (Str.ofString "set") = some .globalImplicit) (hm : W.G (Str.ofString "set") = none) (u : Upd ρ y (.ow (SetR [])) ρ') (h : Post (.nx ρ')) :
    Ex1 W ht sc ρ obs (.Assign [.Name y p] (.Call (.Name (Str.ofString "set") p') [] [] pos') pos) Post := by
  intro A env base reg s Q E H hQ hE
  refine wpAny_Assign_Name (Call_ (name_builtin H hx hm (v := .type "set") (by kernel_rfl) ?_ (by decide) (by decide))) rfl
  refine PySem.callWith_type rfl (evalArgs_nil3 (call_set_0 fun led => ?_))
  have x₁ : Ext (Loose reg) s { s with heap := s.heap.push { cls := .type "set", dict := none, data := .set #[] 0 (.fresh 0 0 led) } } := Ext.push _ _ s.toks
  have H₁ := H.claim (T := (· = s.heap.objs.size)) (w := .va y) x₁ (fun b q => by rw [q]; exact fresh_none _) (fun b (q : b = _) => by rw [q]; exact ⟨_, Heap.get?_push_size _ rfl⟩)
  refine store_var (b := .ow (SetR [])) H₁ hk ⟨_, _, _, rfl, claim_new rfl, Heap.get?_push_size _ rfl, intSetOf_fresh led, by simp⟩ u fun s₂ H₂ st₂ => hQ _ _ _ _ h ((Step.claim x₁ (fun b q => by rw [q]; exact fresh_none _)).trans st₂) H₂
theorem Ev.in_set {l : Expr} {p pos : Pos} {S : List Int} {k : Int} (hx : (y, .ow (SetR S)) ∈ ρ) (hl : Ev W ht sc ρ obs l (.int k)) (hz : S.length < 100) (hm : behindInMarks .In (.Name y p) = false := by with_unfolding_all rfl)
    (hn : (y == ("__classdict__" : Str)) = false := by decide) (hd : (y == ("__debug__" : Str)) = false := by decide) : Ev W ht sc ρ obs (.Compare l [.In] [.Name y p] pos) (.bool (decide (k ∈ S))) := by
  intro A env base reg s Q E H hQ
  refine wpAny_Compare1 (hl H fun s₁ v₁ x₁ r₁ => ?_) hm
  obtain ⟨t, rfl⟩ := r₁
  obtain ⟨v, V, a, o, f, rfl, ra, g, r, hf⟩ := (H.ext x₁).at hx
  refine name_var (H.ext x₁) V ?_ hn hd
  refine wpAny_inSet_of (intKind_is W.prog W.w k t) rfl ((r.kind W.prog W.w).setOf g (Nat.lt_trans hz (by decide))) ?_
  rw [hf]
  exact hQ _ _ (x₁.trans (Ext.tok _ _)) rfl
theorem Ex1.set_add {p apos pos pos' : Pos} {e : Expr} {S : List Int} {k : Int} (hx : (y, .ow (SetR S)) ∈ ρ) (he : Ev W ht sc ρ obs e (.int k)) (hz : S.length < 100) (hnew : k ∉ S) (u' : Upd ρ y (.ow (SetR (S ++ [k]))) ρ') (h : Post (.nx ρ'))
    (hline : (apos.endLine == pos.line) = true := by rfl) (hp : Plain e := by intro _ _; rfl) (hn : (y == ("__classdict__" : Str)) = false := by decide) (hd : (y == ("__debug__" : Str)) = false := by decide) :
    Ex1 W ht sc ρ obs (.Expr (.Call (.Attribute (.Name y p) (Str.ofString "add") apos) [e] [] pos) pos') Post := by
  intro A env base reg s Q E H hQ hE
  have e1 : backTo pos (starEach [e] env) = [(false, eval e env)] := by rw [hp env []]; rfl
  obtain ⟨v, V, a, o, f, rfl, ra, g, r, hf⟩ := H.at hx
  have hi : interactive env = false := by unfold interactive; rw [H.eok.kind]; rfl
  have hc : o.cls = .type "set" ∧ o.dict = none := by obtain ⟨hex, _⟩ := r.kind W.prog W.w; exact ⟨hex.1, hex.2.1⟩
  refine wpAny_Expr_any (wpAny_Call_method1_late rfl hline e1 (name_var H V ?_ hn hd)) hi rfl
  refine ⟨"set", "set.add", PySem.F.plainAttrs_set, PySem.F.slot_set_add, PySem.F.type_set_add, ⟨_, g, hc.1⟩, fun b e => by cases e; exact ⟨_, g, hc.2⟩, ?_⟩
  refine callWith_builtin rfl (evalArgs_plain (spliced_cons (he H fun s₁ v₁ x₁ r₁ => spliced_nil ?_)))
  obtain ⟨t, rfl⟩ := r₁
  have g₁ := x₁.exact (not_loose ra) g
  refine call_set_add (intKind_is W.prog W.w k t) rfl ((r.kind W.prog W.w).setOf g₁ (Nat.lt_trans hz (by decide))) (Nat.lt_of_le_of_lt (Nat.succ_le_of_lt hz) (by decide)) fun h' sb hS => ?_
  have hk : f k = false := by rw [hf]; simp [hnew]
  rw [hk, if_neg Bool.false_ne_true] at hS
  obtain ⟨o', g', r'⟩ := hS.objOf
  obtain ⟨H', st⟩ := (H.ext x₁).mut (tk := s₁.toks + 1) (b' := .ow (SetR (S ++ [k]))) (V.slk x₁.slk) ra sb ⟨_, g'⟩ ⟨a, o', _, rfl, ra, g', by rw [List.length_append]; exact r'.intSetOf, fun j => by simp [hf]⟩ u'
  exact hQ _ _ _ reg h ((Step.ext x₁).trans st) H'
end
theorem take_pop {h : Heap} {P : Addr → Prop} {xs : List PyData} {d : PyData} {vs : Array Value} (r : RlAll h P (xs ++ [d]) vs.toList) : ∃ v, vs[vs.size - 1]? = some v ∧ Rl h P d v ∧ RlAll h P xs (vs.eraseIdxIfInBounds (vs.size - 1)).toList := by
  have hl : vs.size = xs.length + 1 := by simpa using r.length
  obtain ⟨v, hv, rv⟩ := r.get (i := xs.length) (d := d) (by simp)
  refine ⟨v, by rw [hl]; simpa using hv, rv, ?_⟩
  have e : (vs.eraseIdxIfInBounds (vs.size - 1)).toList = vs.toList.take xs.length := by
    rw [Array.toList_eraseIdxIfInBounds, hl, Nat.add_sub_cancel, List.eraseIdx_eq_take_drop_succ]
    rw [List.drop_of_length_le (by simp [hl])]
    simp
  rw [e]
  refine RlAll.of_get (by simp [hl]) fun i d' v' h1 h2 => ?_
  have hi : i < xs.length := (List.getElem?_eq_some_iff.mp h1).1
  obtain ⟨v'', q1, q2⟩ := r.get (i := i) (d := d') (by rw [List.getElem?_append_left hi]; exact h1)
  rw [List.getElem?_take_of_lt hi] at h2
  rw [q1] at h2; cases h2; exact q2
section
variable {W : Wrld} {ht ht' : Nat} {sc : Scope} {ρ ρ' ρ'' : Vars} {obs : Obs} {Post : Out → Prop} {A : Around} {env : Env} {base : Heap} {reg : Reg} {s s' : Shared} {x y : Str} {root : Addr} {m m' : HM}
theorem Here.vk {a : Addr} {h' : Heap} {z : Str} {v : Value} (H : Here W ht sc ρ obs A env base reg s) (ra : reg a = .va x) (sb : Heap.SameBut a s.heap h') (V : VarAt env s.heap z v) : VarAt env h' z v := by
  rcases V with ⟨e, m, n, q⟩ | ⟨e, c, lc, q⟩
  · exact .inl ⟨e, m, n.sameBut sb (by rintro rfl; rw [H.sta.locs] at ra; contradiction), q⟩
  · exact .inr ⟨e, c, lc, q.sameBut sb (by rintro rfl; rw [(H.sta.cels z c lc).1] at ra; contradiction)⟩
theorem pop_any {p apos pos : Pos} {xs : List PyData} {d : PyData} {Q E : Value → Shared → Prop} (H : Here W ht sc ρ obs A env base reg s) (hx : (x, .l1 (xs ++ [d])) ∈ ρ) (hf : flat d = true) (hz : xs.length < 1000) (u : Upd ρ x (.l1 xs) ρ')
    (hQ : ∀ s' v, Here W ht sc ρ' obs A env base reg s' → Step reg s reg s' → (∀ h P, Rl h P d v) → (∀ z v, VarAt env s.heap z v → VarAt env s'.heap z v) → Q v s')
    (hline : (apos.endLine == pos.line) = true := by rfl) (hn : (x == ("__classdict__" : Str)) = false := by decide) (hd : (x == ("__debug__" : Str)) = false := by decide) : wpAny W.M A (eval (.Call (.Attribute (.Name x p) (Str.ofString "pop") apos) [] [] pos) env) Q E s := by
  obtain ⟨v, V, a, vs, rfl, ra, ⟨n, g⟩, r⟩ := H.at hx
  refine wpAny_Call_method0_late rfl hline (name_var H V ?_ hn hd)
  refine ⟨"list", "list.pop", PySem.F.plainAttrs_list, PySem.F.slot_list_pop, PySem.F.type_list_pop, ⟨_, g, rfl⟩, fun b e => by cases e; exact ⟨_, g, rfl⟩, ?_⟩
  obtain ⟨v, hv, rv, rr⟩ := take_pop r
  have hl : vs.size = xs.length + 1 := by simpa using r.length
  refine PySem.P.pop_list g hv ?_ (by rw [hl]; exact Nat.le_trans (show _ ≤ 1000 by lia) (by decide))
  have ho' := IsL.update (h := s.heap) g (fun xs => xs.eraseIdxIfInBounds (vs.size - 1))
  have sb : Heap.SameBut a s.heap (s.heap.update a (Obj.mapSeq fun xs => xs.eraseIdxIfInBounds (vs.size - 1))) := Heap.SameBut.update ..
  have up : ∀ c o, Sh reg c → s.heap.get? c = some o → (s.heap.update a (Obj.mapSeq fun xs => xs.eraseIdxIfInBounds (vs.size - 1))).get? c = some o ∧ Sh reg c := fun c o q g => ⟨sb.extBut c o (by rintro rfl; rw [show reg c = .sh from q] at ra; contradiction) g, q⟩
  obtain ⟨H', st⟩ := H.mut (tk := s.toks) (b' := .l1 xs) V ra sb ⟨_, ho'⟩ ⟨a, _, rfl, ra, ⟨_, ho'⟩, RlAll.mono up _ _ rr⟩ u
  exact hQ _ _ H' st (fun h P => Rl.flat hf rv) fun z v V => H.vk ra sb V
theorem valueAt_app {ks : List Int} {us : List Value} {k : Int} {v : Value} : (valueAt (ks.zip us ++ [(k, v)]) k).isSome = true := by
  unfold valueAt
  rw [Option.isSome_map, List.find?_isSome]
  exact ⟨(k, v), by simp, by simp⟩
theorem Ex1.delpop {z : Str} {p p' apos pos cpos pos' : Pos} {xs : List PyData} {k : Int} {kvs : List (Int × PyData)} {d : PyData} (hz : (z, .d1 (kvs ++ [(k, d)])) ∈ ρ) (hx : (x, .l1 (xs ++ [.int k])) ∈ ρ) (hlx : xs.length < 1000) (hlk : kvs.length < 1000) (u : Upd ρ x (.l1 xs) ρ') (hz' : (z, .d1 (kvs ++ [(k, d)])) ∈ ρ') (u' : Upd ρ' z (.d1 kvs) ρ'') (h : Post (.nx ρ''))
    (hline : (apos.endLine == cpos.line) = true := by rfl) (hn : (x == ("__classdict__" : Str)) = false := by decide) (hd : (x == ("__debug__" : Str)) = false := by decide) (hnz : (z == ("__classdict__" : Str)) = false := by decide) (hdz : (z == ("__debug__" : Str)) = false := by decide) :
    Ex1 W ht sc ρ obs (.Delete [.Subscript (.Name z p) (.Call (.Attribute (.Name x p') (Str.ofString "pop") apos) [] [] cpos) pos] pos') Post := by
  intro A env base reg s Q E H hQ hE
  refine wpAny_Delete (wpAny_deleteEach_cons (wpAny_delete_Subscript ?_))
  obtain ⟨v, V, _⟩ := H.at hz
  refine name_var H V ?_ hnz hdz
  refine pop_any H hx rfl hlx u (fun s₁ kv H₁ st₁ rk vk => ?_) hline hn hd
  obtain ⟨t, rfl⟩ := rk s.heap (fun _ => True)
  obtain ⟨v', V', a, es, n, rfl, ra, ns, g, nd, r⟩ := H₁.at hz'
  cases (vk z v V).unique V'
  obtain ⟨us, hl, D, rv⟩ := dict_of (prog := W.prog) (w := W.w) g nd r
  obtain ⟨us', u₀, rfl⟩ : ∃ us' u₀, us = us' ++ [u₀] := by
    rcases List.eq_nil_or_concat us with e | ⟨a, b, e⟩
    · rw [e] at hl; simp at hl
    · exact ⟨a, b, by simpa using e⟩
  have hl' : us'.length = kvs.length := by simpa using hl
  have ez : ((kvs ++ [(k, d)]).map (·.1)).zip (us' ++ [u₀]) = (kvs.map (·.1)).zip us' ++ [(k, u₀)] := by
    rw [List.map_append, List.zip_append (by simp [hl'])]; rfl
  have hnk : k ∉ kvs.map (·.1) := fun q => by
    rw [List.map_append] at nd
    exact (List.nodup_append.mp nd).2.2 k q k (by simp) rfl
  have ew : without ((kvs.map (·.1)).zip us' ++ [(k, u₀)]) k = (kvs.map (·.1)).zip us' := by
    have e1 : without ((kvs.map (·.1)).zip us' ++ [(k, u₀)]) k = without ((kvs.map (·.1)).zip us') k := by simp [without]
    rw [e1]
    exact without_of_not_mem _ _ (by rw [List.map_fst_zip (by simp [hl'])]; exact hnk)
  rw [ez] at D
  refine wpAny_delItem_slot D.typeIs (by decide) PySem.F.slot_dict_delitem (call_meetsIn PySem.F.slot_dict_delitem D.typeIs PySem.F.entry_dict_delitem (PySem.F.args_dict_delitem_2 _ _) (meets_dict_delitem_pairs (intKind W.prog W.w) a (intKind_is W.prog W.w k t)) ⟨_, D, ?_, valueAt_app, fun h' D' sb => ?_⟩)
  · rw [List.length_append, List.length_zip, List.length_map, hl', Nat.min_self]
    exact Nat.le_trans (show _ ≤ 1000 by simp; (lia -abstractProof)) (by decide)
  rw [ew] at D'
  have up : ∀ c o, Sh reg c → s₁.heap.get? c = some o → h'.get? c = some o ∧ Sh reg c := fun c o q g => ⟨sb.extBut c o (by rintro rfl; rw [show reg c = .sh from q] at ra; contradiction) g, q⟩
  have rv' : RlAll s₁.heap (Sh reg) (kvs.map (·.2)) us' := by
    refine RlAll.of_get (by simp [hl']) fun i d' v' h1 h2 => ?_
    have hi : i < us'.length := (List.getElem?_eq_some_iff.mp h2).1
    obtain ⟨v'', q1, q2⟩ := rv.get (i := i) (d := d') (by rw [List.map_append, List.getElem?_append_left (by simp; (lia -abstractProof))]; exact h1)
    rw [List.getElem?_append_left hi, h2] at q1
    cases q1; exact q2
  obtain ⟨es', n', g', r'⟩ := of_dict (P := Sh reg) (kvs := kvs) (us := us') hl' D' (RlAll.mono up _ _ rv')
  obtain ⟨H', st⟩ := H₁.mut (tk := s₁.toks + 1) (b' := .d1 kvs) V' ra sb ⟨_, g'⟩ ⟨a, es', n', rfl, ra, ns, g', by
    rw [List.map_append] at nd; exact (List.nodup_append.mp nd).1, r'⟩ u'
  exact wpAny_deleteEach_nil (hQ _ _ _ reg h (st₁.trans st) H')
end
theorem ni_type : typeOf (.builtin "list_iterator.__next__") = pure (.type "wrapper_descriptor") := by show builtinType _ = _; rw [builtinType_eq_fast]; kernel_rfl
theorem ni_slot_get : Slot "wrapper_descriptor" "__get__" "wrapper_descriptor.__get__" :=
  .of (owner := "wrapper_descriptor") (n := "__get__") (by rw [typeLookup_type, builtinLookup_eq_fast]; kernel_rfl) (by decide +kernel) (by decide +kernel) (by decide +kernel)
    (by first | exact .inl (by decide +kernel) | exact .inr (by decide +kernel)) (by rw [isSubtype_type]; kernel_rfl)
theorem ni_noset : typeLookup (.type "wrapper_descriptor") "__set__" = pure none := by rw [typeLookup_type, builtinLookup_eq_fast]; kernel_rfl
theorem ni_nodel : typeLookup (.type "wrapper_descriptor") "__delete__" = pure none := by rw [typeLookup_type, builtinLookup_eq_fast]; kernel_rfl
theorem ni_ga : Slot "list_iterator" "__getattribute__" "object.__getattribute__" :=
  .of (owner := "object") (n := "__getattribute__") (by rw [typeLookup_type, builtinLookup_eq_fast]; kernel_rfl) (by decide +kernel) (by decide +kernel) (by decide +kernel)
    (by first | exact .inl (by decide +kernel) | exact .inr (by decide +kernel)) (by rw [isSubtype_type]; kernel_rfl)
theorem ni_entry : entryFor table "wrapper_descriptor.__get__" = some Builtin.«wrapper_descriptor.__get__» := entryFor_of_tree (by kernel_rfl)
theorem ni_args (a b c : Value) : argsOk "wrapper_descriptor.__get__" ⟨[a, b, c], []⟩ := by unfold argsOk; kernel_rfl
theorem ni_sub : isSubtype (.type "list_iterator") (.type (".".intercalate ("list_iterator.__next__".cutAt '.').dropLast)) = pure true := by
  rw [show (".".intercalate ("list_iterator.__next__".cutAt '.').dropLast) = "list_iterator" from by decide +kernel, isSubtype_type]; kernel_rfl
noncomputable def wrapO (it : Addr) : Obj := { cls := .type "method-wrapper", data := .fields #[.builtin "list_iterator.__next__", .ref it] }
section
variable {prog : Program} {w : World} {A : Around} {E : Value → Shared → Prop} {h : Heap} {g : Array GenState} {d : Drawn} {t : Nat} {os : OsState} {a : Addr} {o : Obj}
theorem ni_get {R : Result → Shared → Prop} (hx : h.get? a = some o) (hc : o.cls = .type "list_iterator") (hq : R (.ok (.ret (.ref h.objs.size))) ⟨h.push (wrapO a), g, d, t, os⟩) :
    codeAny (model prog w) A (.call (.builtin "wrapper_descriptor.__get__") ⟨[.builtin "list_iterator.__next__", .ref a, .type "list_iterator"], []⟩) R ⟨h, g, d, t, os⟩ := by
  have hT : (⟨h, g, d, t, os⟩ : Shared).TypeIs (.ref a) "list_iterator" := ⟨_, hx, hc⟩
  have hT5 : (⟨h, g, d, t, os⟩ : Shared).TypeIs (.builtin "list_iterator.__next__") "wrapper_descriptor" := ni_type
  have f8 := ni_sub
  refine codeAny_call_builtin ni_slot_get.plain ni_entry (ni_slot_get.check _ _ _ _ _ _ _ _ hT5 (ni_args _ _ _) ?_)
  repeat (any_goals (first | assumption | wp_step))
theorem ni_obj {tk : Tok} {Q : Fin → Shared → Prop} {vs : Array Value} (hx : h.get? a = some { cls := .type "list_iterator", data := .fields vs }) (hq : Q (.done (.ret (.ref h.objs.size))) ⟨h.push (wrapO a), g, d, t, os⟩) :
    wpAny (model prog w) A (Builtin.«object.__getattribute__» ⟨[.ref a, .str "__next__" tk], []⟩) Q E ⟨h, g, d, t, os⟩ := by
  have hT : (⟨h, g, d, t, os⟩ : Shared).TypeIs (.ref a) "list_iterator" := ⟨_, hx, rfl⟩
  have hT5 : (⟨h, g, d, t, os⟩ : Shared).TypeIs (.builtin "list_iterator.__next__") "wrapper_descriptor" := ni_type
  have f9 := ni_nodel
  have f4 := slot_listiter_next.lookup
  have f5 := ni_type
  have f6 := ni_slot_get.lookup
  have f7 := ni_noset
  repeat (any_goals (first | assumption | wp_step))
  refine ni_get hx rfl ?_
  repeat (any_goals (first | assumption | wp_step))
theorem ni_oga : entryFor table "object.__getattribute__" = some Builtin.«object.__getattribute__» := entryFor_of_tree (by kernel_rfl)
theorem ni_oga_args (a b : Value) : argsOk "object.__getattribute__" ⟨[a, b], []⟩ := by unfold argsOk; kernel_rfl
theorem ni_call {tk : Tok} {R : Result → Shared → Prop} {vs : Array Value} (hx : h.get? a = some { cls := .type "list_iterator", data := .fields vs }) (hq : R (.ok (.ret (.ref h.objs.size))) ⟨h.push (wrapO a), g, d, t, os⟩) :
    codeAny (model prog w) A (.call (.builtin "object.__getattribute__") ⟨[.ref a, .str "__next__" tk], []⟩) R ⟨h, g, d, t, os⟩ :=
  codeAny_call_builtin ni_ga.plain ni_oga (ni_ga.check _ _ _ _ _ _ _ _ (show (⟨h, g, d, t, os⟩ : Shared).TypeIs (.ref a) "list_iterator" from ⟨_, hx, rfl⟩) (ni_oga_args _ _) (ni_obj hx hq))
theorem ni_by {tk : Tok} {fill expr : Bool} {Q : Value → Shared → Prop} {vs : Array Value} (hx : h.get? a = some { cls := .type "list_iterator", data := .fields vs })
    (hq : Q (.ref h.objs.size) ⟨h.push (wrapO a), g, d, t, os⟩) : wpAny (model prog w) A (getAttrBy (.ref a) (.str "__next__" tk) fill expr) Q E ⟨h, g, d, t, os⟩ := by
  have hT : (⟨h, g, d, t, os⟩ : Shared).TypeIs (.ref a) "list_iterator" := ⟨_, hx, rfl⟩
  have f2 := ni_ga.lookup
  have f3 := ni_ga.bind (.ref a)
  have hx0 : (expr && onTheHeap (Value.builtin "object.__getattribute__")) = false := by cases expr <;> rfl
  repeat (any_goals (first | assumption | wp_step))
  refine ni_call hx ?_
  repeat (any_goals (first | assumption | wp_step))
theorem ni_attr {expr : Bool} {Q : Value → Shared → Prop} {vs : Array Value} (hx : h.get? a = some { cls := .type "list_iterator", data := .fields vs })
    (hq : Q (.ref h.objs.size) ⟨h.push (wrapO a), g, d, t + 1, os⟩) : wpAny (model prog w) A (getAttr (.ref a) "__next__" expr) Q E ⟨h, g, d, t, os⟩ := by
  unfold getAttr
  repeat (any_goals (first | assumption | with_reducible apply ni_by hx | wp_step))
end
section
variable {prog : Program} {w : World} {A : Around} {E : Value → Shared → Prop} {s : Shared} {u it l : Addr} {i : Nat} {items : Array Value}
theorem wn_check (v : Value) : checkBoundCall "list_iterator.__next__" ⟨[v], []⟩ = pure () := by first | rfl | kernel_rfl
theorem wn_quiet (v : Value) : (Code.builtin "list_iterator.__next__" ⟨[v], []⟩).quiet = true := Code.quiet_builtin _ (by decide +kernel)
theorem wn_call {Q : Value → Shared → Prop} (hu : s.heap.get? u = some (wrapO it))
    (h : ∀ A' : Around, A'.handled = A.handled → wpAny (model prog w) A' (Builtin.«list_iterator.__next__» ⟨[.ref it], []⟩) (fun f s' => ∃ v, f = .done (.ret v) ∧ Q v s') E s) : wpAny (model prog w) A (call (.ref u) []) Q E s := by
  refine wpAny_call (codeAny_of_tree ?_)
  show wpAny _ A.in1 (callAny (.ref u) ⟨[], []⟩) _ _ s
  simp only [callAny]
  refine wpAny_bind (wpAny_load hu ?_)
  simp only [wrapO, show (Value.type "method-wrapper" == Value.type "method" || Value.type "method-wrapper" == Value.type "builtin_function_or_method" || Value.type "method-wrapper" == Value.type "method-wrapper") = true by decide, if_true]
  refine KFB.if_so (by decide) ?_
  refine wpAny_bind (wpAny_of_eq (a := ()) (wn_check _) ?_)
  refine wpAny_bind (wpAny_pure (wpAny_pure ?_))
  refine ⟨wn_quiet _, codeAny_builtin entry_listiter_next ?_⟩
  refine wpAny_mono (h _ rfl) (fun fin s' h' => ?_) fun _ _ x => x
  obtain ⟨v, rfl, hv⟩ := h'
  exact hv
theorem wn_item {x : Value} {Q : Value → Shared → Prop} (hu : s.heap.get? u = some (wrapO it)) (hit : s.heap.get? it = some { cls := .type "list_iterator", data := .fields #[.ref l, .int i 0] }) (hl : s.heap.IsList l items) (hx : items[i]? = some x)
    (hQ : ∀ h', h'.get? it = some { cls := .type "list_iterator", data := .fields #[.ref l, .int (i + 1 : Nat) 0] } → Heap.SameBut it s.heap h' → Q x { s with heap := h' }) : wpAny (model prog w) A (call (.ref u) []) Q E s := by
  refine wn_call hu fun A' hA => ?_
  obtain ⟨ol, hol, _, nl, hdl⟩ := hl
  show wpAny _ _ (field (.ref it) 0 >>= _) _ _ s
  refine wpAny_bind (wpAny_field hit rfl (x := .ref l) rfl ?_)
  show wpAny _ _ (if (Value.ref l == Value.none) = true then _ else _) _ _ s
  rw [if_neg (show ¬ ((Value.ref l == Value.none) = true) from Bool.false_ne_true)]
  show wpAny _ _ (field (.ref it) 1 >>= _) _ _ s
  refine wpAny_bind (wpAny_field hit rfl (x := .int i 0) rfl ?_)
  show wpAny _ _ (seqItems? (.ref l) >>= _) _ _ s
  refine wpAny_bind (wpAny_seqItems hol hdl ?_)
  simp only [Int.toNat_natCast, hx]
  refine wpAny_bind (wpAny_setField hit rfl (by simp) (wpAny_pure ⟨x, rfl, hQ _ ?_ (Heap.SameBut.update ..)⟩))
  rw [Heap.get?_update_self _ hit rfl]
  simp [Obj.mapFields, rawInt]
theorem wn_end {Q : Value → Shared → Prop} (hh : A.handled = none) (hu : s.heap.get? u = some (wrapO it)) (hit : s.heap.get? it = some { cls := .type "list_iterator", data := .fields #[.ref l, .int i 0] }) (hl : s.heap.IsList l items) (hx : items[i]? = none)
    (hE : ∀ h₁ h' e o', Heap.SameBut it s.heap h₁ → h₁.get? it = some o' → o'.cls = .type "list_iterator" → NewX h₁ h' e (.type "StopIteration") true → E (.ref e) { s with heap := h' }) : wpAny (model prog w) A (call (.ref u) []) Q E s := by
  refine wn_call hu fun A' hA => ?_
  obtain ⟨ol, hol, _, nl, hdl⟩ := hl
  show wpAny _ _ (field (.ref it) 0 >>= _) _ _ s
  refine wpAny_bind (wpAny_field hit rfl (x := .ref l) rfl ?_)
  show wpAny _ _ (if (Value.ref l == Value.none) = true then _ else _) _ _ s
  rw [if_neg (show ¬ ((Value.ref l == Value.none) = true) from Bool.false_ne_true)]
  show wpAny _ _ (field (.ref it) 1 >>= _) _ _ s
  refine wpAny_bind (wpAny_field hit rfl (x := .int i 0) rfl ?_)
  show wpAny _ _ (seqItems? (.ref l) >>= _) _ _ s
  refine wpAny_bind (wpAny_seqItems hol hdl ?_)
  simp only [Int.toNat_natCast, hx]
  refine wpAny_bind (wpAny_rule (wpAny_bind (wpAny_setField hit rfl (by simp) ?_)))
  show wpAny _ _ (newExc (.type "StopIteration") [] >>= _) _ _ _
  refine wpAny_bind ?_
  simp only [newExc, newTuple]
  refine wpAny_bind (wpAny_newObj_type ?_ (by size_fits))
  refine wpAny_bind (m := firstArgMember _ _) (wpAny_of_eq (a := Value.none) (by first | rfl | (simp only [firstArgMember]; rfl)) ?_)
  refine wpAny_newObj_type ?_ (by size_fits)
  simp only [raiseNew]
  refine wpAny_bind (wpAny_handled ?_)
  rw [hA, hh]
  refine wpAny_bind (wpAny_pure (wpAny_throw ?_))
  refine hE _ _ _ _ (Heap.SameBut.update ..) (Heap.get?_update_self _ hit rfl) rfl ⟨fun b o e => Heap.get?_push_of_some _ (Heap.get?_push_of_some _ e), Heap.get?_none_of_le (by simp), _, _, _, Heap.get?_push_size _ rfl, rfl, rfl, rfl, rfl, ?_, fun _ => rfl⟩
  rw [Array.size_append]
  exact Nat.lt_add_right _ (show 2 < 6 by decide)
end
noncomputable def iterO (l : Addr) (i : Nat) : Obj := { cls := .type "list_iterator", data := .fields #[.ref l, .int i 0] }
noncomputable def ItE (O : Addr → Prop) (h : Heap) (p : Addr × Addr) : Option (Addr × Nat) → Prop
  | some q => O p.1 ∧ O p.2 ∧ h.get? p.1 = some (wrapO p.2) ∧ h.get? p.2 = some (iterO q.1 q.2)
  | none => True
theorem All2.mono {α β : Type} {R R' : α → β → Prop} {as : List α} {bs : List β} (h : All2 R as bs) (k : ∀ a b, a ∈ as → b ∈ bs → R a b → R' a b) : All2 R' as bs := by
  induction h with
  | nil => exact .nil
  | cons r q ih => exact .cons (k _ _ (.head _) (.head _) r) (ih fun a b ha hb => k a b (.tail _ ha) (.tail _ hb))
structure ItRel (its : List (Option (Addr × Nat))) (O : Addr → Prop) (h : Heap) (v : Value) (a : Addr) (n : Nat) (bs : List (Addr × Addr)) : Prop where
  val : v = .ref a
  own : O a
  lst : h.get? a = some { cls := .type "list", data := .seq (bs.map fun p => Value.ref p.1).toArray n }
  nodup : (bs.map Prod.snd).Nodup
  iters : ∀ p ∈ bs, ∃ o, h.get? p.2 = some o ∧ o.cls = .type "list_iterator" ∧ O p.2
  each : All2 (ItE O h) bs its
noncomputable def ItR (its : List (Option (Addr × Nat))) : OwnRel where
  rel O _ h v := ∃ a n bs, ItRel its O h v a n bs
  mono := fun kO _ ⟨a, n, bs, ⟨e, p, g, nd, hi, r⟩⟩ => ⟨a, n, bs, ⟨e, (kO _ _ p g).2, (kO _ _ p g).1, nd, fun p hp => let ⟨o, g, c, q⟩ := hi p hp; ⟨o, (kO _ _ q g).1, c, (kO _ _ q g).2⟩, r.mono fun p q _ _ z => by
    cases q with
    | none => trivial
    | some q => obtain ⟨z1, z2, z3, z4⟩ := z; exact ⟨(kO _ _ z1 z3).2, (kO _ _ z2 z4).2, (kO _ _ z1 z3).1, (kO _ _ z2 z4).1⟩⟩⟩
section
variable {W : Wrld} {ht ht' : Nat} {sc : Scope} {ρ ρ' ρ'' : Vars} {obs : Obs} {Post : Out → Prop} {A : Around} {env : Env} {base : Heap} {reg : Reg} {s s' : Shared} {x y : Str} {root : Addr} {m m' : HM}
theorem Ex.view {ss : List Stmt} {b b' : B} (hx : (x, b) ∈ ρ) (hb : b ≠ .un) (k : ∀ reg h v, BRel reg h x b v → BRel reg h x b' v) (u : Upd ρ x b' ρ') (h : Ex W ht sc ρ' obs ss Post) : Ex W ht sc ρ obs ss Post := by
  intro A env base reg s Q E H hQ hE
  refine h ⟨H.sc, H.eok, H.amb, { H.sta with keys := u.keys ▸ H.sta.keys, vars := fun y c e => ?_ }, H.ksh, H.fos, H.hnd⟩ hQ hE
  rcases u.mem H.sta.keys _ _ e with ⟨rfl, rfl⟩ | ⟨_, e⟩
  · obtain ⟨v, V, r⟩ := H.at hx hb
    exact .inr ⟨v, V, k _ _ _ r⟩
  · exact H.sta.vars y c e
theorem Ex.l1_it {ss : List Stmt} (hx : (x, .l1 []) ∈ ρ) (u : Upd ρ x (.ow (ItR [])) ρ') (h : Ex W ht sc ρ' obs ss Post) : Ex W ht sc ρ obs ss Post := by
  refine Ex.view hx (by intro z; contradiction) (fun reg hh v r => ?_) u h
  obtain ⟨a, vs, rfl, ra, ⟨n, g⟩, r⟩ := r
  have : vs = #[] := Array.toList_inj.mp r
  subst this
  exact ⟨a, n, [], ⟨rfl, ra, g, .nil, (fun _ z => by contradiction), .nil⟩⟩
theorem Ex1.it_push {p pi cpos npos apos pos pos' : Pos} {e : Expr} {its : List (Option (Addr × Nat))} {l : Addr} {vs : List VD} (hx : (x, .ow (ItR its)) ∈ ρ) (hy : (y, .ow (RM root m)) ∈ ρ) (hi : sc.names.lookup (Str.ofString "iter") = some .globalImplicit) (hm : W.G (Str.ofString "iter") = none) (he : EvV W ht sc ρ obs e (.ref l)) (hl : m l = some (.lst vs)) (hz : its.length < 1000)
    (u : Upd ρ x (.ow (ItR (its ++ [some (l, 0)]))) ρ') (h : Post (.nx ρ')) (hline : (apos.endLine == pos.line) = true := by rfl) (hp : Plain e := by intro _ _; rfl) (hn : (x == ("__classdict__" : Str)) = false := by decide) (hd : (x == ("__debug__" : Str)) = false := by decide)
    (hnode : AttrNode (.Call (.Name (Str.ofString "iter") pi) [e] [] cpos) (Str.ofString "__next__") npos := by intro _; rfl) :
    Ex1 W ht sc ρ obs (.Expr (.Call (.Attribute (.Name x p) "append" apos) [.Attribute (.Call (.Name (Str.ofString "iter") pi) [e] [] cpos) (Str.ofString "__next__") npos] [] pos) pos') Post := by
  intro A env base reg s Q E H hQ hE
  have hi' : interactive env = false := by unfold interactive; rw [H.eok.kind]; rfl
  obtain ⟨v, V, a, n, bs, R⟩ := H.at hx
  obtain ⟨rfl, ra, g, nd, hit, r⟩ := R
  refine wpAny_Expr_any (wpAny_Call_append rfl rfl hline rfl (name_var H V ⟨a, _, rfl, ⟨_, n, g, rfl, rfl, rfl⟩, ?_⟩ hn hd)) hi' rfl
  have e1 : backTo cpos (starEach [e] env) = [(false, eval e env)] := by rw [hp env []]; rfl
  refine Attribute_any_ (Call_Name e1 (name_builtin H hi hm (v := .builtin "iter") (by kernel_rfl) (callWith_builtin rfl (evalArgs_plain (spliced_cons (he H fun s₁ x₁ => spliced_nil ?_)))) (by decide) (by decide))) (hnode env)
  have H₁ := H.ext x₁
  obtain ⟨ll, pl, _, _⟩ := H₁.lstO hy hl
  refine call_function_entry (by decide +kernel) (by decide +kernel) kdk_entry_iter (kdk_args_iter _) ?_
  unfold Builtin.«iter»
  refine wpAny_bind (m := someArgs "iter" 1 2 _) (wpAny_of_eq (a := [Value.ref l]) (by first | rfl | kernel_rfl!) ?_)
  show wpAny _ _ (pyIter (.ref l) >>= _) _ _ _
  refine wpAny_bind (wpAny_pyIter_list pl.isList ?_)
  refine wpAny_pure ⟨_, rfl, ?_⟩
  refine ni_attr (vs := #[.ref l, .int 0 0]) (Heap.get?_push_size _ rfl) ?_
  generalize hI : s₁.heap.objs.size = I
  have hU : (s₁.heap.push { cls := .type "list_iterator", data := .fields #[.ref l, .int 0 0] }).objs.size = I + 1 := by rw [Heap.size_push, hI]
  rw [hU]
  have nI : s₁.heap.get? I = none := by rw [← hI]; exact fresh_none _
  have nU : s₁.heap.get? (I + 1) = none := none_of_le (by rw [hI]; exact Nat.le_succ _)
  generalize hS : (s₁.heap.push { cls := .type "list_iterator", data := .fields #[.ref l, .int 0 0] }) = h₂
  have gI₂ : h₂.get? I = some (iterO l 0) := by rw [← hS, ← hI]; exact Heap.get?_push_size _ rfl
  have k₂ : s₁.heap.StaysIn h₂ := fun b o e => by rw [← hS]; exact Heap.get?_push_of_some _ e
  have gU : (h₂.push (wrapO I)).get? (I + 1) = some (wrapO I) := by
    have : h₂.objs.size = I + 1 := by rw [← hS]; exact hU
    rw [← this]; exact Heap.get?_push_size _ rfl
  have gI : (h₂.push (wrapO I)).get? I = some (iterO l 0) := Heap.get?_push_of_some _ gI₂
  have k₃ : s₁.heap.StaysIn (h₂.push (wrapO I)) := fun b o e => Heap.get?_push_of_some _ (k₂ b o e)
  generalize h₂.push (wrapO I) = h₃ at gU gI k₃ ⊢
  have x₃ : Ext (Loose reg) s₁ { s₁ with heap := h₃, toks := s₁.toks + 1 } := Ext.of k₃
  have g₁ := x₁.exact (not_loose ra) g
  have g₃ : h₃.get? a = _ := k₃ _ _ g₁
  have hlen : bs.length = its.length := by have := r.length; (lia -abstractProof)
  refine wpAny_list_append_plain (s := { s₁ with heap := h₃, toks := s₁.toks + 1 }) ⟨n, g₃⟩ (fun h' pl' sb => ?_) (by
    rw [List.size_toArray, List.length_map, hlen]; exact Nat.le_trans (Nat.le_of_lt hz) (by decide))
  obtain ⟨n', g'⟩ := pl'
  have T1 : ∀ b, (b = I ∨ b = I + 1) → s₁.heap.get? b = none := fun b q => by rcases q with rfl | rfl; exact nI; exact nU
  have H₃ := H₁.claim (T := fun b => b = I ∨ b = I + 1) (w := .va x) x₃ T1 (fun b q => by rcases q with rfl | rfl; exact ⟨_, gI⟩; exact ⟨_, gU⟩)
  have aI : a ≠ I := fun q => by rw [q, nI] at g₁; contradiction
  have aU : a ≠ I + 1 := fun q => by rw [q, nU] at g₁; contradiction
  have reg3 : ∀ {b w}, reg b = w → (∃ o, s₁.heap.get? b = some o) → Mine.claim reg (fun b => b = I ∨ b = I + 1) (.va x) b = w := fun {b w} q ⟨o, e⟩ => (claim_old fun z => by rw [T1 b z] at e; contradiction).trans q
  have ra₃ := reg3 ra ⟨_, g₁⟩
  have up : ∀ b o, b ≠ a → reg b = .va x → s.heap.get? b = some o → h'.get? b = some o ∧ Mine.claim reg (fun b => b = I ∨ b = I + 1) (.va x) b = .va x := fun b o hb q e =>
    have e₁ := x₁.exact (not_loose q) e
    ⟨sb.extBut b o hb (k₃ b o e₁), reg3 q ⟨o, e₁⟩⟩
  have gI' : h'.get? I = some (iterO l 0) := sb.extBut I _ (Ne.symm aI) gI
  have gU' : h'.get? (I + 1) = some (wrapO I) := sb.extBut (I + 1) _ (Ne.symm aU) gU
  have nota : ∀ {b o}, s.heap.get? b = some o → o.cls ≠ .type "list" → b ≠ a := fun {b o} e c q => by subst q; rw [g] at e; cases e; exact c rfl
  have R' : ItRel (its ++ [some (l, 0)]) (fun b => Mine.claim reg (fun b => b = I ∨ b = I + 1) (.va x) b = .va x) h' (.ref a) a n' (bs ++ [(I + 1, I)]) := by
    refine ⟨rfl, ra₃, by rw [g']; simp, ?_, fun p hp => ?_, ?_⟩
    · rw [List.map_append, List.nodup_append]
      refine ⟨nd, by simp, fun b hb c hc => ?_⟩
      simp at hc; subst hc
      rintro rfl
      obtain ⟨p, hp, rfl⟩ := List.mem_map.mp hb
      obtain ⟨o, e, _, q⟩ := hit p hp
      have := x₁.exact (not_loose q) e
      rw [nI] at this; contradiction
    · rcases List.mem_append.mp hp with hp | hp
      · obtain ⟨o, e, c, q⟩ := hit p hp
        obtain ⟨z1, z2⟩ := up p.2 o (nota e (by rw [c]; decide)) q e
        exact ⟨o, z1, c, z2⟩
      · simp at hp; subst hp
        exact ⟨_, gI', rfl, claim_new (.inl rfl)⟩
    · refine (r.mono fun p q hp _ z => ?_).append (.cons ⟨claim_new (.inr rfl), claim_new (.inl rfl), gU', gI'⟩ .nil)
      cases q with
      | none => trivial
      | some q =>
        obtain ⟨z1, z2, z3, z4⟩ := z
        obtain ⟨y1, y2⟩ := up p.1 _ (nota z3 (show Value.type "method-wrapper" ≠ Value.type "list" by decide)) z1 z3
        obtain ⟨y3, y4⟩ := up p.2 _ (nota z4 (show Value.type "list_iterator" ≠ Value.type "list" by decide)) z2 z4
        exact ⟨y2, y4, y1, y3⟩
  obtain ⟨H', st⟩ := H₃.mut (tk := s₁.toks + 1) (b' := .ow (ItR (its ++ [some (l, 0)]))) ((V.slk x₁.slk).slk x₃.slk) ra₃ sb ⟨_, g'⟩ ⟨a, n', _, R'⟩ u
  exact hQ _ _ _ _ h ((Step.ext x₁).trans ((Step.claim x₃ T1).trans st)) H'
theorem all2_last {α β : Type} {R : α → β → Prop} {as : List α} {bs : List β} {b : β} (h : All2 R as (bs ++ [b])) : ∃ as' a, as = as' ++ [a] ∧ All2 R as' bs ∧ R a b := by
  induction bs generalizing as with
  | nil => cases h with | cons r q => cases q; exact ⟨[], _, rfl, .nil, r⟩
  | cons c bs ih =>
    cases h with
    | cons r q =>
      obtain ⟨as', a, rfl, h1, h2⟩ := ih q
      exact ⟨_ :: as', a, rfl, .cons r h1, h2⟩
theorem Ex1.it_pop {p apos pos pos' : Pos} {its : List (Option (Addr × Nat))} {q : Option (Addr × Nat)} (hx : (x, .ow (ItR (its ++ [q]))) ∈ ρ) (hz : its.length < 1000) (u : Upd ρ x (.ow (ItR its)) ρ') (h : Post (.nx ρ'))
    (hline : (apos.endLine == pos.line) = true := by rfl) (hn : (x == ("__classdict__" : Str)) = false := by decide) (hd : (x == ("__debug__" : Str)) = false := by decide) : Ex1 W ht sc ρ obs (.Expr (.Call (.Attribute (.Name x p) (Str.ofString "pop") apos) [] [] pos) pos') Post := by
  intro A env base reg s Q E H hQ hE
  have hi : interactive env = false := by unfold interactive; rw [H.eok.kind]; rfl
  obtain ⟨v, V, a, n, bs, rfl, ra, g, nd, hit, r⟩ := H.at hx
  obtain ⟨bs', b, rfl, r', _⟩ := all2_last r
  refine wpAny_Expr_any (wpAny_Call_method0_late rfl hline (name_var H V ?_ hn hd)) hi rfl
  refine ⟨"list", "list.pop", PySem.F.plainAttrs_list, PySem.F.slot_list_pop, PySem.F.type_list_pop, ⟨_, g, rfl⟩, fun b e => by cases e; exact ⟨_, g, rfl⟩, ?_⟩
  have hlen : bs'.length = its.length := by have := r'.length; lia
  generalize hvs : ((bs' ++ [b]).map fun p => Value.ref p.1).toArray = vs at g
  have hsz : vs.size = bs'.length + 1 := by rw [← hvs]; simp
  refine PySem.P.pop_list (y := .ref b.1) g (by rw [hsz, ← hvs]; simp) ?_ (by rw [hsz, hlen]; exact Nat.le_trans (show _ ≤ 1000 by lia) (by decide))
  have ho' := IsL.update (h := s.heap) g (fun xs => xs.eraseIdxIfInBounds (vs.size - 1))
  have sb : Heap.SameBut a s.heap (s.heap.update a (Obj.mapSeq fun xs => xs.eraseIdxIfInBounds (vs.size - 1))) := Heap.SameBut.update ..
  have e2 : vs.eraseIdxIfInBounds (vs.size - 1) = (bs'.map fun p => Value.ref p.1).toArray := by
    apply Array.toList_inj.mp
    rw [Array.toList_eraseIdxIfInBounds, hsz, Nat.add_sub_cancel, ← hvs]
    simp [List.eraseIdx_append_of_length_le]
  rw [e2] at ho'
  generalize (if ((bs'.map fun p => Value.ref p.1).toArray.size == vs.size) = true then n else n + 1) = n' at ho'
  have nota : ∀ {b o}, s.heap.get? b = some o → o.cls ≠ .type "list" → b ≠ a := fun {b o} e c q => by subst q; rw [g] at e; cases e; exact c rfl
  have R' : ItRel its (fun b => reg b = .va x) (s.heap.update a (Obj.mapSeq fun xs => xs.eraseIdxIfInBounds (vs.size - 1))) (.ref a) a n' bs' := by
    refine ⟨rfl, ra, ho', ?_, fun p hp => ?_, ?_⟩
    · rw [List.map_append] at nd; exact (List.nodup_append.mp nd).1
    · obtain ⟨o, e, c, q⟩ := hit p (List.mem_append_left _ hp)
      exact ⟨o, sb.extBut _ o (nota e (by rw [c]; decide)) e, c, q⟩
    · refine r'.mono fun p q hp _ z => ?_
      cases q with
      | none => trivial
      | some q =>
        obtain ⟨z1, z2, z3, z4⟩ := z
        exact ⟨z1, z2, sb.extBut _ _ (nota z3 (show Value.type "method-wrapper" ≠ Value.type "list" by decide)) z3, sb.extBut _ _ (nota z4 (show Value.type "list_iterator" ≠ Value.type "list" by decide)) z4⟩
  obtain ⟨H', st⟩ := H.mut (tk := s.toks) (b' := .ow (ItR its)) V ra sb ⟨_, ho'⟩ ⟨a, _, _, R'⟩ u
  exact hQ _ _ _ reg h st H'
noncomputable def NextP (its : List (Option (Addr × Nat))) (l : Addr) (i : Nat) (ns : List Int) (ρ : Vars) (x : Str) (P : Rs → Prop) : Prop :=
  match ns[i]? with
  | some k => ∃ ρ', Upd ρ x (.ow (ItR (its ++ [some (l, i + 1)]))) ρ' ∧ P (.v (.int k) ρ')
  | none => ∃ ρ', Upd ρ x (.ow (ItR (its ++ [none]))) ρ' ∧ P (.x ⟨.type "StopIteration", .none, true, false⟩ ρ')
theorem EvM.it_next {p spos pos : Pos} {ie : Expr} {its : List (Option (Addr × Nat))} {l : Addr} {i : Nat} {ns : List Int} {P : Rs → Prop} (hx : (x, .ow (ItR (its ++ [some (l, i)]))) ∈ ρ) (hy : (y, .ow (RM root m)) ∈ ρ) (hl : m l = some (.lst (ns.map .int))) (hi : Ev W ht sc ρ obs ie (.int (-1))) (hz : its.length < 1000) (hcalm : W.calm = true)
    (h : NextP its l i ns ρ x P) (hs : NoSlice ie := by intro _ _; rfl) (hn : (x == ("__classdict__" : Str)) = false := by decide) (hd : (x == ("__debug__" : Str)) = false := by decide) : EvM W ht sc ρ obs (.Call (.Subscript (.Name x p) ie spos) [] [] pos) P := by
  intro A env base reg s Q E H hQ
  obtain ⟨v, V, a, n, bs, rfl, ra, g, nd, hit, r⟩ := H.at hx
  obtain ⟨bs', ⟨w, I⟩, rfl, r', z1, z2, z3, z4⟩ := all2_last r
  have hlen : bs'.length = its.length := by have := r'.length; (lia -abstractProof)
  refine Call_ (Subscript_ (name_var H V (hi H fun s₁ v₁ x₁ r₁ => ?_) hn hd))
  obtain ⟨t, rfl⟩ := r₁
  have g₁ := x₁.exact (not_loose ra) g
  have hL : s₁.heap.IsList a ((bs' ++ [(w, I)]).map fun p => Value.ref p.1).toArray := ⟨_, g₁, rfl, n, rfl⟩
  have e3 : (-1 + (((bs' ++ [(w, I)]).map fun p => Value.ref p.1).toArray.size : Int)).toNat = bs'.length := by simp; (lia -abstractProof)
  refine tail_any hL.typeIs slot_list_getitem.lookup (wpAny_getItem_list_neg hL (x := .ref w) (by decide) (by simp; (lia -abstractProof)) (by decide) (by rw [e3]; simp) ?_) (hs _ _)
  have w₁ := x₁.exact (not_loose z1) z3
  refine callWith_of (P := fun h => h.get? w = some (wrapO I)) rfl (fun h gw => ⟨.machine, .inr (.inl rfl), ?_⟩) (evalArgs_nil3 ⟨w₁, ?_⟩)
  · refine (Looks.ld gw).andThen ?_
    show Looks _ _ (if (Value.type "method-wrapper" != Value.type "method") = true then _ else _) _
    rw [if_pos (by decide)]
    have e9 : ((wrapO I).cls == Value.type "builtin_function_or_method" || (wrapO I).cls == Value.type "method-wrapper") = true := by
      show (Value.type "method-wrapper" == Value.type "builtin_function_or_method" || Value.type "method-wrapper" == Value.type "method-wrapper") = true
      decide
    rw [e9]
    exact .now
  have H₁ := H.ext x₁
  have I₁ := x₁.exact (not_loose z2) z4
  obtain ⟨ll, pl, rl, hll⟩ := H₁.lstO hy hl
  have st₁ : Step reg s reg s₁ := Step.ext x₁
  have V₁ := V.slk x₁.slk
  have notI : ∀ {b o}, s₁.heap.get? b = some o → o.cls ≠ .type "list_iterator" → b ≠ I := fun {b o} e c q => by subst q; rw [I₁] at e; cases e; exact c rfl
  have key : ∀ (h' : Heap) (o' : Obj) (q : Option (Addr × Nat)), Heap.SameBut I s₁.heap h' → h'.get? I = some o' → o'.cls = .type "list_iterator" → (∀ q', q = some q' → o' = iterO q'.1 q'.2) → ItRel (its ++ [q]) (fun b => reg b = .va x) h' (.ref a) a n (bs' ++ [(w, I)]) := by
    intro h' o' q sb gI hc hq
    have up : ∀ b o, b ≠ I → reg b = .va x → s.heap.get? b = some o → h'.get? b = some o := fun b o hb q e => sb.extBut b o hb (x₁.exact (not_loose q) e)
    refine ⟨rfl, ra, sb.extBut a _ (notI g₁ (show Value.type "list" ≠ Value.type "list_iterator" by decide)) g₁, nd, fun p hp => ?_, ?_⟩
    · by_cases e : p.2 = I
      · rw [e]; exact ⟨o', gI, hc, z2⟩
      · obtain ⟨o, g, c, q⟩ := hit p hp
        exact ⟨o, up _ o e q g, c, q⟩
    · have nd' : I ∉ bs'.map Prod.snd := fun q => by
        rw [List.map_append] at nd
        exact (List.nodup_append.mp nd).2.2 I q I (by simp) rfl
      refine (r'.mono fun p q hp _ z => ?_).append (.cons ?_ .nil)
      · cases q with
        | none => trivial
        | some q =>
          obtain ⟨y1, y2, y3, y4⟩ := z
          exact ⟨y1, y2, up _ _ (notI (x₁.exact (not_loose y1) y3) (show Value.type "method-wrapper" ≠ Value.type "list_iterator" by decide)) y1 y3, up _ _ (fun e => nd' (e ▸ List.mem_map.mpr ⟨p, hp, rfl⟩)) y2 y4⟩
      · cases q with
        | none => trivial
        | some q =>
          exact ⟨z1, z2, up _ _ (notI w₁ (show Value.type "method-wrapper" ≠ Value.type "list_iterator" by decide)) z1 z3, by rw [gI, hq q rfl]⟩
  unfold NextP at h
  split at h
  · rename_i k hk
    obtain ⟨ρ', u, hP⟩ := h
    obtain ⟨v, hv, rv⟩ := rl.get (i := i) (a := .int k) (by rw [List.getElem?_map, hk]; rfl)
    refine wn_item w₁ I₁ pl.isList (by simpa using hv) fun h' gI sb => ?_
    obtain ⟨H', st⟩ := H₁.mut (tk := s₁.toks) (b' := .ow (ItR (its ++ [some (l, i + 1)]))) V₁ z2 sb ⟨_, gI⟩ ⟨a, n, _, key h' _ _ sb gI rfl fun q' e => by cases e; rfl⟩ u
    exact hQ (.v (.int k) ρ') _ reg v hP (st₁.trans st) ⟨rv, H'⟩
  · rename_i hk
    obtain ⟨ρ', u, hP⟩ := h
    refine wn_end (H₁.amb.handled hcalm) w₁ I₁ pl.isList (by
      rw [List.getElem?_eq_none_iff] at hk
      rw [List.length_map] at hll
      exact Array.getElem?_eq_none (by (lia -abstractProof))) fun h₁ h' e o' sb gI hc X => ?_
    obtain ⟨H', st⟩ := H₁.mut (tk := s₁.toks) (b' := .ow (ItR (its ++ [none]))) V₁ z2 sb ⟨_, gI⟩ ⟨a, n, _, key h₁ _ _ sb gI hc fun q' e => by contradiction⟩ u
    obtain ⟨reg', H₂, st₂, ex⟩ := H'.newX (tk := s₁.toks) (d := .none) X
    exact hQ (.x _ ρ') _ reg' _ hP (st₁.trans (st.trans st₂)) ⟨ex, H₂⟩
end
noncomputable def Out.vs : Out → Vars
  | .nx ρ | .br ρ | .ct ρ | .rt _ ρ | .ro _ ρ | .ex _ ρ => ρ
noncomputable def Out.wth : Out → Vars → Out
  | .nx _, ρ => .nx ρ
  | .br _, ρ => .br ρ
  | .ct _, ρ => .ct ρ
  | .rt d _, ρ => .rt d ρ
  | .ro a _, ρ => .ro a ρ
  | .ex x _, ρ => .ex x ρ
noncomputable def Unk (y : Str) (root a : Addr) (od : OD) (m : HM) (Post : Out → Prop) (o : Out) : Prop := ∃ ρ', (y, .ow (RM root m)) ∈ o.vs ∧ Upd o.vs y (.ow (RM root (m.set a od))) ρ' ∧ Post (o.wth ρ')
section
variable {W : Wrld} {ht ht' : Nat} {sc : Scope} {ρ ρ' ρ'' : Vars} {obs : Obs} {Post : Out → Prop} {A : Around} {env : Env} {base : Heap} {reg : Reg} {s s' : Shared} {x y : Str} {root : Addr} {m m' : HM}
theorem Here.view {b b' : B} (H : Here W ht sc ρ obs A env base reg s) (hx : (x, b) ∈ ρ) (hb : b ≠ .un) (k : ∀ v, BRel reg s.heap x b v → BRel reg s.heap x b' v) (u : Upd ρ x b' ρ') : Here W ht sc ρ' obs A env base reg s := by
  refine ⟨H.sc, H.eok, H.amb, { H.sta with keys := u.keys ▸ H.sta.keys, vars := fun y c e => ?_ }, H.ksh, H.fos, H.hnd⟩
  rcases u.mem H.sta.keys _ _ e with ⟨rfl, rfl⟩ | ⟨_, e⟩
  · obtain ⟨v, V, r⟩ := H.at hx hb
    exact .inr ⟨v, V, k _ r⟩
  · exact H.sta.vars y c e
theorem OutAt.shift {o : Out} {f : Flow} (h : OutAt W ht sc obs A env base reg s o f) (k : Here W ht sc o.vs obs A env base reg s → Here W ht sc ρ' obs A env base reg s) : OutAt W ht sc obs A env base reg s (o.wth ρ') f := by
  cases o <;> cases f <;> first | exact h.elim | exact k h | exact ⟨h.1, k h.2⟩
theorem Ex1.know {st : Stmt} {a : Addr} {od : OD} (hx : (y, .ow (RM root m)) ∈ ρ) (ha : m a = some od) (R : Obj → Vars) (hu : ∀ o, Upd ρ y (.ow (RM root (m.set a (.raw o)))) (R o))
    (h : ∀ o, ORel od o → Ex1 W ht sc (R o) obs st (Unk y root a od (m.set a (.raw o)) Post)) : Ex1 W ht sc ρ obs st Post := by
  intro A env base reg s Q E H hQ hE
  obtain ⟨_, o, g, r⟩ := H.own hx ha
  have H₁ : Here W ht sc (R o) obs A env base reg s := H.view (b' := .ow (RM root (m.set a (.raw o)))) hx (by intro z; contradiction) (fun v ⟨e, q⟩ => ⟨e, fun b ob hb => by
    by_cases hba : b = a
    · subst hba
      rw [HM.set_self] at hb; cases hb
      exact ⟨(q b od ha).1, o, g, rfl⟩
    · rw [HM.set_ne hba] at hb
      exact q b ob hb⟩) (hu o)
  have back : ∀ {ρ₁ ρ₂ : Vars} {reg' : Reg} {s' : Shared}, (y, .ow (RM root (m.set a (.raw o)))) ∈ ρ₁ → Upd ρ₁ y (.ow (RM root ((m.set a (.raw o)).set a od))) ρ₂ → Here W ht sc ρ₁ obs A env base reg' s' → Here W ht sc ρ₂ obs A env base reg' s' := fun hm u H' =>
    H'.view (b' := .ow (RM root ((m.set a (.raw o)).set a od))) hm (by intro z; contradiction) (fun v ⟨e, q⟩ => ⟨e, fun b ob hb => by
      by_cases hba : b = a
      · subst hba
        rw [HM.set_self] at hb; cases hb
        obtain ⟨q1, o', q2, q3⟩ := q b (.raw o) HM.set_self
        cases (show o' = o from q3)
        exact ⟨q1, o, q2, r⟩
      · rw [HM.set_ne hba] at hb
        exact q b ob hb⟩) u
  refine h o r H₁ (fun o f s' reg' ⟨ρ', hm, u, hp⟩ st oa => hQ _ f s' reg' hp st (oa.shift (back hm u))) (fun x ρ₁ v s' reg' ⟨ρ', hm, u, hp⟩ st H' X => hE x ρ' v s' reg' hp st (back hm u H') X)
theorem HM.set_back {a : Addr} {od : OD} {o : OD} (h : m a = some od) : (m.set a o).set a od = m := by
  funext b
  by_cases e : b = a
  · subst e; rw [HM.set_self, h]
  · rw [HM.set_ne e, HM.set_ne e]
theorem Ev.in_d1 {l : Expr} {p pos : Pos} {kvs : List (Int × PyData)} {k : Int} (hx : (y, .d1 kvs) ∈ ρ) (hl : Ev W ht sc ρ obs l (.int k)) (hm : behindInMarks .In (.Name y p) = false := by with_unfolding_all rfl)
    (hn : (y == ("__classdict__" : Str)) = false := by decide) (hd : (y == ("__debug__" : Str)) = false := by decide) : Ev W ht sc ρ obs (.Compare l [.In] [.Name y p] pos) (.bool (kvs.lookup k).isSome) := by
  intro A env base reg s Q E H hQ
  refine wpAny_Compare1 (hl H fun s₁ v₁ x₁ r₁ => ?_) hm
  obtain ⟨t, rfl⟩ := r₁
  obtain ⟨v, V, a, es, n, rfl, ra, ns, g, nd, r⟩ := (H.ext x₁).at hx
  refine name_var (H.ext x₁) V ?_ hn hd
  obtain ⟨us, hl, D, rv⟩ := dict_of (prog := W.prog) (w := W.w) g nd r
  refine wpAny_in_of (intKind_is W.prog W.w k t) (by simpa using ns) D.mapOf ?_
  have e : (valueAt ((kvs.map (·.1)).zip us) k).isSome = (kvs.lookup k).isSome := by
    cases q : kvs.lookup k with
    | none => rw [valueAt_none hl q]; rfl
    | some d => obtain ⟨v, hv, _⟩ := valueAt_zip hl rv q; rw [hv]; rfl
  rw [e]
  exact hQ _ _ (x₁.trans (Ext.tok _ _)) rfl
theorem Ex1.forD {τ : Type} {target iter : Expr} {body orelse : List Stmt} {pos : Pos} {a : Addr} {kvs : List (Int × VD)} {od : Obj} (hx : (y, .ow (RM root m)) ∈ ρ) (he : EvV W ht sc ρ obs iter (.ref a)) (ha : m a = some (.raw od)) (hod : ORel (.dct kvs) od) (hna : a ≠ sysModules) (hc : W.calm = true) (F : τ → Vars) (M : τ → HM) (P : Nat → τ → Prop) (s0 : τ) (h0 : P 0 s0) (f0 : Fgt ρ (F s0))
    (hF : ∀ i t, P i t → (y, .ow (RM root (M t))) ∈ F t ∧ M t a = some (.raw od))
    (turn : ∀ (i : Nat) n t, (kvs.map (·.1))[i]? = some n → P i t → ∃ ρ'', Asg W ht sc target (.int n) (F t) ρ'' ∧ Ex W ht sc ρ'' obs body (TurnS F (P (i + 1)) Post)) (done : ∀ t, P kvs.length t → Ex W ht sc (F t) obs orelse Post)
    (hs : ∀ (env : Env) x, foldedSetIterable iter env x = pure x := by intro _ _; rfl) : Ex1 W ht sc ρ obs (.For target iter body orelse pos) Post := by
  intro A env base reg s Q E H hQ hE
  obtain ⟨es, ep, hob, _, _⟩ := id hod
  have at' : ∀ {h : Heap}, h.get? a = some od → ∃ us : List Value, us.length = kvs.length ∧ h.DictAt (intKind W.prog W.w) a ((kvs.map (·.1)).zip us) ep := fun {h} g => by
    obtain ⟨us, ru, D⟩ := dct_of (prog := W.prog) (w := W.w) g hod
    refine ⟨us, by simpa using ru.length, ?_⟩
    obtain ⟨o, es', ep', g', q1, q2, q3⟩ := D
    rw [g] at g'; cases g'
    subst hob
    cases q2
    exact ⟨_, es, g, q1, rfl, q3⟩
  refine for_coreO (ds := (kvs.map (·.1)).map .int) H hQ hE (fun i ρ' => ∃ t, P i t ∧ Fgt ρ' (F t)) ⟨s0, h0, f0⟩ (fun Q' E' hq => he H fun s₁ x₁ => ?_) ?_ ?_ hs
  · have H₁ := H.ext x₁
    obtain ⟨_, o, g, ro⟩ := H₁.own hx ha
    cases (show o = od from ro)
    obtain ⟨us, hl, D⟩ := at' g
    have zl : ∀ {us : List Value}, us.length = kvs.length → ((kvs.map (·.1)).zip us).length = kvs.length := fun h => by simp [h]
    refine wpAny_pyIter_dict (by simpa using hna) D ?_
    rw [zl hl]
    have atL : ∀ {i : Nat} {ρ' : Vars} {reg' : Reg} {s' : Shared}, (∃ t, P i t ∧ Fgt ρ' (F t)) → Here W ht sc ρ' obs A env base reg' s' → ∃ us : List Value, us.length = kvs.length ∧ s'.heap.DictAt (intKind W.prog W.w) a ((kvs.map (·.1)).zip us) ep := fun ⟨t, ht', f⟩ H' => by
      obtain ⟨q1, q2⟩ := hF _ t ht'
      obtain ⟨_, o', g', ro'⟩ := (H'.fgt f).own q1 q2
      cases (show o' = _ from ro')
      exact at' g'
    refine hq _ s₁.heap.objs.size (fun i h => h.IsKeyIter s₁.heap.objs.size a i kvs.length ep) (x₁.trans (Ext.push _ _ s₁.toks)) ⟨fun i h h' st k => st.at fun o e => k o e, fun i h st => ?_, fun i ρ' reg' s' Q E hi hinv H' rI st hk => ?_, fun ρ' reg' s' Q E hinv H' rI st hk => ?_⟩ ⟨_, Heap.get?_push_size _ rfl, rfl, rfl⟩ (x₁.none (fresh_none _))
    · obtain ⟨o, g, _⟩ := st; exact ⟨o, g⟩
    · obtain ⟨us', hl', D'⟩ := atL hinv H'
      have hi' : i < kvs.length := by simpa using hi
      have hu' : i < us'.length := by (lia -abstractProof)
      refine wpAny_pyNext_dict_item (knd := intKind W.prog W.w) (kvs := (kvs.map (·.1)).zip us') (k := kvs[i].1) (v := us'[i]) (by rw [zl hl']; exact st) D' (by simp [List.getElem?_zip_eq_some, hi', hu']) fun key h' hkey hit' sb => ?_
      rw [zl hl'] at hit'
      refine letGo_keyiter (s' := { s' with heap := h' }) hit' ?_
      obtain ⟨t, rfl⟩ := Value.isInt_shape hkey
      exact hk _ (.int kvs[i].1) h' s'.toks (by simp [hi']) (fun h P => ⟨t, rfl⟩) hit' fun b o hb e => sb.extBut b o hb e
    · obtain ⟨us', hl', D'⟩ := atL hinv H'
      simp only [List.length_map] at st
      refine wpAny_pyNext_dict_end (knd := intKind W.prog W.w) (kvs := (kvs.map (·.1)).zip us') (H'.amb.handled hc) (by rw [zl hl']; exact st) D' (List.getElem?_eq_none (by rw [zl hl']; exact Nat.le_refl _)) fun h' xb => hk h' s'.toks fun b o hb e => xb b o hb e
  · rintro i d ρ' hd ⟨t, ht', f⟩
    rw [List.getElem?_map] at hd
    obtain ⟨n, hn, rfl⟩ := Option.map_eq_some_iff.mp hd
    obtain ⟨ρ'', q1, q2⟩ := turn i n t hn ht'
    refine ⟨ρ'', q1.fgt f, q2.mono fun o ho => ?_⟩
    cases o <;> exact ho
  · rintro ρ' ⟨t, ht', f⟩
    rw [List.length_map, List.length_map] at ht'
    exact (done t ht').fgt f
end
inductive Topo (su : Int → List Int) : List Int → Prop
  | nil : Topo su []
  | snoc {fin : List Int} {v : Int} : Topo su fin → (∀ w ∈ su v, w ∈ fin) → v ∉ fin → Topo su (fin ++ [v])
noncomputable def Good (su : Int → List Int) (fin : List Int) : Int → List (Int × Nat) → Prop
  | _, [] => True
  | c, (v, i) :: st => 0 < i ∧ (su v)[i - 1]? = some c ∧ (∀ w ∈ (su v).take (i - 1), w ∈ fin) ∧ Good su fin v st
noncomputable def Closed (su : Int → List Int) (fin : List Int) : List (Int × Nat) → Prop
  | [] => True
  | (v, i) :: st => (∀ w ∈ (su v).take i, w ∈ fin) ∧ Good su fin v st
theorem Good.more {su : Int → List Int} {fin fin' : List Int} (h : ∀ w ∈ fin, w ∈ fin') {c : Int} {st : List (Int × Nat)} (g : Good su fin c st) : Good su fin' c st := by
  induction st generalizing c with
  | nil => trivial
  | cons p st ih =>
    obtain ⟨a, b, c, d⟩ := g
    exact ⟨a, b, fun w hw => h w (c w hw), ih d⟩
structure Dfs (su : Int → List Int) (nodes : List Int) (st : List (Int × Nat)) (S fin : List Int) : Prop where
  topo : Topo su fin
  nd : (st.map (·.1)).Nodup
  apart : ∀ v ∈ st.map (·.1), v ∉ fin
  seen : ∀ k, k ∈ S ↔ k ∈ st.map (·.1) ∨ k ∈ fin
  snd : S.Nodup
  sub : ∀ k ∈ S, k ∈ nodes
section
variable {su : Int → List Int} {nodes : List Int} {st : List (Int × Nat)} {S fin : List Int} {c v : Int} {i : Nat}
theorem Dfs.push (D : Dfs su nodes st S fin) (h : c ∉ S) (hc : c ∈ nodes) : Dfs su nodes ((c, 0) :: st) (S ++ [c]) fin := by
  have hs : c ∉ st.map (·.1) ∧ c ∉ fin := ⟨fun q => h ((D.seen c).mpr (.inl q)), fun q => h ((D.seen c).mpr (.inr q))⟩
  refine ⟨D.topo, ?_, fun v hv => ?_, fun k => ?_, ?_, fun k hk => ?_⟩
  · rw [List.map_cons, List.nodup_cons]; exact ⟨hs.1, D.nd⟩
  · rw [List.map_cons, List.mem_cons] at hv
    rcases hv with rfl | hv
    · exact hs.2
    · exact D.apart v hv
  · rw [List.mem_append, D.seen k, List.map_cons, List.mem_singleton, List.mem_cons]
    constructor
    · rintro ((h | h) | h)
      · exact .inl (.inr h)
      · exact .inr h
      · exact .inl (.inl h)
    · rintro ((h | h) | h)
      · exact .inr h
      · exact .inl (.inl h)
      · exact .inl (.inr h)
  · rw [List.nodup_append]
    refine ⟨D.snd, by simp, fun a ha b hb => ?_⟩
    simp at hb; subst hb
    rintro rfl; exact h ha
  · rcases List.mem_append.mp hk with hk | hk
    · exact D.sub k hk
    · simp at hk; subst hk; exact hc
theorem Closed.push (h : Good su fin c st) : Closed su fin ((c, 0) :: st) := ⟨fun w hw => by simp at hw, h⟩
theorem Dfs.step (D : Dfs su nodes ((v, i) :: st) S fin) : Dfs su nodes ((v, i + 1) :: st) S fin := ⟨D.topo, D.nd, D.apart, D.seen, D.snd, D.sub⟩
theorem Good.of_closed (h : Closed su fin ((v, i) :: st)) (e : (su v)[i]? = some c) : Good su fin c ((v, i + 1) :: st) := ⟨Nat.succ_pos _, e, h.1, h.2⟩
theorem Closed.of_good (h : Good su fin c ((v, i) :: st)) (hc : c ∈ fin) : Closed su fin ((v, i) :: st) := by
  obtain ⟨h1, h2, h3, h4⟩ := h
  refine ⟨fun w hw => ?_, h4⟩
  obtain ⟨j, rfl⟩ : ∃ j, i = j + 1 := ⟨i - 1, by (lia -abstractProof)⟩
  rw [List.take_add_one] at hw
  simp only [Nat.add_sub_cancel] at h2 h3
  rw [h2] at hw
  rcases List.mem_append.mp hw with hw | hw
  · exact h3 w hw
  · simp at hw; subst hw; exact hc
theorem Dfs.pop (D : Dfs su nodes ((v, i) :: st) S fin) (h : Closed su fin ((v, i) :: st)) (e : (su v)[i]? = none) : Dfs su nodes st S (fin ++ [v]) ∧ Closed su (fin ++ [v]) st := by
  have hv : v ∉ fin := D.apart v (by simp)
  have hall : ∀ w ∈ su v, w ∈ fin := fun w hw => h.1 w (by rw [List.take_of_length_le (List.getElem?_eq_none_iff.mp e)]; exact hw)
  have nd := D.nd
  rw [List.map_cons, List.nodup_cons] at nd
  refine ⟨⟨.snoc D.topo hall hv, nd.2, fun w hw q => ?_, fun k => ?_, D.snd, D.sub⟩, ?_⟩
  · rcases List.mem_append.mp q with q | q
    · exact D.apart w (by rw [List.map_cons]; exact List.mem_cons_of_mem _ hw) q
    · simp at q; subst q; exact nd.1 hw
  · rw [D.seen k, List.map_cons, List.mem_cons, List.mem_append, List.mem_singleton]
    constructor
    · rintro ((h | h) | h)
      · exact .inr (.inr h)
      · exact .inl h
      · exact .inr (.inl h)
    · rintro (h | h | h)
      · exact .inl (.inr h)
      · exact .inr h
      · exact .inl (.inl h)
  · have hg : Good su (fin ++ [v]) v st := h.2.more fun w hw => List.mem_append_left _ hw
    cases st with
    | nil => trivial
    | cons p st => exact Closed.of_good (c := v) hg (by simp)
end
structure Ring (su : Int → List Int) (l : List Int) : Prop where
  ends : ∃ c p, l = (c :: p) ++ [c] ∧ (c :: p).Nodup
  step : ∀ j a b, l[j]? = some a → l[j + 1]? = some b → b ∈ su a
noncomputable def stk : List (Int × Nat) → List Int
  | [] => []
  | p :: st => stk st ++ [p.1]
theorem stk_rev : ∀ st : List (Int × Nat), stk st = (st.map (·.1)).reverse
  | [] => rfl
  | p :: st => by simp [stk, stk_rev st]
theorem stk_len (st : List (Int × Nat)) : (stk st).length = st.length := by rw [stk_rev]; simp
theorem pairs_snoc {l : List Int} {v c a b : Int} {j : Nat} (h1 : (l ++ [v] ++ [c])[j]? = some a) (h2 : (l ++ [v] ++ [c])[j + 1]? = some b) : ((l ++ [v])[j]? = some a ∧ (l ++ [v])[j + 1]? = some b) ∨ (a = v ∧ b = c) := by
  have hn : (l ++ [v]).length = l.length + 1 := List.length_append
  by_cases h : j + 1 < (l ++ [v]).length
  · rw [List.getElem?_append_left h] at h2
    rw [List.getElem?_append_left (Nat.lt_of_succ_lt h)] at h1
    exact .inl ⟨h1, h2⟩
  · rw [List.getElem?_append_right (Nat.le_of_not_lt h), hn] at h2
    have h3 : j + 1 - (l.length + 1) < 1 := (List.getElem?_eq_some_iff.mp h2).1
    rw [hn] at h
    obtain rfl : j = l.length := by lia
    rw [Nat.sub_self] at h2
    rw [List.getElem?_append_left (by rw [hn]; exact Nat.lt_succ_self _), List.getElem?_append_right (Nat.le_refl _), Nat.sub_self] at h1
    exact .inr ⟨(Option.some.inj h1).symm, (Option.some.inj h2).symm⟩
theorem Good.path {su : Int → List Int} {fin : List Int} {c : Int} {st : List (Int × Nat)} (g : Good su fin c st) (j a b) (h1 : (stk st ++ [c])[j]? = some a) (h2 : (stk st ++ [c])[j + 1]? = some b) : b ∈ su a := by
  induction st generalizing c with
  | nil => exact absurd (List.getElem?_eq_some_iff.mp h2).1 (Nat.not_lt.mpr (Nat.le_add_left 1 j))
  | cons p st ih =>
    obtain ⟨_, g2, _, g4⟩ := g
    rcases pairs_snoc h1 h2 with q | ⟨rfl, rfl⟩
    · exact ih g4 q.1 q.2
    · exact List.mem_of_getElem? g2
theorem Good.ring {su : Int → List Int} {nodes S fin : List Int} {c : Int} {st : List (Int × Nat)} (D : Dfs su nodes st S fin) (g : Good su fin c st) {k : Nat} (hk : (stk st)[k]? = some c) : Ring su ((stk st).drop k ++ [c]) := by
  have hlt : k < (stk st).length := (List.getElem?_eq_some_iff.mp hk).1
  have hd : (stk st).drop k = c :: (stk st).drop (k + 1) := by
    rw [List.drop_eq_getElem_cons hlt]
    have := (List.getElem?_eq_some_iff.mp hk).2
    rw [this]
  have nd : (stk st).Nodup := by rw [stk_rev]; unfold List.Nodup; rw [List.pairwise_reverse]; exact D.nd.imp fun h => Ne.symm h
  refine ⟨⟨c, (stk st).drop (k + 1), by rw [hd], ?_⟩, fun j a b h1 h2 => ?_⟩
  · rw [← hd]; exact nd.sublist (List.drop_sublist _ _)
  · have e : (stk st).drop k ++ [c] = (stk st ++ [c]).drop k := by rw [List.drop_append_of_le_length (by (lia -abstractProof))]
    rw [e, List.getElem?_drop] at h1 h2
    exact g.path (k + j) a b h1 (by rw [← h2]; congr 1)
noncomputable def rest (su : Int → List Int) (nodes S : List Int) : Nat := (nodes.map fun k => if k ∈ S then 0 else (su k).length + 1).sum
noncomputable def left (su : Int → List Int) (st : List (Int × Nat)) : Nat := (st.map fun p => (su p.1).length - p.2).sum
theorem rest_push {su : Int → List Int} {S : List Int} {c : Int} (h : c ∉ S) : ∀ {nodes : List Int}, nodes.Nodup → c ∈ nodes → rest su nodes (S ++ [c]) + ((su c).length + 1) = rest su nodes S := by
  have same : ∀ nodes : List Int, c ∉ nodes → rest su nodes (S ++ [c]) = rest su nodes S := by
    intro nodes hc
    unfold rest
    congr 1
    refine List.map_congr_left fun k hk => ?_
    have : k ≠ c := fun e => hc (e ▸ hk)
    simp [this]
  intro nodes
  induction nodes with
  | nil => intro _ hc; contradiction
  | cons k nodes ih =>
    intro nd hc
    rw [List.nodup_cons] at nd
    by_cases e : k = c
    · subst e
      have := same nodes nd.1
      unfold rest at this ⊢
      simp only [List.map_cons, List.sum_cons, List.mem_append, List.mem_singleton, or_true, if_true, if_neg h] at this ⊢
      (lia -abstractProof)
    · have hc' : c ∈ nodes := (List.mem_cons.mp hc).resolve_left fun q => e q.symm
      have := ih nd.2 hc'
      unfold rest at this ⊢
      simp only [List.map_cons, List.sum_cons, List.mem_append, List.mem_singleton, e, or_false] at this ⊢
      (lia -abstractProof)
noncomputable def stkD : List (Int × Nat) → List PyData
  | [] => []
  | p :: st => stkD st ++ [.int p.1]
noncomputable def kvD : List (Int × Nat) → List (Int × PyData)
  | [] => []
  | p :: st => kvD st ++ [(p.1, .int (st.length : Nat))]
noncomputable def itD (L : Lay) : List (Int × Nat) → List (Option (Addr × Nat))
  | [] => []
  | p :: st => itD L st ++ [some (L.sa p.1, p.2)]
theorem stkD_eq : ∀ st : List (Int × Nat), stkD st = (stk st).map .int
  | [] => rfl
  | p :: st => by simp [stkD, stk, stkD_eq st]
theorem stkD_len : ∀ st : List (Int × Nat), (stkD st).length = st.length
  | [] => rfl
  | p :: st => by simp [stkD, stkD_len st]
theorem kvD_len : ∀ st : List (Int × Nat), (kvD st).length = st.length
  | [] => rfl
  | p :: st => by simp [kvD, kvD_len st]
theorem itD_len (L : Lay) : ∀ st : List (Int × Nat), (itD L st).length = st.length
  | [] => rfl
  | p :: st => by simp [itD, itD_len L st]
theorem kvD_keys : ∀ st : List (Int × Nat), (kvD st).map (·.1) = stk st
  | [] => rfl
  | p :: st => by simp [kvD, stk, kvD_keys st]
theorem lookup_append {l l' : List (Int × PyData)} {k : Int} : (l ++ l').lookup k = (l.lookup k).or (l'.lookup k) := by
  induction l with
  | nil => simp
  | cons p l ih =>
    obtain ⟨a, b⟩ := p
    rw [List.cons_append, List.lookup_cons, List.lookup_cons, ih]
    cases k == a <;> rfl
theorem kvD_look : ∀ (st : List (Int × Nat)) (c : Int), (c ∈ st.map (·.1) → ∃ j : Nat, (kvD st).lookup c = some (.int (j : Int)) ∧ (stk st)[j]? = some c) ∧ (c ∉ st.map (·.1) → (kvD st).lookup c = none)
  | [], c => ⟨fun h => by simp at h, fun _ => rfl⟩
  | p :: st, c => by
    obtain ⟨h1, h2⟩ := kvD_look st c
    refine ⟨fun h => ?_, fun h => ?_⟩
    · by_cases hc : c ∈ st.map (·.1)
      · obtain ⟨j, e1, e2⟩ := h1 hc
        have hj : j < (stk st).length := (List.getElem?_eq_some_iff.mp e2).1
        exact ⟨j, by rw [kvD, lookup_append, e1]; rfl, by rw [stk, List.getElem?_append_left hj]; exact e2⟩
      · have e : c = p.1 := by simpa [hc] using h
        subst e
        exact ⟨st.length, by rw [kvD, lookup_append, h2 hc]; simp, by rw [stk, List.getElem?_append_right (by rw [stk_len]; exact Nat.le_refl _)]; simp [stk_len]⟩
    · rw [List.map_cons, List.mem_cons, not_or] at h
      rw [kvD, lookup_append, h2 h.2]
      have : (c == p.1) = false := by simpa using h.1
      simp [List.lookup_cons, this]
section
variable {W : Wrld} {ht : Nat} {sc : Scope} {ρ ρ' : Vars} {obs : Obs} {Post : Out → Prop} {y : Str} {root : Addr} {m : HM}
theorem Ex1.cont {pos : Pos} (h : Post (.ct ρ)) : Ex1 W ht sc ρ obs (.Continue pos) Post := by
  intro A env base reg s Q E H hQ hE
  exact wpAny_Continue (hQ _ _ _ _ h (Step.refl _ _) H)
theorem EvV.itemR {e i : Expr} {pos : Pos} {a b : Addr} {kvs : List (Int × VD)} {od : Obj} {k : Int} (hx : (y, .ow (RM root m)) ∈ ρ) (he : EvV W ht sc ρ obs e (.ref a)) (ha : m a = some (.raw od)) (hod : ORel (.dct kvs) od) (hi : Ev W ht sc ρ obs i (.int k)) (hl : kvs.lookup k = some (.ref b)) (hs : NoSlice i := by intro _ _; rfl) :
    EvV W ht sc ρ obs (.Subscript e i pos) (.ref b) := by
  intro A env base reg s Q E H hQ
  refine Subscript_ (he H fun s₁ x₁ => hi (H.ext x₁) fun s₂ v₂ x₂ r₂ => ?_)
  obtain ⟨t, rfl⟩ := r₂
  obtain ⟨ra, o, g, r⟩ := ((H.ext x₁).ext x₂).own hx ha
  cases (show o = od from r)
  obtain ⟨us, ru, D⟩ := dct_of (prog := W.prog) (w := W.w) g hod
  obtain ⟨u, hu, rv⟩ := (valueAt_vd ru).1 _ hl
  cases rv
  exact tail_any (D.mapOf).typeIs slot_dict_getitem.lookup (wpAny_getItem_of (intKind_is W.prog W.w k t) D.mapOf hu (hQ _ ((x₁.trans x₂).trans (Ext.tok _ _)))) (hs _ _)
end
noncomputable def fcV (root : Addr) (m : HM) (L : Lay) (st : List (Int × Nat)) (S : List Int) (b : B) : Vars :=
  [(Str.ofString "self", .ow (RM root m)), (Str.ofString "n2i", .ob L.n2i), (Str.ofString "stack", .l1 (stkD st)), (Str.ofString "itstack", .ow (ItR (itD L st))), (Str.ofString "seen", .ow (SetR S)), (Str.ofString "node2stacki", .d1 (kvD st)), (Str.ofString "node", b)]
theorem gn_set (w : World) (base : Heap) : (W1 w base).G (Str.ofString "set") = none := by kernel_rfl
theorem gn_iter (w : World) (base : Heap) : (W1 w base).G (Str.ofString "iter") = none := by kernel_rfl
theorem gn_StopIteration (w : World) (base : Heap) : (W1 w base).G (Str.ofString "StopIteration") = none := by kernel_rfl
theorem nodup_len : ∀ {l l' : List Int}, l.Nodup → (∀ k ∈ l, k ∈ l') → l.length ≤ l'.length
  | [], _, _, _ => Nat.zero_le _
  | a :: l, l', nd, h => by
    rw [List.nodup_cons] at nd
    have ha : a ∈ l' := h a List.mem_cons_self
    have := nodup_len (l := l) (l' := l'.erase a) nd.2 fun k hk => by
      have hne : k ≠ a := fun e => nd.1 (e ▸ hk)
      exact (List.mem_erase_of_ne hne).mpr (h k (List.mem_cons_of_mem _ hk))
    rw [List.length_erase_of_mem ha] at this
    have : 0 < l'.length := List.length_pos_of_mem ha
    simp only [List.length_cons]; (lia -abstractProof)
theorem left_cons {su : Int → List Int} {v : Int} {i : Nat} {st : List (Int × Nat)} : left su ((v, i) :: st) = (su v).length - i + left su st := rfl
set_option maxHeartbeats 2000000 in
theorem fc_inner (w : World) (base : Heap) {root : Addr} {L : Lay} {σ : SS} {m1 : HM} {sc : Scope} {obs : Obs} {Post : Out → Prop} (h50 : σ.nodes.length ≤ 50) (hsu : ∀ k ∈ σ.nodes, ∀ j ∈ σ.su k, j ∈ σ.nodes) (hm1 : ∀ k ∈ σ.nodes, m1 (L.sa k) = some (.lst ((σ.su k).map .int)))
    (hkn : sc.names.lookup (Str.ofString "node") = some .local ∨ sc.names.lookup (Str.ofString "node") = some .cell) (hks : sc.names.lookup (Str.ofString "StopIteration") = some .globalImplicit)
    {st0 : List (Int × Nat)} {S fin0 : List Int} {b0 : B} (D0 : Dfs σ.su σ.nodes st0 S fin0) (C0 : Closed σ.su fin0 st0)
    (hbr : ∀ st fin c, Dfs σ.su σ.nodes st S fin → Good σ.su fin c st → c ∈ σ.nodes → st ≠ [] → left σ.su st < left σ.su st0 → Post (.nx (fcV root m1 L st S (.sh (.int c))))) (hout : ∀ fin b, Dfs σ.su σ.nodes [] S fin → Post (.br (fcV root m1 L [] S b)))
    {p1 p2 p3 p4 p5 p6 p7 p8 p9 p10 p11 p12 p13 p14 p15 p16 p17 p18 p19 p20 p21 p22 p23 p24 : Pos} (l1 : (p13.endLine == p14.line) = true) (l2 : (p18.endLine == p19.line) = true) :
    Ex1 (W1 w base) 0 sc (fcV root m1 L st0 S b0) obs (.While (.Name (Str.ofString "stack") p1) [.Try [.Assign [.Name (Str.ofString "node") p2] (.Call (.Subscript (.Name (Str.ofString "itstack") p3) (.UnaryOp .USub (.Constant (.int 1) 0 p4) p5) p6) [] [] p7) p8, .Break p9]
      [.ExceptHandler (some (.Name (Str.ofString "StopIteration") p10)) none [.Delete [.Subscript (.Name (Str.ofString "node2stacki") p11) (.Call (.Attribute (.Name (Str.ofString "stack") p12) (Str.ofString "pop") p13) [] [] p14) p15] p16, .Expr (.Call (.Attribute (.Name (Str.ofString "itstack") p17) (Str.ofString "pop") p18) [] [] p19) p20] p21] [] [] p22] [.Break p23] p24) Post := by
  refine Ex1.whileS (σ := List (Int × Nat) × List Int) (fun t => fcV root m1 L t.1 S .un) (fun k t => Dfs σ.su σ.nodes t.1 S t.2 ∧ Closed σ.su t.2 t.1 ∧ left σ.su t.1 ≤ left σ.su st0 ∧ k = t.1.length) st0.length (st0, fin0) ⟨D0, C0, Nat.le_refl _, rfl⟩ (by unfold fcV; exact .same (.same (.same (.same (.same (.same (.un .nil))))))) ?_
  rintro k ⟨st, fin⟩ ⟨D, C, hlf, rfl⟩
  dsimp only at D C hlf ⊢
  have hst : st.length ≤ 50 := by
    have := nodup_len D.nd (fun k hk => D.sub k ((D.seen k).mpr (.inl hk)))
    rw [List.length_map] at this; lia
  unfold fcV
  refine ⟨!(stkD st).isEmpty, EvT.borrow (x := Str.ofString "stack") (b := .l1 (stkD st)) (by k_extra "mem") (by show Upd _ _ (.sh (.list (stkD st))) _; k_extra "upd") (EvT.plain (Ev.name (d := .list (stkD st)) (by k_extra "mem")) (by show (if _ then _ else _) = _; rw [if_pos (by rw [stkD_len]; lia)])), fun hb => ?_, fun hb => ?_⟩
  · cases st with
    | nil => contradiction
    | cons p st =>
      obtain ⟨v, i⟩ := p
      have hv : v ∈ σ.nodes := D.sub v ((D.seen v).mpr (.inl (by simp)))
      dsimp only [stkD, kvD, itD]
      have hl' : st.length < 50 := by simp at hst; lia
      refine Ex.cons (Ex1.try1 (c := .type "StopIteration") (Ex.cons (Ex1.assignM hkn (EvM.it_next (y := Str.ofString "self") (ns := σ.su v) (by k_extra "mem") (by k_extra "mem") (hm1 v hv) (Ev.neg (by k_extra "ev")) (by rw [itD_len]; lia) rfl ?_))) (fun n ρ' => EvV.builtin hks (gn_StopIteration w base) (by kernel_rfl)))
      unfold NextP
      split
      · rename_i c hc
        refine ⟨_, by k_extra "upd", _, by k_extra "upd", Ex.cons (Ex1.brk ?_)⟩
        have hi : i < (σ.su v).length := (List.getElem?_eq_some_iff.mp hc).1
        exact hbr ((v, i + 1) :: st) fin c D.step (Good.of_closed C hc) (hsu v hv c (List.mem_of_getElem? hc)) (by intro e; contradiction) (by rw [left_cons] at hlf ⊢; lia)
      · rename_i hc
        refine ⟨_, by k_extra "upd", true, Mtch.B, fun _ => ?_, fun e => nomatch e⟩
        refine Ex.cons (Ex1.delpop (x := Str.ofString "stack") (z := Str.ofString "node2stacki") (by k_extra "mem") (by k_extra "mem") (by rw [stkD_len]; lia) (by rw [kvD_len]; lia) (by k_extra "upd") (by k_extra "mem") (by k_extra "upd") ?_ (hline := l1))
        refine Ex.cons (Ex1.it_pop (x := Str.ofString "itstack") (by k_extra "mem") (by rw [itD_len]; lia) (by k_extra "upd") (Ex.nil (Ex.nil ?_)) (hline := l2))
        obtain ⟨D', C'⟩ := D.pop C hc
        exact ⟨(st, fin ++ [v]), ⟨st.length, by simp, D', C', by rw [left_cons] at hlf; dsimp only; lia, rfl⟩, .same (.same (.same (.same (.same (.same (.same .nil))))))⟩
  · cases st with
    | cons p st => simp [stkD] at hb
    | nil => exact Ex.cons (Ex1.brk (hout fin _ D))
set_option maxHeartbeats 2000000 in
theorem con_find_cycle (w : World) (base : Heap) {root : Addr} {L : Lay} {σ : SS} {m : HM} (S : Sor root L σ m) (h50 : σ.nodes.length ≤ 50) (hsu : ∀ k ∈ σ.nodes, ∀ j ∈ σ.su k, j ∈ σ.nodes) :
    Mth (W1 w base) 1 (.ref 181) root m [] (fun mo => (mo = .v .none m ∧ ∃ fin, Topo σ.su fin ∧ ∀ k ∈ σ.nodes, k ∈ fin) ∨ ∃ l, mo = .v (.list (l.map .int)) m ∧ Ring σ.su l ∧ l.length ≤ 51 ∧ ∀ k ∈ l, k ∈ σ.nodes) := by
  refine Mth.of (fm_find_cycle w base) fun obs => ?_
  dsimp only [List.zip, List.zipWith, List.map, List.append_nil, List.cons_append, List.nil_append]
  have hsz : (1000 : Nat) ≤ sizeLine := by rw [sizeLine_eq]; decide
  refine Ex.cons (Ex1.assignO locOk (EvV.attr (by k_extra "mem") (EvV.rooted (by k_extra "mem")) (S.rd_n2i w)) (by k_extra "upd") ?_)
  refine Ex.cons (Ex1.assign_nil locOk (by k_extra "upd") ?_)
  refine Ex.cons (Ex1.assign_nil locOk (by k_extra "upd") ?_)
  refine Ex.l1_it (x := Str.ofString "itstack") (by k_extra "mem") (by k_extra "upd") ?_
  refine Ex.cons (Ex1.setNew locOk (by kernel_rfl) (gn_set w base) (by k_extra "upd") ?_)
  refine Ex.cons (Ex1.assign_dict0 locOk (by k_extra "upd") ?_)
  refine Ex.cons (Ex1.know (y := Str.ofString "self") (a := L.n2i) (by k_extra "mem") S.n2i (fun o => fcV root (m.set L.n2i (.raw o)) L [] [] .un) (fun o => by unfold fcV; dsimp only [stkD, kvD, itD]; k_extra "upd") fun o ho => ?_)
  have back : (m.set L.n2i (.raw o)).set L.n2i (.dct (σ.nodes.map fun k => (k, .ref (L.ia k)))) = m := HM.set_back S.n2i
  have ne1 : ∀ {b od}, m b = some od → (∀ kvs, od ≠ .dct kvs) → (m.set L.n2i (.raw o)) b = some od := fun {b od} h n => by rw [HM.set_ne (ne_od h S.n2i (n _))]; exact h
  have hm1 : ∀ k ∈ σ.nodes, (m.set L.n2i (.raw o)) (L.sa k) = some (.lst ((σ.su k).map .int)) := fun k hk => ne1 (S.succ k hk) (by intro _ e; contradiction)
  have hrd : ∀ k ∈ σ.nodes, Rd (KK w.params) (m.set L.n2i (.raw o)) (L.ia k) (Str.ofString "successors") (.ref (L.sa k)) := fun k hk => Rd.slot (ne1 (S.info k hk) (by intro _ e; contradiction)) (ne1 (S.idx k hk) (by intro _ e; contradiction)) rfl (sl_successors w.params)
  have hself : (m.set L.n2i (.raw o)) L.n2i = some (.raw o) := HM.set_self
  generalize m.set L.n2i (.raw o) = m1 at back hm1 hrd hself ⊢
  have ekeys : (σ.nodes.map fun k => (k, VD.ref (L.ia k))).map (·.1) = σ.nodes := by simp [List.map_map, Function.comp_def]
  have blen : ∀ {st : List (Int × Nat)} {S1 fin : List Int}, Dfs σ.su σ.nodes st S1 fin → S1.length ≤ 50 ∧ st.length ≤ 50 := fun D => by
    have h1 := nodup_len D.snd D.sub
    have h2 := nodup_len D.nd (fun k hk => D.sub k ((D.seen k).mpr (.inl hk)))
    rw [List.length_map] at h2; (lia -abstractProof)
  refine Ex1.forD (τ := List Int × List Int) (y := Str.ofString "self") (m := m1) (by unfold fcV; k_extra "mem") (EvV.var (by unfold fcV; k_extra "mem")) hself ho S.n2iN rfl
    (fun t => fcV root m1 L [] t.1 .un) (fun _ => m1) (fun i t => Dfs σ.su σ.nodes [] t.1 t.2 ∧ ∀ k ∈ σ.nodes.take i, k ∈ t.1) ([], []) ⟨⟨.nil, by simp, by simp, by simp, by simp, by simp⟩, by simp⟩ (Fgt.refl _) (fun i t _ => ⟨by unfold fcV; k_extra "mem", hself⟩) ?turn ?done
  case done =>
    rintro ⟨S1, fin⟩ ⟨D, hall⟩
    dsimp only at D hall ⊢
    rw [List.length_map, List.take_length] at hall
    refine Ex.nil ⟨fcV root m L [] S1 .un, by unfold fcV; exact List.mem_cons_self, by rw [back]; unfold fcV; exact Upd.head, ?_⟩
    unfold fcV
    refine Ex.cons (Ex1.ret Ev.const_none ⟨m, by k_extra "mem", .inl ⟨rfl, fin, D.topo, fun k hk => ?_⟩⟩)
    exact ((D.seen k).mp (hall k hk)).resolve_left (by simp)
  case turn =>
    rintro i n ⟨S0, fin⟩ hn ⟨D, hall⟩
    rw [ekeys] at hn
    have hnm : n ∈ σ.nodes := List.mem_of_getElem? hn
    have htk : σ.nodes.take (i + 1) = σ.nodes.take i ++ [n] := by rw [List.take_add_one, hn]; rfl
    dsimp only at D hall ⊢
    refine ⟨fcV root m1 L [] S0 (.sh (.int n)), Asg.name locOk (by unfold fcV; k_extra "upd"), ?_⟩
    refine Ex.cons (Ex1.ifs (b := decide (n ∈ S0)) (EvT.cmp (Ev.in_set (y := Str.ofString "seen") (S := S0) (by unfold fcV; k_extra "mem") (by unfold fcV; k_extra "ev") (by have := blen D; (lia -abstractProof)))) (fun hb => Ex.cons (Ex1.cont ⟨(S0, fin), ⟨D, fun k hk => ?_⟩, ?_⟩)) fun hb => Ex.nil ?_)
    · rw [htk] at hk
      rcases List.mem_append.mp hk with hk | hk
      · exact hall k hk
      · simp at hk; subst hk; simpa using hb
    · unfold fcV; exact .same (.same (.same (.same (.same (.same (.un .nil))))))
    have hnS : n ∉ S0 := by simpa using hb
    refine Ex.cons (Ex1.whileS (σ := List (Int × Nat) × List Int × List Int × Int) (fun t => fcV root m1 L t.1 t.2.1 (.sh (.int t.2.2.2)))
      (fun k t => Dfs σ.su σ.nodes t.1 t.2.1 t.2.2.1 ∧ Good σ.su t.2.2.1 t.2.2.2 t.1 ∧ t.2.2.2 ∈ σ.nodes ∧ (t.1 = [] → t.2.2.2 ∉ t.2.1) ∧ (∀ k ∈ S0, k ∈ t.2.1) ∧ (n ∈ t.2.1 ∨ t.2.2.2 = n ∧ t.1 = []) ∧ k = rest σ.su σ.nodes t.2.1 + left σ.su t.1) _ ([], S0, fin, n) ⟨D, trivial, hnm, fun _ => hnS, fun _ h => h, .inr ⟨rfl, rfl⟩, rfl⟩ (Fgt.refl _) ?_)
    rintro k ⟨st, S1, fin1, c⟩ ⟨D1, g1, hc, he, hs0, hn1, rfl⟩
    dsimp only at D1 g1 hc he hs0 hn1 ⊢
    obtain ⟨b1, b2⟩ := blen D1
    refine ⟨true, by unfold fcV; k_extra "evt", fun _ => ?_, fun e => nomatch e⟩
    have ends : ∀ {S2 fin2 : List Int} {b : B}, Dfs σ.su σ.nodes [] S2 fin2 → (∀ k ∈ S0, k ∈ S2) → n ∈ S2 → ∃ s : List Int × List Int, (Dfs σ.su σ.nodes [] s.1 s.2 ∧ ∀ k ∈ σ.nodes.take (i + 1), k ∈ s.1) ∧ Fgt (fcV root m1 L [] S2 b) (fcV root m1 L [] s.1 .un) := fun {S2 fin2 b} D2 h1 h2 => by
      refine ⟨(S2, fin2), ⟨D2, fun k hk => ?_⟩, by unfold fcV; exact .same (.same (.same (.same (.same (.same (.un .nil))))))⟩
      rw [htk] at hk
      rcases List.mem_append.mp hk with hk | hk
      · exact h1 k (hall k hk)
      · simp at hk; subst hk; exact h2
    refine Ex.cons (Ex1.ifs (b := decide (c ∈ S1)) (EvT.cmp (Ev.in_set (y := Str.ofString "seen") (S := S1) (by unfold fcV; k_extra "mem") (by unfold fcV; k_extra "ev") (by (lia -abstractProof)))) (fun hb => ?seen) fun hb => ?push)
    case seen =>
      have hcS : c ∈ S1 := by simpa using hb
      have hst : st ≠ [] := fun e => he e hcS
      obtain ⟨k1, k2⟩ := kvD_look st c
      refine Ex.cons (Ex1.ifs (b := ((kvD st).lookup c).isSome) (EvT.cmp (Ev.in_d1 (y := Str.ofString "node2stacki") (kvs := kvD st) (by unfold fcV; k_extra "mem") (by unfold fcV; k_extra "ev"))) (fun hk => ?_) fun hk => Ex.nil (Ex.nil ?_))
      · have hin : c ∈ st.map (·.1) := Classical.byContradiction fun q => by rw [k2 q] at hk; contradiction
        obtain ⟨j, e1, e2⟩ := k1 hin
        unfold fcV
        refine Ex.freeze (x := Str.ofString "stack") (b := .l1 (stkD st)) (by k_extra "mem") (by show Upd _ _ (.sh (.list (stkD st))) _; k_extra "upd") ?_
        refine Ex.cons (Ex1.ret (EvG.list_add (Ev.from (xs := stkD st) (k := j) (Ev.name (by k_extra "mem")) (Ev.item_d1 (x := Str.ofString "node2stacki") (kvs := kvD st) (by k_extra "mem") (by k_extra "ev") e1) (by rw [stkD_len]; (lia -abstractProof))) (Ev.list (ds := [.int c]) (EvAll.cons (by k_extra "ev") EvAll.nil) (by show 1 ≤ _; (lia -abstractProof))) (by rw [List.length_drop, stkD_len]; show _ + 1 ≤ _; (lia -abstractProof))).ev ?_)
        refine ⟨_, by dsimp only [Out.vs]; k_extra "mem", by rw [back]; dsimp only [Out.vs]; k_extra "upd", m, by k_extra "mem", .inr ⟨(stk st).drop j ++ [c], ?_, Good.ring D1 g1 e2, ?_, fun k hk => ?_⟩⟩
        · rw [stkD_eq, List.map_append, List.map_drop]; rfl
        · have := stk_len st
          simp only [List.length_append, List.length_drop, List.length_singleton]; (lia -abstractProof)
        · rcases List.mem_append.mp hk with hk | hk
          · have := List.mem_of_mem_drop hk
            rw [stk_rev, List.mem_reverse] at this
            exact D1.sub k ((D1.seen k).mpr (.inl this))
          · rw [List.mem_singleton.mp hk]; exact hc
      · have hno : c ∉ st.map (·.1) := fun q => by obtain ⟨j, e1, _⟩ := k1 q; rw [e1] at hk; contradiction
        have hfin : c ∈ fin1 := ((D1.seen c).mp hcS).resolve_left hno
        have C1 : Closed σ.su fin1 st := by
          cases st with
          | nil => exact absurd rfl hst
          | cons p st => exact Closed.of_good g1 hfin
        have hnS1 : n ∈ S1 := hn1.resolve_right fun q => hst q.2
        refine Ex.cons (fc_inner w base h50 hsu hm1 locOk (by kernel_rfl) D1 C1 (fun st' fin' c' D2 g2 hc2 hne hl => Ex.nil ?_) (fun fin' b' D2 => Ex.nil (ends D2 hs0 hnS1)) rfl rfl)
        exact ⟨(st', S1, fin', c'), ⟨_, by dsimp only; (lia -abstractProof), D2, g2, hc2, fun e => absurd e hne, hs0, .inl hnS1, rfl⟩, Fgt.refl _⟩
    case push =>
      have hcS : c ∉ S1 := by simpa using hb
      have hcst : c ∉ stk st := fun q => hcS ((D1.seen c).mpr (.inl (by rw [stk_rev] at q; simpa using q)))
      unfold fcV
      refine Ex.cons (Ex1.set_add (y := Str.ofString "seen") (by k_extra "mem") (by k_extra "ev") (by (lia -abstractProof)) hcS (by k_extra "upd") ?_)
      refine Ex.cons (Ex1.it_push (x := Str.ofString "itstack") (y := Str.ofString "self") (by k_extra "mem") (by k_extra "mem") (by kernel_rfl) (gn_iter w base) (EvV.attr (by k_extra "mem") (EvV.itemR (by k_extra "mem") (EvV.var (by k_extra "mem")) hself ho (by k_extra "ev") (by rw [S.look c, if_pos hc])) (hrd c hc)) (hm1 c hc) (by rw [itD_len]; (lia -abstractProof)) (by k_extra "upd") ?_)
      refine Ex.cons (Ex1.setdict (x := Str.ofString "node2stacki") (d := .int (st.length : Nat)) (by k_extra "mem") (Ev.borrow (x := Str.ofString "stack") (b := .l1 (stkD st)) (by k_extra "mem") (by show Upd _ _ (.sh (.list (stkD st))) _; k_extra "upd") (Ev.of_eq (Ev.callB (by kernel_rfl) (gn_len w base) (by kernel_rfl) (EvAll.cons (Ev.name (d := .list (stkD st)) (by k_extra "mem")) EvAll.nil) (Con.len_list (ht := 0) (by rw [stkD_len]; (lia -abstractProof)))) (by rw [stkD_len])) rfl) (by k_extra "ev") (by rw [kvD_keys]; exact hcst) (by rw [kvD_len]; (lia -abstractProof)) (by k_extra "upd") ?_)
      refine Ex.cons (Ex1.append (x := Str.ofString "stack") (xs := stkD st) (d := .int c) (by k_extra "mem") (by k_extra "ev") (by rw [stkD_len]; (lia -abstractProof)) (by k_extra "upd") (Ex.nil ?_))
      have hr := rest_push (su := σ.su) (S := S1) hcS S.nodup hc
      refine Ex.cons (fc_inner w base (st0 := (c, 0) :: st) (S := S1 ++ [c]) h50 hsu hm1 locOk (by kernel_rfl) (D1.push hcS hc) (Closed.push g1) (fun st' fin' c' D2 g2 hc2 hne hl => Ex.nil ?_) (fun fin' b' D2 => Ex.nil (ends D2 (fun k hk => List.mem_append_left _ (hs0 k hk)) ?_)) rfl rfl)
      · refine ⟨(st', S1 ++ [c], fin', c'), ⟨_, ?_, D2, g2, hc2, fun e => absurd e hne, fun k hk => List.mem_append_left _ (hs0 k hk), ?_, rfl⟩, Fgt.refl _⟩
        · dsimp only
          rw [left_cons] at hl
          (lia -abstractProof)
        · rcases hn1 with h | h
          · exact .inl (List.mem_append_left _ h)
          · exact .inl (by rw [← h.1]; simp)
      · rcases hn1 with h | h
        · exact List.mem_append_left _ h
        · rw [← h.1]; simp
section
variable {W : Wrld} {ht ht' : Nat} {sc : Scope} {ρ ρ' ρ'' : Vars} {obs : Obs} {Post : Out → Prop} {A : Around} {env : Env} {base : Heap} {reg : Reg} {s s' : Shared} {x y : Str} {root : Addr} {m m' : HM}
theorem values_any {d : Expr} {apos pos : Pos} {a : Addr} {kvs : List (Int × VD)} {Q E : Value → Shared → Prop} (H : Here W ht sc ρ obs A env base reg s) (hx : (y, .ow (RM root m)) ∈ ρ) (he : EvV W ht sc ρ obs d (.ref a)) (ha : m a = some (.dct kvs)) (hna : a ≠ sysModules)
    (hQ : ∀ s₂ I ep us, Ext (Loose reg) s s₂ → s.heap.get? I = none → All2 VRel (kvs.map (·.2)) us → s₂.heap.IsValIter I a 0 kvs.length ep → s₂.heap.DictAt (intKind W.prog W.w) a ((kvs.map (·.1)).zip us) ep → a ≠ I → Q (.ref I) s₂)
    (hb : ∀ env : Env, attributeBase d "values" env (eval d env) = eval d env := by intro _; rfl) (hline : (apos.endLine == pos.line) = true := by rfl) :
    wpAny W.M A (eval (.Call (.Attribute d "values" apos) [] [] pos) env) (fun xv s₁ => wpAny W.M A (pyIter xv) Q E s₁) E s := by
  refine wpAny_Call_method0_late (hb env) hline (he H fun s₁ x₁ => ?_)
  have H₁ := H.ext x₁
  obtain ⟨ra, o, g, r⟩ := H₁.own hx ha
  obtain ⟨us, ru, D⟩ := dct_of (prog := W.prog) (w := W.w) g r
  have hl : us.length = kvs.length := by simpa using ru.length
  have hT := D.typeIs
  have hnd : ∀ b, Value.ref a = .ref b → ∃ ob, s₁.heap.get? b = some ob ∧ ob.dict = none := fun b e => by
    cases e; obtain ⟨l, n, rfl, _⟩ := r; exact ⟨_, g, rfl⟩
  refine ⟨"dict", "dict.values", PySem.F.plainAttrs_dict, PySem.F.slot_dict_values, PySem.F.type_dict_values, hT, hnd, ?_⟩
  refine callWith_builtin rfl (evalArgs_nil3 (call_meetsIn PySem.F.slot_dict_values hT PySem.F.entry_dict_values (PySem.F.args_dict_values_1 _) (meets_dict_values (intKind W.prog W.w) a (by simpa using hna)) ⟨⟨_, D⟩, ?_⟩))
  obtain ⟨ep, DA⟩ := D.dictAt
  have DA₂ : (s₁.heap.push { cls := .type "dict_values", data := .fields #[.ref a] }).DictAt (intKind W.prog W.w) a ((kvs.map (·.1)).zip us) ep := DA.push _
  refine wpAny_pyIter_values (knd := intKind W.prog W.w) (d := a) ⟨_, Heap.get?_push_size _ rfl, rfl, rfl⟩ DA₂ ?_
  have zl : ((kvs.map (·.1)).zip us).length = kvs.length := by simp [hl]
  rw [zl]
  have x₂ : Ext (Loose reg) s₁ { s₁ with heap := s₁.heap.push { cls := .type "dict_values", data := .fields #[.ref a] } } := Ext.push _ _ s₁.toks
  refine hQ _ _ ep us ((x₁.trans x₂).trans (Ext.push _ _ s₁.toks)) ((x₁.trans x₂).none (fresh_none _)) ru ⟨_, Heap.get?_push_size _ rfl, rfl, rfl⟩ (DA₂.push _) ?_
  exact Nat.ne_of_lt DA₂.lt_size
theorem comp_vals {d : Expr} {apos cpos p1 p2 p3 p4 p5 p6 p7 pos : Pos} {nA nB : Str} {scope : Scope} {a : Addr} {ks : List Int} {ia : Int → Addr} {vA vB : Int → Int} {Q E : Value → Shared → Prop} (H : Here W ht sc ρ obs A env base reg s) (hc : W.calm = true) (hx : (y, .ow (RM root m)) ∈ ρ) (he : EvV W ht sc ρ obs d (.ref a)) (ha : m a = some (.dct (ks.map fun k => (k, .ref (ia k))))) (hna : a ≠ sysModules)
    (hA : ∀ k ∈ ks, Rd W.K m (ia k) nA (.int (vA k))) (hB : ∀ k ∈ ks, Rd W.K m (ia k) nB (.int (vB k))) (hz : ks.length ≤ 1000)
    (hsk : scope.kind = .function) (hsn : scope.names = [(Str.ofString ".0", .local), (x, .local)]) (hx0 : x ≠ Str.ofString ".0") (hnx : (x == ("__classdict__" : Str)) = false) (hdx : (x == ("__debug__" : Str)) = false)
    (hQ : ∀ s' D l n, Ext (Loose reg) s s' → s.heap.get? D = none → s'.heap.get? D = some { cls := .type "list", data := .seq l n } → All2 VRel ((ks.filter fun k => vB k == 0).map fun k => VD.int (vA k)) l.toList → Q (.ref D) s')
    (hb : ∀ env : Env, attributeBase d "values" env (eval d env) = eval d env := by intro _; rfl) (hline : (apos.endLine == cpos.line) = true := by rfl)
    (hs : ∀ (env : Env) v, foldedSetIterable (.Call (.Attribute d "values" apos) [] [] cpos) env v = pure v := by intro _ _; rfl) :
    wpAny W.M A (eval (.ListComp (.Attribute (.Name x p1) nA p2) [⟨.Name x p3, .Call (.Attribute d "values" apos) [] [] cpos, [.Compare (.Attribute (.Name x p4) nB p5) [.Eq] [.Constant (.int 0) 0 p6] p7], 0⟩] scope pos) env) Q E s := by
  have hfr : ∀ z ∈ scope.names, z.2 = .free → ∃ c, env.cells.lookup z.1 = some c := fun z hz e => by
    rw [hsn] at hz
    rcases List.mem_cons.mp hz with rfl | hz
    · contradiction
    · rcases List.mem_cons.mp hz with rfl | hz
      · contradiction
      · contradiction
  obtain ⟨cl, e, h1, h2⟩ := closure_of hfr
  rw [eval_ListComp]
  refine wpAny_comprehension_free (use := none) rfl (hs env) e hsk (fun z hz _ => ?_) ?_
  · rw [hsn] at hz ⊢
    rcases List.mem_cons.mp hz with rfl | hz
    · rfl
    · rcases List.mem_cons.mp hz with rfl | hz
      · have : (x == Str.ofString ".0") = false := by simpa using hx0
        simp [List.lookup_cons, this]
      · contradiction
  refine values_any H hx he ha hna (fun s₂ I ep us x₂ nI ru hit hd haI => ?_) hb hline
  refine wpAny_newList ?_ (by decide)
  refine newCompEnv ?_
  dsimp only
  generalize hD : s₂.heap.objs.size = D
  have hC : (s₂.heap.push { cls := .type "list", data := .seq ([] : List Value).toArray }).objs.size = D + 1 := by rw [Heap.size_push, hD]
  rw [hC]
  generalize hH2 : s₂.heap.push { cls := .type "list", data := .seq ([] : List Value).toArray } = H2 at hC ⊢
  generalize hown : cellsFrom (D + 1 + 1) scope.names [] ++ cl = cells
  generalize hh1 : pushCells (H2.push { cls := .type "dict", data := .dict #[] }) scope.names = h₁
  have keep1 : ∀ b o, s₂.heap.get? b = some o → h₁.get? b = some o := fun b o e => by
    rw [← hh1]; exact pushCells_keeps _ _ b o (Heap.get?_push_of_some _ (by rw [← hH2]; exact Heap.get?_push_of_some _ e))
  have hnsC : h₁.Ns (D + 1) fun _ => none := by
    rw [← hh1, ← hC]; exact (Heap.Ns.new H2 (.type "dict")).keeps (pushCells_keeps _ _)
  have hpl : h₁.PlainList D #[] := by
    refine ⟨0, ?_⟩
    rw [← hh1]
    refine pushCells_keeps _ _ _ _ (Heap.get?_push_of_some _ ?_)
    rw [← hH2, ← hD]; exact Heap.get?_push_size _ rfl
  have nle2 : ∀ a, D ≤ a → s₂.heap.get? a = none := fun a ha => none_of_le (by lia)
  have lt2 : ∀ {b o}, s₂.heap.get? b = some o → D > b := fun {b o} e => by have := lt_sz e; lia
  have gI : ∃ o, s₂.heap.get? I = some o := let ⟨o, g, _⟩ := hit; ⟨o, g⟩
  have ID : I ≠ D := by obtain ⟨o, g⟩ := gI; exact Nat.ne_of_lt (lt2 g)
  have IC : I ≠ D + 1 := by obtain ⟨o, g⟩ := gI; exact Nat.ne_of_lt (Nat.lt_succ_of_lt (lt2 g))
  have nID : s.heap.get? D = none := x₂.none (nle2 _ (Nat.le_refl _))
  have nIC : s.heap.get? (D + 1) = none := x₂.none (nle2 _ (Nat.le_succ _))
  rw [List.length_map] at hit
  have hul : us.length = ks.length := by simpa using ru.length
  let cenv := compEnvOf scope env (D + 1) cells
  have hkk : cenv.kindOf x = some .local := by
    have hl : scope.names.lookup x = some .local := by
      rw [hsn]
      have : (x == Str.ofString ".0") = false := by simpa using hx0
      simp [List.lookup_cons, this]
    rcases relab_lookup' (sc := env.scope) hl with q | ⟨q, _⟩
    · exact q
    · contradiction
  have ext : ∀ {h' : Heap} {tk : Nat}, (∀ b o, b ≠ I → s₂.heap.get? b = some o → h'.get? b = some o) → Ext (Loose reg) s { s₂ with heap := h', toks := tk } := fun {h' tk} keep => by
    obtain ⟨hh, tt, rfl, kk⟩ := x₂
    refine ⟨h', tk, rfl, fun b o e => ?_⟩
    obtain ⟨sl, g, q⟩ := kk b o e
    exact ⟨sl, keep b _ (fun z => by rw [z, nI] at e; contradiction) g, q⟩
  have attr : ∀ {h' : Heap} {tk : Nat} {mm : Str → Option Value} {nm : Str} {k : Int} {vv : Int} {q1 q2 : Pos} {Q' E' : Value → Shared → Prop}, (∀ b o, b ≠ I → s₂.heap.get? b = some o → h'.get? b = some o) → h'.Ns (D + 1) mm → mm x = some (.ref (ia k)) → Rd W.K m (ia k) nm (.int vv) →
      (∀ t, Q' (.int vv t) { s₂ with heap := h', toks := tk + 1 }) → wpAny W.M A (eval (.Attribute (.Name x q1) nm q2) cenv) Q' E' { s₂ with heap := h', toks := tk } := fun {h' tk mm nm k vv q1 q2 Q' E'} keep hns hm R hq => by
    refine Attribute_any_ (wpAny_Name (wpAny_loadName_local (env := cenv) hsk hkk hns hm ?_) hdx) rfl
    refine get_any (H.ext (ext keep)) hx R fun v rv => ?_
    obtain ⟨t, rfl⟩ := rv
    exact hq t
  have loop : codeAny W.M A (.compLoop (.ListComp (.Attribute (.Name x p1) nA p2) [⟨.Name x p3, .Call (.Attribute d "values" apos) [] [] cpos, [.Compare (.Attribute (.Name x p4) nB p5) [.Eq] [.Constant (.int 0) 0 p6] p7], 0⟩] scope pos) 0 (.ref I) (.ref D) cenv) (compPost W.M A E none Q (.ref D) (D + 1)) { s₂ with heap := h₁ } := by
    refine loop_tests (fun k s' => ∃ h' tk i ys, s' = { s₂ with heap := h', toks := tk } ∧ i ≤ ks.length ∧ k = ks.length + 1 - i ∧ (∀ b o, b ≠ I → s₂.heap.get? b = some o → h'.get? b = some o) ∧ h'.IsValIter I a i ks.length ep ∧ h'.PlainList D ys ∧ All2 VRel (((ks.take i).filter fun k => vB k == 0).map fun k => VD.int (vA k)) ys.toList ∧ ∃ mm, h'.Ns (D + 1) mm) ?_ (ks.length + 1)
      ⟨h₁, s₂.toks, 0, #[], rfl, Nat.zero_le _, rfl, fun b o _ e => keep1 b o e, hit.at fun o e => keep1 _ o e, hpl, .nil, _, hnsC⟩
    rintro k s' ⟨h', tk, i, ys, rfl, hi, rfl, keep, st, pl, rys, mm, hns⟩
    have hd' : ∀ {h' : Heap}, (∀ b o, b ≠ I → s₂.heap.get? b = some o → h'.get? b = some o) → h'.DictAt (intKind W.prog W.w) a (((ks.map fun k => (k, VD.ref (ia k))).map (·.1)).zip us) ep := fun keep => hd.at' fun o e => keep a o haI e
    have zl : (((ks.map fun k => (k, VD.ref (ia k))).map (·.1)).zip us).length = ks.length := by simp [hul]
    by_cases hlt : i < ks.length
    · have hu' : i < us.length := by lia
      obtain ⟨k, hk⟩ : ∃ k, ks[i]? = some k := ⟨ks[i], by simp [hlt]⟩
      have hkm : k ∈ ks := List.mem_of_getElem? hk
      obtain ⟨v, hv, rv⟩ := ru.get (i := i) (a := .ref (ia k)) (by simp [hk])
      cases rv
      have hat : (((ks.map fun k => (k, VD.ref (ia k))).map (·.1)).zip us)[i]? = some (k, .ref (ia k)) := by
        rw [List.getElem?_zip_eq_some]; exact ⟨by simp [hk], hv⟩
      have htake : ks.take (i + 1) = ks.take i ++ [k] := by rw [List.take_add_one, hk]; rfl
      refine wpAny_pyNext_values_item (knd := intKind W.prog W.w) (by rw [zl]; exact st) (hd' keep) hat fun h₂ st₂ sb₂ => ?_
      rw [zl] at st₂
      have keep₂ : ∀ b o, b ≠ I → s₂.heap.get? b = some o → h₂.get? b = some o := fun b o hb e => sb₂.extBut b o hb (keep b o hb e)
      obtain ⟨oI, gI₂, cI, dI⟩ := id st₂
      refine let_go (s := { s₂ with heap := h₂, toks := tk }) gI₂ cI dI (by decide +kernel) ?_
      refine wpAny_assign_Name (wpAny_storeName_local (env := cenv) hkk (hns.sameBut sb₂ (Ne.symm IC)) (fun h₃ hn₃ sb₃ => ?_) (by show (scope.kind == .class || (scope.kind == .module && _)) = false; rw [hsk]; rfl))
      have keep₃ : ∀ b o, b ≠ I → s₂.heap.get? b = some o → h₃.get? b = some o := fun b o hb e => sb₃.extBut b o (fun z => by have := lt2 e; rw [show b = D + 1 from z] at this; exact absurd this (by lia)) (keep₂ b o hb e)
      have st₃ : h₃.IsValIter I a (i + 1) ks.length ep := st₂.at fun o e => sb₃.extBut I o IC e
      have pl₃ : h₃.PlainList D ys := (pl.at fun o e => sb₂.extBut D o (Ne.symm ID) e).at fun o e => sb₃.extBut D o (Nat.ne_of_lt (Nat.lt_succ_self D)) e
      rw [List.forIn_cons]
      simp only [if_true]
      refine wpAny_bind (wpAny_bind (wpAny_isTrue_Compare1 (attr keep₃ hn₃ (by simp) (hB k hkm) fun t => wpAny_Constant_int (PyProof.Rows.eq_int (wpAny_truthy_bool (wpAny_pure ?_)))) (by with_unfolding_all rfl)))
      dsimp only
      rw [List.forIn_nil]
      refine wpAny_pure ?_
      cases hb0 : (vB k == 0) with
      | false =>
        simp only [Bool.false_eq_true, if_false]
        refine ⟨ks.length + 1 - (i + 1), by lia, h₃, _, i + 1, ys, rfl, hlt, rfl, keep₃, st₃, pl₃, ?_, _, hn₃⟩
        rw [htake, List.filter_append, List.filter_cons, hb0]
        simpa using rys
      | true =>
        simp only [if_true]
        refine attr keep₃ hn₃ (by simp) (hA k hkm) fun t' => ?_
        have hys : ys.size ≤ 1000 := by
          have e1 := rys.length
          have e2 : ((ks.take i).filter fun k => vB k == 0).length ≤ (ks.take i).length := List.length_filter_le _ _
          rw [List.length_map] at e1
          rw [List.length_take] at e2
          have : ys.toList.length = ys.size := by simp
          lia
        refine wpAny_list_append_plain pl₃ (fun h₆ pl₆ sb₆ => ?_) (Nat.le_trans hys (by decide))
        refine ⟨ks.length + 1 - (i + 1), by lia, h₆, _, i + 1, _, rfl, hlt, rfl, fun b o hb e => sb₆.extBut b o (Nat.ne_of_lt (lt2 e)) (keep₃ b o hb e), st₃.at fun o e => sb₆.extBut I o ID e, pl₆, ?_, _, hn₃.sameBut sb₆ (Nat.ne_of_gt (Nat.lt_succ_self D))⟩
        rw [htake, List.filter_append, List.filter_cons, hb0]
        simp only [if_true, List.filter_nil, List.map_append, List.map_cons, List.map_nil, Array.toList_push]
        exact rys.append (.cons ⟨_, rfl⟩ .nil)
    · have hin : i = ks.length := by lia
      subst hin
      refine wpAny_pyNext_values_end (knd := intKind W.prog W.w) (kvs := ((ks.map fun k => (k, VD.ref (ia k))).map (·.1)).zip us) (H.amb.handled hc) (by rw [zl]; exact st) (hd' keep) (List.getElem?_eq_none (by rw [zl]; exact Nat.le_refl _)) fun h₂ xb => ?_
      obtain ⟨n, g⟩ := pl
      rw [List.take_length] at rys
      have keep₂ : ∀ b o, b ≠ I → s₂.heap.get? b = some o → h₂.get? b = some o := fun b o hb e => xb b o hb (keep b o hb e)
      refine ⟨mm, hns.at' fun o e => xb _ o (Ne.symm IC) e, fun h₃ sb => hQ _ D ys n ?_ nID ?_ rys⟩
      · exact ext fun b o hb e => sb.extBut b o (fun z => by subst z; have := lt2 e; lia) (keep₂ b o hb e)
      · exact sb.extBut D _ (Nat.ne_of_lt (Nat.lt_succ_self D)) (xb D _ (Ne.symm ID) g)
  exact codeAny_compStart_list loop (wpAny_pyIter_valiter (hit.at fun o e => keep1 _ o e) loop)
theorem Ex1.attr_comp {e d : Expr} {name : Str} {apos cpos p p1 p2 p3 p4 p5 p6 p7 pos pos' : Pos} {nA nB : Str} {scope : Scope} {a : Addr} {ks : List Int} {ia : Int → Addr} {vA vB : Int → Int} (hc : W.calm = true) (hx : (y, .ow (RM root m)) ∈ ρ) (he : EvV W ht sc ρ obs d (.ref a)) (ha : m a = some (.dct (ks.map fun k => (k, .ref (ia k))))) (hna : a ≠ sysModules)
    (hA : ∀ k ∈ ks, Rd W.K m (ia k) nA (.int (vA k))) (hB : ∀ k ∈ ks, Rd W.K m (ia k) nB (.int (vB k))) (hz : ks.length ≤ 1000)
    (hsk : scope.kind = .function) (hsn : scope.names = [(Str.ofString ".0", .local), (x, .local)]) (hx0 : x ≠ Str.ofString ".0") (hnx : (x == ("__classdict__" : Str)) = false) (hdx : (x == ("__debug__" : Str)) = false)
    (h : ∀ b, m b = none → ∃ c m' ρ₁ ρ', Upd ρ y (.ow (RM root (m.set b (.lst ((ks.filter fun k => vB k == 0).map fun k => VD.int (vA k)))))) ρ₁ ∧ EvV W ht sc ρ₁ obs e (.ref c) ∧ Wr W.K (m.set b (.lst ((ks.filter fun k => vB k == 0).map fun k => VD.int (vA k)))) c name (.ref b) m' ∧ Upd ρ₁ y (.ow (RM root m')) ρ' ∧ Post (.nx ρ'))
    (hb : ∀ env : Env, attributeBase d "values" env (eval d env) = eval d env := by intro _; rfl) (hline : (apos.endLine == cpos.line) = true := by rfl)
    (hs : ∀ (env : Env) v, foldedSetIterable (.Call (.Attribute d "values" apos) [] [] cpos) env v = pure v := by intro _ _; rfl)
    (hw : ∀ env : Env, env.scope = sc → swapsWith (.ListComp (.Attribute (.Name x p1) nA p2) [⟨.Name x p3, .Call (.Attribute d "values" apos) [] [] cpos, [.Compare (.Attribute (.Name x p4) nB p5) [.Eq] [.Constant (.int 0) 0 p6] p7], 0⟩] scope pos) (some (.Attribute e name p)) pos'.line env = pure false := by intro _ _; rfl) :
    Ex1 W ht sc ρ obs (.Assign [.Attribute e name p] (.ListComp (.Attribute (.Name x p1) nA p2) [⟨.Name x p3, .Call (.Attribute d "values" apos) [] [] cpos, [.Compare (.Attribute (.Name x p4) nB p5) [.Eq] [.Constant (.int 0) 0 p6] p7], 0⟩] scope pos) pos') Post := by
  intro A env base reg s Q E H hQ hE
  refine plainObj_wpAny_Assign_Attribute (comp_vals H hc hx he ha hna hA hB hz hsk hsn hx0 hnx hdx (fun s₁ D l n x₁ nD g r => ?_) hb hline hs) (hw env H.sc)
  have hm : m D = none := by
    cases q : m D with
    | none => rfl
    | some od => obtain ⟨_, o, g', _⟩ := H.own hx q; rw [nD] at g'; cases g'
  obtain ⟨c, m', ρ₁, ρ', u₁, he', w, u', hp⟩ := h D hm
  obtain ⟨H₁, st₁⟩ := H.newO hx x₁ nD g (od := .lst ((ks.filter fun k => vB k == 0).map fun k => VD.int (vA k))) ⟨l, n, rfl, r⟩ u₁
  refine he' H₁ fun s₂ x₂ => ?_
  exact set_any (H₁.ext x₂) u₁.has w rfl u' fun s₃ H₃ st₃ => hQ _ _ _ _ hp (st₁.trans ((Step.ext x₂).trans st₃)) H₃
end
noncomputable def SS.prep (σ : SS) : SS := { σ with ready := some (σ.nodes.filter fun k => σ.np k == 0) }
theorem Sor.prep {root : Addr} {L : Lay} {σ : SS} {m : HM} (S : Sor root L σ m) (hr : σ.ready = none) {b : Addr} (hb : m b = none) :
    Sor root { L with rd := b } σ.prep ((m.set b (.lst ((σ.nodes.filter fun k => σ.np k == 0).map .int))).set L.dx (.ns (tsNs { L with rd := b } σ.prep))) := by
  have nb : ∀ {a od}, m a = some od → a ≠ b := fun h e => by rw [e, hb] at h; cases h
  have hi := S.dict
  have ne : ∀ {a od}, m a = some od → (∀ vs, od ≠ .ns vs) → ((m.set b (.lst ((σ.nodes.filter fun k => σ.np k == 0).map .int))).set L.dx (.ns (tsNs { L with rd := b } σ.prep))) a = some od := fun {a od} h n => by
    rw [HM.set_ne (ne_od h hi (n _)), HM.set_ne (nb h)]; exact h
  refine ⟨ne S.inst (by intro _ e; cases e), HM.set_self, ne S.n2i (by intro _ e; cases e), S.n2iN, fun k hk => ne (S.info k hk) (by intro _ e; cases e), fun k hk => ?_, fun k hk => ne (S.succ k hk) (by intro _ e; cases e), fun l hl => ?_, S.inj, S.nodup⟩
  · have h := S.idx k hk
    rw [HM.set_ne (ne_od h hi (by intro e; cases e)), HM.set_ne (nb h)]; exact h
  · cases hl
    refine ⟨?_, fun k hk => nb (S.succ k hk)⟩
    rw [HM.set_ne (Ne.symm (nb hi))]; exact HM.set_self
set_option maxHeartbeats 2000000 in
theorem con_prepare (w : World) (base : Heap) {root : Addr} {L : Lay} {σ : SS} {m : HM} (S : Sor root L σ m) (hr : σ.ready = none) (h50 : σ.nodes.length ≤ 50) (hsu : ∀ k ∈ σ.nodes, ∀ j ∈ σ.su k, j ∈ σ.nodes) :
    Mth (W1 w base) 2 (.ref 146) root m [] (fun mo => ∃ L' m', Sor root L' σ.prep m' ∧ ((mo = .v .none m' ∧ ∃ fin, Topo σ.su fin ∧ ∀ k ∈ σ.nodes, k ∈ fin) ∨ ∃ l, mo = .x ⟨.ref 109, .tuple [.str (Str.ofString "nodes are in a cycle"), .list (l.map .int)], true, true⟩ m' ∧ Ring σ.su l ∧ l.length ≤ 51 ∧ ∀ k ∈ l, k ∈ σ.nodes)) := by
  refine Mth.of (fm_prepare w base) fun obs => ?_
  dsimp only [List.zip, List.zipWith, List.map, List.append_nil, List.cons_append, List.nil_append]
  refine Ex.cons (Ex1.ifs (b := false) (EvT.of_eq (EvT.isnot_none (d := rdV L σ) (EvD.attr (by k_extra "mem") (EvV.rooted (by k_extra "mem")) (S.rd_ready w))) (by unfold rdV VD.isN; rw [hr]; rfl)) (fun e => nomatch e) fun _ => Ex.nil ?_)
  refine Ex.cons (Ex1.attr_comp (y := Str.ofString "self") (ks := σ.nodes) (ia := L.ia) (vA := fun k => k) (vB := σ.np) rfl (by k_extra "mem") (EvV.attr (by k_extra "mem") (EvV.rooted (by k_extra "mem")) (S.rd_n2i w)) S.n2i S.n2iN (fun k hk => S.rd_node w hk) (fun k hk => S.rd_np w hk) (by (lia -abstractProof)) (by kernel_rfl) (by kernel_rfl) (by decide) (by decide) (by decide) fun b hb => ?_)
  have S' := S.prep hr hb
  have nb : ∀ {a od}, m a = some od → a ≠ b := fun h e => by rw [e, hb] at h; contradiction
  refine ⟨root, _, _, _, by k_extra "upd", EvV.rooted (by k_extra "mem"), Wr.dict (es := tsNs L σ) (by rw [HM.set_ne (nb S.inst)]; exact S.inst) (by rw [HM.set_ne (nb S.dict)]; exact S.dict) (si_ready_nodes w.params) (hd_ts w.params) ts_small, by k_extra "upd", ?_⟩
  have e0 : putL (tsNs L σ) (Str.ofString "_ready_nodes") (.ref b) = tsNs { L with rd := b } σ.prep := rfl
  rw [e0]
  generalize (m.set b (.lst ((σ.nodes.filter fun k => σ.np k == 0).map .int))).set L.dx (.ns (tsNs { L with rd := b } σ.prep)) = m2 at S' ⊢
  refine Ex.cons (Ex1.assignM locOk (EvM.meth0 (y := Str.ofString "self") (by k_extra "mem") S'.inst S'.dict rfl (mi_find_cycle w.params) (con_find_cycle w base S' h50 hsu) ?_))
  rintro _ (⟨rfl, fin, ht, hf⟩ | ⟨l, rfl, hR, hl, hn⟩)
  · refine ⟨_, by k_extra "upd", _, by k_extra "upd", ?_⟩
    refine Ex.cons (Ex1.ifs (b := false) (EvT.plain (Ev.name (d := .none) (by k_extra "mem")) rfl) (fun e => nomatch e) fun _ => Ex.nil (Ex.endM (by k_extra "mem") ⟨_, _, S', .inl ⟨rfl, fin, ht, hf⟩⟩))
  · refine ⟨_, by k_extra "upd", _, by k_extra "upd", ?_⟩
    obtain ⟨c, p, hlp, _⟩ := hR.ends
    refine Ex.cons (Ex1.ifs (b := true) (EvT.plain (Ev.name (d := .list (l.map .int)) (by k_extra "mem")) (by show (if _ then _ else _) = _; rw [if_pos (by simp; (lia -abstractProof)), hlp]; rfl)) (fun _ => ?_) fun e => nomatch e)
    refine Ex.cons (Ex1.raiseO PySem.F.excBase_ValueError (exc_CE w.params) (EvV.global (by kernel_rfl) (g_CE w base)) (EvAll.cons (d := .str (Str.ofString "nodes are in a cycle")) (Ev.joined1 Ev.const_str) (EvAll.cons (d := .list (l.map .int)) (by k_extra "ev") EvAll.nil)) (by show 2 ≤ sizeLine; rw [sizeLine_eq]; decide) rfl ⟨_, by k_extra "mem", _, _, S', .inr ⟨l, rfl, hR, hl, hn⟩⟩)
noncomputable def nodes4 : List Int := [0, 1, 2, 3]
noncomputable def sucs (st : List (Int × Int)) (k : Int) : List Int := (st.filter fun q => q.1 == k).map (·.2)
noncomputable def indeg (st : List (Int × Int)) (G : List Int) (k : Int) : Nat := (st.filter fun q => q.2 == k && !G.contains q.1).length
structure Told (st : List (Int × Int)) (σ : SS) : Prop where
  nodes : σ.nodes = nodes4
  su : ∀ k, σ.su k = if k ∈ nodes4 then sucs st k else []
  np : ∀ k ∈ nodes4, σ.np k = indeg st [] k
  ready : σ.ready = none
  npo : σ.npo = 0
  nfi : σ.nfi = 0
theorem dec_np (l : List Int) : ∀ (σ : SS) (j : Int), (l.foldl SS.dec σ).np j = σ.np j - (l.count j : Nat) := by
  induction l with
  | nil => intro σ j; simp
  | cons a l ih =>
    intro σ j
    rw [List.foldl_cons, ih, List.count_cons]
    show updF σ.np a (σ.np a - 1) j - _ = _
    by_cases h : j = a
    · subst h; rw [updF_self]; simp; lia
    · rw [updF_ne h]
      have : ¬ a = j := fun q => h q.symm
      simp [this]
theorem dec_ready (l : List Int) : ∀ (σ : SS) (r : List Int), σ.ready = some r → (∀ j ∈ l, (l.count j : Int) ≤ σ.np j) → ∃ r', (l.foldl SS.dec σ).ready = some (r ++ r') ∧ r'.Nodup ∧ ∀ j, j ∈ r' ↔ j ∈ l ∧ σ.np j = (l.count j : Nat) := by
  induction l with
  | nil => intro σ r hr _; exact ⟨[], by simp [hr], by simp, by simp⟩
  | cons a l ih =>
    intro σ r hr hc
    rw [List.foldl_cons]
    have npa : ∀ j, (σ.dec a).np j = if j = a then σ.np a - 1 else σ.np j := fun j => rfl
    have hca := hc a List.mem_cons_self
    rw [List.count_cons_self] at hca
    have hc' : ∀ j ∈ l, (l.count j : Int) ≤ (σ.dec a).np j := fun j hj => by
      have := hc j (List.mem_cons_of_mem _ hj)
      rw [npa, List.count_cons] at *
      by_cases h : j = a
      · subst h; simp at this ⊢; (lia -abstractProof)
      · have h' : ¬ a = j := fun q => h q.symm
        simp [h, h'] at this ⊢; (lia -abstractProof)
    by_cases h0 : σ.np a - 1 = 0
    · have hr' : (σ.dec a).ready = some (r ++ [a]) := by
        show (if σ.np a - 1 = 0 then σ.ready.map (· ++ [a]) else σ.ready) = _
        rw [if_pos h0, hr]; rfl
      obtain ⟨r', e1, e2, e3⟩ := ih (σ.dec a) _ hr' hc'
      have hl0 : l.count a = 0 := by (lia -abstractProof)
      have hal : a ∉ l := List.count_eq_zero.mp hl0
      refine ⟨a :: r', by rw [e1]; simp, List.nodup_cons.mpr ⟨fun q => hal ((e3 a).mp q).1, e2⟩, fun j => ?_⟩
      rw [List.mem_cons, e3 j, npa, List.mem_cons, List.count_cons]
      by_cases h : j = a
      · subst h; simp [hl0]; (lia -abstractProof)
      · have h' : ¬ a = j := fun q => h q.symm
        simp [h, h']
    · have hr' : (σ.dec a).ready = some r := by
        show (if σ.np a - 1 = 0 then σ.ready.map (· ++ [a]) else σ.ready) = _
        rw [if_neg h0, hr]
      obtain ⟨r', e1, e2, e3⟩ := ih (σ.dec a) _ hr' hc'
      refine ⟨r', e1, e2, fun j => ?_⟩
      rw [e3 j, npa, List.mem_cons, List.count_cons]
      by_cases h : j = a
      · subst h
        simp
        constructor
        · rintro ⟨q1, q2⟩; (lia -abstractProof)
        · intro q
          have : 0 < l.count j := by (lia -abstractProof)
          exact ⟨List.count_pos_iff.mp this, by (lia -abstractProof)⟩
      · have h' : ¬ a = j := fun q => h q.symm
        simp [h, h']
theorem indeg_zero {st : List (Int × Int)} {G : List Int} {k : Int} : indeg st G k = 0 ↔ ∀ q ∈ st, q.2 = k → q.1 ∈ G := by
  unfold indeg
  rw [List.length_eq_zero_iff, List.filter_eq_nil_iff]
  constructor
  · intro h q hq e
    have := h q hq
    simpa [e] using this
  · intro h q hq
    have := h q hq
    by_cases e : q.2 = k
    · simp [e, this e]
    · simp [e]
theorem countP_add {α : Type} {p p' r : α → Bool} (h : ∀ q, (p q).toNat = (p' q).toNat + (r q).toNat) (st : List α) : st.countP p = st.countP p' + st.countP r := by
  have e : ∀ b : Bool, (if b = true then 1 else 0) = b.toNat := fun b => by cases b <;> rfl
  induction st with
  | nil => rfl
  | cons q st ih => rw [List.countP_cons, List.countP_cons, List.countP_cons, ih, e, e, e, h q]; exact Nat.add_add_add_comm _ _ _ _
theorem indeg_more {a k : Int} {G : List Int} (ha : a ∉ G) {st : List (Int × Int)} : indeg st G k = indeg st (G ++ [a]) k + (sucs st a).count k := by
  unfold indeg sucs
  rw [List.count_eq_countP, List.countP_map, List.countP_filter, ← List.countP_eq_length_filter, ← List.countP_eq_length_filter]
  refine countP_add (fun q => ?_) st
  have h1 : (G ++ [a]).contains q.1 = (G.contains q.1 || q.1 == a) := by rw [List.contains_append]; exact congrArg _ (Bool.or_false _)
  show (q.2 == k && !G.contains q.1).toNat = (q.2 == k && !(G ++ [a]).contains q.1).toNat + (q.2 == k && q.1 == a).toNat
  rw [h1]
  cases hG : G.contains q.1 with
  | true =>
    have : (q.1 == a) = false := beq_eq_false_iff_ne.mpr fun e => ha (e ▸ List.contains_iff_mem.mp hG)
    rw [this]; cases (q.2 == k) <;> rfl
  | false => cases (q.2 == k) <;> cases (q.1 == a) <;> rfl
theorem out_np (l : List Int) : ∀ (f : Int → Int) (k : Int), (l.foldl (fun f k => updF f k (-1)) f) k = if k ∈ l then -1 else f k := by
  induction l with
  | nil => intro f k; simp
  | cons a l ih =>
    intro f k
    rw [List.foldl_cons, ih]
    by_cases h : k ∈ l
    · simp [h]
    · by_cases h' : k = a
      · subst h'; simp [h, updF_self]
      · simp [h, h', updF_ne h']
theorem sucs_mem {st : List (Int × Int)} {a j : Int} : j ∈ sucs st a ↔ (a, j) ∈ st := by
  unfold sucs
  rw [List.mem_map]
  constructor
  · rintro ⟨⟨x, y⟩, h, rfl⟩
    obtain ⟨h1, h2⟩ := List.mem_filter.mp h
    have : x = a := by simpa using h2
    subst this; exact h1
  · intro h
    exact ⟨(a, j), List.mem_filter.mpr ⟨h, by simp⟩, rfl⟩
theorem sucs_rep {st : List (Int × Int)} {a b k : Int} (c : Nat) : sucs (st ++ List.replicate c (a, b)) k = if a = k then sucs st k ++ List.replicate c b else sucs st k := by
  unfold sucs
  rw [List.filter_append, List.map_append, List.filter_replicate]
  by_cases h : a = k
  · subst h; simp
  · simp [h]
theorem indeg_rep {st : List (Int × Int)} {a b k : Int} (c : Nat) : indeg (st ++ List.replicate c (a, b)) [] k = indeg st [] k + if b = k then c else 0 := by
  unfold indeg
  rw [List.filter_append, List.length_append, List.filter_replicate]
  congr 1
  by_cases h : b = k
  · simp [h]
  · simp [h]
theorem told_same {σ : SS} {k : Int} (h : k ∈ σ.nodes) : σ.told k = σ := if_pos h
theorem told1_rep {b a : Int} (c : Nat) : ∀ σ : SS, a ∈ σ.nodes → (List.replicate c a).foldl (SS.told1 b) σ = { σ with su := updF σ.su a (σ.su a ++ List.replicate c b) } := by
  induction c with
  | zero =>
    intro σ _
    have : updF σ.su a (σ.su a ++ List.replicate 0 b) = σ.su := by
      funext j
      by_cases h : j = a
      · subst h; rw [updF_self]; simp
      · rw [updF_ne h]
    rw [this]; rfl
  | succ c ih =>
    intro σ h
    rw [List.replicate_succ, List.foldl_cons]
    have e : SS.told1 b σ a = { σ with su := updF σ.su a (σ.su a ++ [b]) } := by
      unfold SS.told1
      rw [told_same h]
    rw [e, ih { σ with su := updF σ.su a (σ.su a ++ [b]) } h]
    have : updF (updF σ.su a (σ.su a ++ [b])) a (updF σ.su a (σ.su a ++ [b]) a ++ List.replicate c b) = updF σ.su a (σ.su a ++ List.replicate (c + 1) b) := by
      funext j
      by_cases h : j = a
      · subst h; rw [updF_self, updF_self, updF_self, List.append_assoc, List.replicate_succ]; rfl
      · rw [updF_ne h, updF_ne h, updF_ne h]
    rw [this]
theorem Told.addN {st : List (Int × Int)} {σ : SS} (T : Told st σ) {a b : Int} (ha : a ∈ nodes4) (hb : b ∈ nodes4) (c : Nat) : Told (st ++ List.replicate c (a, b)) (σ.add b (List.replicate c a)) := by
  have e : σ.add b (List.replicate c a) = { σ with np := updF σ.np b (σ.np b + c), su := updF σ.su a (σ.su a ++ List.replicate c b) } := by
    unfold SS.add
    rw [told_same (by rw [T.nodes]; exact hb), List.length_replicate, told1_rep c _ (by show a ∈ σ.nodes; rw [T.nodes]; exact ha)]
  rw [e]
  refine ⟨T.nodes, fun k => ?_, fun k hk => ?_, T.ready, T.npo, T.nfi⟩
  · show updF σ.su a (σ.su a ++ List.replicate c b) k = _
    by_cases h : k = a
    · subst h
      rw [updF_self, T.su k, if_pos ha, if_pos ha, sucs_rep, if_pos rfl]
    · have h' : ¬ a = k := fun q => h q.symm
      rw [updF_ne h, T.su k, sucs_rep, if_neg h']
  · show updF σ.np b (σ.np b + c) k = _
    by_cases h : k = b
    · subst h
      rw [updF_self, T.np k hk, indeg_rep, if_pos rfl]; lia
    · have h' : ¬ b = k := fun q => h q.symm
      rw [updF_ne h, T.np k hk, indeg_rep, if_neg h']; lia
structure Wst (st : List (Int × Int)) (G W r : List Int) (σ : SS) : Prop where
  nodes : σ.nodes = nodes4
  su : ∀ k, σ.su k = if k ∈ nodes4 then sucs st k else []
  np : ∀ k ∈ nodes4, σ.np k = if k ∈ G then -2 else if k ∈ W then -1 else (indeg st G k : Int)
  ready : σ.ready = some r
  rnd : r.Nodup
  rmem : ∀ k, k ∈ r ↔ k ∈ nodes4 ∧ k ∉ G ∧ k ∉ W ∧ indeg st G k = 0
  npo : σ.npo = (G.length + W.length : Nat)
  nfi : σ.nfi = G.length
  gnd : G.Nodup
  gsub : ∀ k ∈ G, k ∈ nodes4
  wnd : W.Nodup
  wsub : ∀ k ∈ W, k ∈ nodes4 ∧ k ∉ G ∧ indeg st G k = 0
  closed : ∀ q ∈ st, q.2 ∈ G → q.1 ∈ G
section
variable {st : List (Int × Int)} {G W r : List Int} {σ : SS}
theorem Told.begin (T : Told st σ) : ∃ r, Wst st [] [] r σ.prep := by
  refine ⟨nodes4.filter fun k => σ.np k == 0, T.nodes, T.su, fun k hk => ?_, ?_, ?_, fun k => ?_, ?_, ?_, .nil, fun k hk => (nomatch hk), .nil, fun k hk => (nomatch hk), fun q hq h => (nomatch h)⟩
  · show σ.np k = _
    rw [T.np k hk]; simp
  · show some (σ.nodes.filter _) = _
    rw [T.nodes]
  · exact List.Pairwise.filter _ (by decide)
  · rw [List.mem_filter]
    constructor
    · rintro ⟨h1, h2⟩
      refine ⟨h1, by simp, by simp, ?_⟩
      rw [T.np k h1] at h2
      simpa using h2
    · rintro ⟨h1, h2, h3, h4⟩
      refine ⟨h1, ?_⟩
      rw [T.np k h1, h4]; rfl
  · exact T.npo
  · exact T.nfi
theorem Wst.out (K : Wst st G W r σ) : Wst st G (W ++ r) [] (σ.out r) := by
  refine ⟨K.nodes, K.su, fun k hk => ?_, rfl, .nil, fun k => ?_, ?_, K.nfi, K.gnd, K.gsub, ?_, fun k hk => ?_, K.closed⟩
  · show (r.foldl (fun f k => updF f k (-1)) σ.np) k = _
    rw [out_np, K.np k hk]
    by_cases h : k ∈ r
    · have h1 := ((K.rmem k).mp h).2.1
      rw [if_pos h, if_neg h1, if_pos (List.mem_append_right _ h)]
    · rw [if_neg h]
      by_cases h1 : k ∈ G
      · rw [if_pos h1, if_pos h1]
      · rw [if_neg h1, if_neg h1]
        by_cases h2 : k ∈ W
        · rw [if_pos h2, if_pos (List.mem_append_left _ h2)]
        · rw [if_neg h2, if_neg (fun q => (List.mem_append.mp q).elim h2 h)]
  · constructor
    · intro h; contradiction
    · rintro ⟨h1, h2, h3, h4⟩
      rw [List.mem_append, not_or] at h3
      exact absurd ((K.rmem k).mpr ⟨h1, h2, h3.1, h4⟩) h3.2
  · show σ.npo + r.length = _
    rw [K.npo, List.length_append]; lia
  · rw [List.nodup_append]
    exact ⟨K.wnd, K.rnd, fun x hx y hy e => ((K.rmem y).mp hy).2.2.1 (e ▸ hx)⟩
  · rcases List.mem_append.mp hk with h | h
    · exact K.wsub k h
    · obtain ⟨h1, h2, h3, h4⟩ := (K.rmem k).mp h
      exact ⟨h1, h2, h4⟩
theorem Wst.fin (hst : ∀ q ∈ st, q.1 ∈ nodes4 ∧ q.2 ∈ nodes4) (K : Wst st G W [] σ) {a : Int} {W' : List Int} (ha : a ∈ W) (hn : W'.Nodup) (hm : ∀ k, k ∈ W' ↔ k ∈ W ∧ k ≠ a) (hl : W'.length + 1 = W.length) : ∃ r', Wst st (G ++ [a]) W' r' (σ.fin a) := by
  obtain ⟨a1, a2, a3⟩ := K.wsub a ha
  have sj : ∀ j ∈ sucs st a, j ∈ nodes4 ∧ j ∉ G ∧ j ∉ W := fun j hj => by
    have hq := sucs_mem.mp hj
    refine ⟨(hst _ hq).2, fun q => a2 (K.closed _ hq q), fun q => a2 ?_⟩
    exact indeg_zero.mp (K.wsub j q).2.2 _ hq rfl
  have sja : ∀ j ∈ sucs st a, j ≠ a := fun j hj q => (sj j hj).2.2 (q ▸ ha)
  have hsu : σ.su a = sucs st a := by rw [K.su a, if_pos a1]
  have hnpj : ∀ j ∈ sucs st a, updF σ.np a (-2) j = (indeg st G j : Int) := fun j hj => by
    rw [updF_ne (sja j hj), K.np j (sj j hj).1, if_neg (sj j hj).2.1, if_neg (sj j hj).2.2]
  have more : ∀ j, indeg st G j = indeg st (G ++ [a]) j + (sucs st a).count j := fun j => indeg_more a2
  obtain ⟨r2, e1, e2, e3⟩ := dec_ready (sucs st a) { σ with np := updF σ.np a (-2) } [] K.ready (fun j hj => by
    show _ ≤ updF σ.np a (-2) j
    rw [hnpj j hj]
    have := more j
    lia)
  have hdf := dec_fold (sucs st a) { σ with np := updF σ.np a (-2) }
  have e3' : ∀ j, j ∈ r2 ↔ j ∈ sucs st a ∧ indeg st (G ++ [a]) j = 0 := fun j => by
    rw [e3 j]
    constructor
    · rintro ⟨h1, h2⟩
      refine ⟨h1, ?_⟩
      have h2 : updF σ.np a (-2) j = _ := h2
      rw [hnpj j h1] at h2
      have := more j
      lia
    · rintro ⟨h1, h2⟩
      refine ⟨h1, ?_⟩
      show updF σ.np a (-2) j = _
      rw [hnpj j h1]
      have := more j
      lia
  have efin : σ.fin a = { (sucs st a).foldl SS.dec { σ with np := updF σ.np a (-2) } with nfi := σ.nfi + 1 } := by unfold SS.fin; rw [hsu]
  rw [efin]
  refine ⟨r2, ?_, ?_, ?_, e1, e2, ?_, ?_, ?_, ?_, ?_, hn, ?_, ?_⟩
  · exact hdf.1.trans K.nodes
  · intro k
    show ((sucs st a).foldl SS.dec { σ with np := updF σ.np a (-2) }).su k = _
    rw [hdf.2.1]; exact K.su k
  · intro k hk
    show ((sucs st a).foldl SS.dec { σ with np := updF σ.np a (-2) }).np k = _
    rw [dec_np]
    show updF σ.np a (-2) k - _ = _
    by_cases h : k = a
    · subst h
      have hc : (sucs st k).count k = 0 := List.count_eq_zero.mpr fun q => sja k q rfl
      rw [updF_self, hc, if_pos (by simp)]; rfl
    · rw [updF_ne h, K.np k hk]
      by_cases h1 : k ∈ G
      · have hc : (sucs st a).count k = 0 := List.count_eq_zero.mpr fun q => (sj k q).2.1 h1
        rw [hc, if_pos h1, if_pos (List.mem_append_left _ h1)]; rfl
      · have h1' : k ∉ G ++ [a] := by
          rw [List.mem_append]
          rintro (q | q)
          · exact h1 q
          · exact h (List.mem_singleton.mp q)
        rw [if_neg h1, if_neg h1']
        by_cases h2 : k ∈ W
        · have hc : (sucs st a).count k = 0 := List.count_eq_zero.mpr fun q => (sj k q).2.2 h2
          rw [hc, if_pos h2, if_pos ((hm k).mpr ⟨h2, h⟩)]; rfl
        · rw [if_neg h2, if_neg fun q => h2 ((hm k).mp q).1]
          have := more k
          lia
  · intro k
    rw [e3' k]
    have hk := more k
    constructor
    · rintro ⟨h1, h2⟩
      obtain ⟨s1, s2, s3⟩ := sj k h1
      refine ⟨s1, ?_, fun q => s3 ((hm k).mp q).1, h2⟩
      rw [List.mem_append, List.mem_singleton]
      rintro (q | q)
      · exact s2 q
      · exact sja k h1 q
    · rintro ⟨h1, h2, h3, h4⟩
      rw [List.mem_append, List.mem_singleton, not_or] at h2
      refine ⟨Classical.byContradiction fun hs => ?_, h4⟩
      have hc := List.count_eq_zero.mpr hs
      have hw : k ∉ W := fun q => h3 ((hm k).mpr ⟨q, h2.2⟩)
      have := (K.rmem k).mpr ⟨h1, h2.1, hw, by lia⟩
      contradiction
  · show ((sucs st a).foldl SS.dec { σ with np := updF σ.np a (-2) }).npo = _
    rw [hdf.2.2.1]
    show σ.npo = _
    rw [K.npo, List.length_append, List.length_singleton]; lia
  · show σ.nfi + 1 = _
    rw [K.nfi, List.length_append]; rfl
  · rw [List.nodup_append]
    refine ⟨K.gnd, by simp, fun x hx y hy e => ?_⟩
    rw [List.mem_singleton] at hy
    subst hy e
    exact a2 hx
  · intro k hk
    rcases List.mem_append.mp hk with h | h
    · exact K.gsub k h
    · rw [List.mem_singleton] at h; exact h ▸ a1
  · intro k hk
    obtain ⟨h1, h2⟩ := (hm k).mp hk
    obtain ⟨s1, s2, s3⟩ := K.wsub k h1
    refine ⟨s1, ?_, ?_⟩
    · rw [List.mem_append, List.mem_singleton]
      rintro (q | q)
      · exact s2 q
      · exact h2 q
    · have := more k
      lia
  · intro q hq h
    rcases List.mem_append.mp h with h | h
    · exact List.mem_append_left _ (K.closed q hq h)
    · rw [List.mem_singleton] at h
      exact List.mem_append_left _ (indeg_zero.mp a3 q hq h)
end
section
variable {K : Frag} {h : Heap} {P : Addr → Prop} (kk : ∀ a o, K.lookup a = some o → h.get? a = some o ∧ P a)
include kk
theorem tupK (a : Addr) (vs : List Value) {ds : List PyData} (e : K.lookup a = some { cls := .type "tuple", data := .seq vs.toArray }) (r : RlAll h P ds vs) : Rl h P (.tuple ds) (.ref a) := ⟨a, vs.toArray, 0, rfl, (kk _ _ e).2, (kk _ _ e).1, r⟩
theorem pairK {i : Int} {x : String} (a : Addr) (t u : Nat) (e : K.lookup a = some { cls := .type "tuple", data := .seq [Value.int i t, .str (Str.ofString x) u].toArray }) : Rl h P (.tuple [.int i, .str (Str.ofString x)]) (.ref a) := tupK kk a _ e ⟨_, _, rfl, ⟨t, rfl⟩, _, _, rfl, ⟨u, rfl⟩, rfl⟩
end
theorem rlc {h : Heap} {P : Addr → Prop} {d : PyData} {v : Value} {ds : List PyData} {vs : List Value} (r : Rl h P d v) (rs : RlAll h P ds vs) : RlAll h P (d :: ds) (v :: vs) := ⟨v, vs, rfl, r, rs⟩
noncomputable abbrev Tbl := List (List (Int × Str))
noncomputable def rowD (r : List (Int × Str)) : PyData := .tuple (r.map fun p => .tuple [.int p.1, .str p.2])
noncomputable def tbl : Tbl := [[(40960, "l"), (49152, "s"), (32768, "-"), (24576, "b"), (16384, "d"), (8192, "c"), (4096, "p")], [(256, "r")], [(128, "w")], [(2112, "s"), (2048, "S"), (64, "x")], [(32, "r")], [(16, "w")], [(1032, "s"), (1024, "S"), (8, "x")], [(4, "r")], [(2, "w")], [(513, "t"), (512, "T"), (1, "x")]]
noncomputable def hitF (mode : Int) (i : Nat) (b : Int) : Bool := if i = 0 then Builtin.bitAnd mode 61440 == b else Builtin.bitAnd mode b == b
noncomputable def pickF (mode : Int) (i : Nat) (r : List (Int × Str)) : Str := match r.find? fun p => hitF mode i p.1 with
  | some p => p.2
  | none => if i = 0 then "?" else "-"
noncomputable def picksF (mode : Int) : Nat → Tbl → List Str
  | _, [] => []
  | i, r :: rs => pickF mode i r :: picksF mode (i + 1) rs
theorem picksF_take {mode : Int} : ∀ (j i : Nat) (rs : Tbl) (r : List (Int × Str)), rs[i]? = some r → picksF mode j (rs.take (i + 1)) = picksF mode j (rs.take i) ++ [pickF mode (j + i) r]
  | _, _, [], _, h => by simp at h
  | j, 0, r' :: rs, r, h => by simp at h; subst h; simp [picksF]
  | j, i + 1, r' :: rs, r, h => by
    simp only [List.getElem?_cons_succ] at h
    have := picksF_take (mode := mode) (j + 1) i rs r h
    simp only [List.take_succ_cons, picksF, this, List.cons_append]
    rw [show j + 1 + i = j + (i + 1) from by omega]
theorem find_at {α : Type} {f : α → Bool} : ∀ {r : List α} {j : Nat} {p : α}, (∀ q ∈ r.take j, f q = false) → r[j]? = some p → f p = true → r.find? f = some p
  | [], _, _, _, h, _ => by simp at h
  | x :: r, 0, p, _, h, hf => by simp at h; subst h; simp [hf]
  | x :: r, j + 1, p, k, h, hf => by
    rw [List.find?_cons, k x (by simp)]
    exact find_at (j := j) (fun q hq => k q (by rw [List.take_succ_cons]; exact List.mem_cons_of_mem _ hq)) (by simpa using h) hf
theorem find_no {α : Type} {f : α → Bool} {r : List α} (k : ∀ q ∈ r, f q = false) : r.find? f = none := by
  rw [List.find?_eq_none]; intro q hq; rw [k q hq]; simp
theorem picksF_len {mode : Int} : ∀ (j : Nat) (rs : Tbl), (picksF mode j rs).length = rs.length
  | _, [] => rfl
  | j, _ :: rs => by simp [picksF, picksF_len (j + 1) rs]
theorem W1_tbl (w : World) (base : Heap) : (W1 w base).G (Str.ofString "_filemode_table") = some (.ref 68) := by kernel_rfl
theorem tbl_rl (w : World) {h : Heap} {P : Addr → Prop} (kk : ∀ a o, (KK w.params).lookup a = some o → h.get? a = some o ∧ P a) : Rl h P (.tuple (tbl.map rowD)) (.ref 68) :=
  tupK kk 68 [.ref 43, .ref 45, .ref 47, .ref 51, .ref 53, .ref 55, .ref 59, .ref 61, .ref 63, .ref 67] (by kernel_rfl) (rlc (tupK kk 43 [.ref 36, .ref 37, .ref 38, .ref 39, .ref 40, .ref 41, .ref 42] (by kernel_rfl) (rlc (pairK kk 36 229 257 (by kernel_rfl)) (rlc (pairK kk 37 231 258 (by kernel_rfl)) (rlc (pairK kk 38 225 259 (by kernel_rfl)) (rlc (pairK kk 39 223 260 (by kernel_rfl)) (rlc (pairK kk 40 219 261 (by kernel_rfl)) (rlc (pairK kk 41 221 262 (by kernel_rfl)) (rlc (pairK kk 42 227 263 (by kernel_rfl)) rfl))))))))
    (rlc (tupK kk 45 [.ref 44] (by kernel_rfl) (rlc (pairK kk 44 239 264 (by kernel_rfl)) rfl))
    (rlc (tupK kk 47 [.ref 46] (by kernel_rfl) (rlc (pairK kk 46 241 265 (by kernel_rfl)) rfl))
    (rlc (tupK kk 51 [.ref 48, .ref 49, .ref 50] (by kernel_rfl) (rlc (pairK kk 48 266 267 (by kernel_rfl)) (rlc (pairK kk 49 233 268 (by kernel_rfl)) (rlc (pairK kk 50 243 269 (by kernel_rfl)) rfl))))
    (rlc (tupK kk 53 [.ref 52] (by kernel_rfl) (rlc (pairK kk 52 245 270 (by kernel_rfl)) rfl))
    (rlc (tupK kk 55 [.ref 54] (by kernel_rfl) (rlc (pairK kk 54 247 271 (by kernel_rfl)) rfl))
    (rlc (tupK kk 59 [.ref 56, .ref 57, .ref 58] (by kernel_rfl) (rlc (pairK kk 56 272 273 (by kernel_rfl)) (rlc (pairK kk 57 235 274 (by kernel_rfl)) (rlc (pairK kk 58 249 275 (by kernel_rfl)) rfl))))
    (rlc (tupK kk 61 [.ref 60] (by kernel_rfl) (rlc (pairK kk 60 251 276 (by kernel_rfl)) rfl))
    (rlc (tupK kk 63 [.ref 62] (by kernel_rfl) (rlc (pairK kk 62 253 277 (by kernel_rfl)) rfl))
    (rlc (tupK kk 67 [.ref 64, .ref 65, .ref 66] (by kernel_rfl) (rlc (pairK kk 64 278 279 (by kernel_rfl)) (rlc (pairK kk 65 237 280 (by kernel_rfl)) (rlc (pairK kk 66 255 281 (by kernel_rfl)) rfl))))
    rfl))))))))))
set_option maxHeartbeats 4000000 in
theorem con_filemode (w : World) (base : Heap) (mode : Int) : Con (W1 w base) 4 (.ref 75) [.int mode] (.str (Txt.join (Str.ofString "") (picksF mode 0 tbl))) := by
  refine Con.of (fn_filemode w base) rfl ?_
  dsimp only [List.zip, List.zipWith, List.map, List.append_nil, List.cons_append, List.nil_append]
  refine Ex.cons (Ex1.assign_nil locOk (by k_extra "upd") ?_)
  refine Ex.cons (Ex1.forS (σ := List Str) (ItS.enum_tuple (by kernel_rfl) (gn_enumerate w base) (by kernel_rfl) (Ev.kref (d := .tuple (tbl.map rowD)) (by kernel_rfl) (W1_tbl w base) (fun h P k => tbl_rl w k)))
    (fun ps => [(Str.ofString "mode", .sh (.int mode)), (Str.ofString "perm", .l1 (ps.map .str)), (Str.ofString "index", .un), (Str.ofString "table", .un), (Str.ofString "bit", .un), (Str.ofString "char", .un)])
    (fun i ps => ps = picksF mode 0 (tbl.take i)) [] rfl (by dsimp only [List.map]; k_extra "fgt") ?_ ?_)
  · rintro i d ps hd rfl
    obtain ⟨x, hx, rfl⟩ := enumD_inv 0 i _ d hd
    rw [List.getElem?_map] at hx
    obtain ⟨r, hr, rfl⟩ := Option.map_eq_some_iff.mp hx
    rw [Nat.zero_add]
    have hil : i < 10 := (List.getElem?_eq_some_iff.mp hr).1
    have hpl : (picksF mode 0 (tbl.take i)).length ≤ 10 := by rw [picksF_len]; simp; (lia -abstractProof)
    have hsz : ((picksF mode 0 (tbl.take i)).map PyData.str).length ≤ sizeLine := by
      rw [List.length_map]
      exact Nat.le_trans hpl (by decide)
    have done : ∀ (c : Str) (q1 q2 q3 q4 : B), c = pickF mode i r → ∃ s, s = picksF mode 0 (tbl.take (i + 1)) ∧ Fgt [(Str.ofString "mode", .sh (.int mode)), (Str.ofString "perm", .l1 ((picksF mode 0 (tbl.take i)).map .str ++ [.str c])), (Str.ofString "index", q1), (Str.ofString "table", q2), (Str.ofString "bit", q3), (Str.ofString "char", q4)]
        ((fun ps => [(Str.ofString "mode", B.sh (.int mode)), (Str.ofString "perm", .l1 (ps.map .str)), (Str.ofString "index", .un), (Str.ofString "table", .un), (Str.ofString "bit", .un), (Str.ofString "char", .un)]) s) := by
      intro c q1 q2 q3 q4 hc
      refine ⟨_, rfl, ?_⟩
      have e := picksF_take (mode := mode) 0 i tbl r hr
      rw [Nat.zero_add] at e
      rw [e, hc]
      simp only [List.map_append, List.map_cons, List.map_nil]
      exact .same (.same (.un (.un (.un (.un .nil)))))
    refine ⟨_, Asg.tuple (AsgAll.cons (Asg.name locOk (by k_extra "upd")) (AsgAll.cons (Asg.name locOk (by k_extra "upd")) AsgAll.nil)), ?_⟩
    refine Ex.cons (Ex1.forS (σ := Unit) (It.tuple (ds := r.map fun p => .tuple [.int p.1, .str p.2]) (Ev.name (d := rowD r) (by k_extra "mem"))).s
      (fun _ => [(Str.ofString "mode", .sh (.int mode)), (Str.ofString "perm", .l1 ((picksF mode 0 (tbl.take i)).map .str)), (Str.ofString "index", .sh (.int i)), (Str.ofString "table", .sh (rowD r)), (Str.ofString "bit", .un), (Str.ofString "char", .un)])
      (fun j _ => ∀ p ∈ r.take j, hitF mode i p.1 = false) () (by intro p hp; simp at hp) (by k_extra "fgt") ?_ ?_)
    · rintro j d ⟨⟩ hd hj
      rw [List.getElem?_map] at hd
      obtain ⟨p, hp, rfl⟩ := Option.map_eq_some_iff.mp hd
      have hit : hitF mode i p.1 = true → p.2 = pickF mode i r := fun h => by
        unfold pickF
        rw [find_at hj hp h]
      have miss : hitF mode i p.1 = false → ∀ q ∈ r.take (j + 1), hitF mode i q.1 = false := fun h q hq => by
        rw [List.take_add_one, hp] at hq
        rcases List.mem_append.mp hq with hq | hq
        · exact hj q hq
        · simp at hq; rw [hq]; exact h
      refine ⟨_, Asg.tuple (AsgAll.cons (Asg.name locOk (by k_extra "upd")) (AsgAll.cons (Asg.name locOk (by k_extra "upd")) AsgAll.nil)), ?_⟩
      refine Ex.cons (Ex1.ifs (EvT.cmp (Ev.eq_int (by k_extra "ev") (by k_extra "ev"))) (fun hb => ?_) fun hb => ?_)
      · have hi0 : i = 0 := by simpa using hb
        refine Ex.cons (Ex1.ifs (EvT.cmp (Ev.eq_int (Ev.callF (fn_ifmt w base) (by kernel_rfl) (g_S_IFMT w base) (by k_extra "eva") (con_ifmt w base mode)) (by k_extra "ev"))) (fun hb => ?_) fun hb => ?_)
        · refine Ex.cons (Ex1.append (d := .str p.2) (by k_extra "mem") (by k_extra "ev") hsz (by k_extra "upd") (Ex.cons (Ex1.brk ?_)))
          exact Ex.nil (done _ _ _ _ _ (hit (by unfold hitF; rw [if_pos hi0]; exact hb)))
        · exact Ex.nil (Ex.nil (Ex.nil ⟨(), miss (by unfold hitF; rw [if_pos hi0]; exact hb), by k_extra "fgt"⟩))
      · have hi0 : i ≠ 0 := by simpa using hb
        refine Ex.cons (Ex1.ifs (EvT.cmp (Ev.eq_int (Ev.band (by k_extra "ev") (by k_extra "ev")) (by k_extra "ev"))) (fun hb => ?_) fun hb => ?_)
        · refine Ex.cons (Ex1.append (d := .str p.2) (by k_extra "mem") (by k_extra "ev") hsz (by k_extra "upd") (Ex.cons (Ex1.brk ?_)))
          exact Ex.nil (done _ _ _ _ _ (hit (by unfold hitF; rw [if_neg hi0]; exact hb)))
        · exact Ex.nil (Ex.nil (Ex.nil ⟨(), miss (by unfold hitF; rw [if_neg hi0]; exact hb), by k_extra "fgt"⟩))
    · rintro ⟨⟩ hj
      rw [List.length_map, List.take_length] at hj
      have hno := find_no (f := fun p : Int × Str => hitF mode i p.1) (r := r) hj
      refine Ex.cons (Ex1.ifs (EvT.cmp (Ev.eq_int (by k_extra "ev") (by k_extra "ev"))) (fun hb => ?_) fun hb => ?_)
      · have hi0 : i = 0 := by simpa using hb
        refine Ex.cons (Ex1.append (d := .str (Str.ofString "?")) (by k_extra "mem") (by k_extra "ev") hsz (by k_extra "upd") (Ex.nil (Ex.nil (Ex.nil ?_))))
        exact done _ _ _ _ _ (by unfold pickF; rw [hno]; exact (if_pos hi0).symm)
      · have hi0 : i ≠ 0 := by simpa using hb
        refine Ex.cons (Ex1.append (d := .str (Str.ofString "-")) (by k_extra "mem") (by k_extra "ev") hsz (by k_extra "upd") (Ex.nil (Ex.nil (Ex.nil ?_))))
        exact done _ _ _ _ _ (by unfold pickF; rw [hno]; exact (if_neg hi0).symm)
  · rintro ps rfl
    have e : tbl.take (enumD 0 (tbl.map rowD)).length = tbl := by rw [enumD_len, List.length_map]; exact List.take_length
    rw [e]
    refine Ex.nil ?_
    refine Ex.freeze (x := Str.ofString "perm") (by k_extra "mem") (by k_extra "upd") ?_
    dsimp only [B.frozen]
    refine Ex.cons (Ex1.ret (Ev.meth (d₀ := .str (Str.ofString "")) Ev.const_str (EvAll.cons (Ev.name (d := .list ((picksF mode 0 tbl).map .str)) (by k_extra "mem")) EvAll.nil) PySem.F.plainAttrs_str PySem.F.slot_str_join PySem.F.type_str_join (Con.join (ht := 0) ?_)) rfl)
    have hw : ∀ (j : Nat) (rs : Tbl), (∀ r ∈ rs, ∀ p ∈ r, p.2.length = 1) → ((picksF mode j rs).map (·.length)).sum = rs.length := by
      intro j rs
      induction rs generalizing j with
      | nil => intro _; rfl
      | cons r rs ih =>
        intro k
        have h1 : (pickF mode j r).length = 1 := by
          unfold pickF
          split
          · rename_i p hp; exact k r (by simp) p (List.mem_of_find?_eq_some hp)
          · split <;> decide +kernel
        simp only [picksF, List.map_cons, List.sum_cons, h1, ih (j + 1) (fun r hr => k r (by simp [hr])), List.length_cons]
        (lia -abstractProof)
    rw [hw 0 tbl (by decide +kernel), picksF_len]
    decide +kernel
section
variable {W : Wrld} {ht ht' : Nat} {sc : Scope} {ρ ρ' ρ'' : Vars} {obs : Obs} {Post : Out → Prop} {A : Around} {env : Env} {base : Heap} {reg : Reg} {s s' : Shared} {x y : Str} {root : Addr} {m m' : HM}
end
section
variable {W : Wrld} {ht ht' : Nat} {sc : Scope} {ρ ρ' : Vars} {obs : Obs} {Post : Out → Prop}
end
noncomputable def EvP (W : Wrld) (ht : Nat) (sc : Scope) (ρ : Vars) (obs : Obs) (e : Expr) (R : PyData → Prop) : Prop :=
  ∀ ⦃A : Around⦄ ⦃env : Env⦄ ⦃base : Heap⦄ ⦃reg : Reg⦄ ⦃s : Shared⦄ ⦃Q : Value → Shared → Prop⦄ ⦃E : Value → Shared → Prop⦄, Here W ht sc ρ obs A env base reg s →
    (∀ d s' v, R d → Ext (Loose reg) s s' → Rl s'.heap (Sh reg) d v → Q v s') → wpAny W.M A (eval e env) Q E s
section
variable {W : Wrld} {ht ht' : Nat} {sc : Scope} {ρ ρ' : Vars} {obs : Obs} {Post : Out → Prop}
theorem EvP.callF {x : Str} {p pos : Pos} {args : List Expr} {a : Addr} {fd : FuncData} {sc' : Scope} {body : List Stmt} {ps ls : List Str} {ds : List PyData} {R : PyData → Prop} (F : FnOk W a fd sc' body ps ls) (hx : sc.names.lookup x = some .globalImplicit) (hf : W.G x = some (.ref a))
    (ha : EvAll W ht sc ρ obs args ds) (hc : ConP W ht' (.ref a) ds R) (hh : ht' ≤ ht := by omega) (hne : args ≠ [] := by decide) (hd : (x == ("__debug__" : Str)) = false := by decide) : EvP W ht sc ρ obs (.Call (.Name x p) args [] pos) R := by
  obtain ⟨o, ho, hdat⟩ := F.at_
  intro A env base reg s Q E H hQ
  obtain ⟨y, r, e⟩ := (ha.1 env pos).2 hne
  refine Call_Name (trees := (false, y) :: r) e (name_global H hx hf (callWith_function (fd := fd) (o := o) (evalArgs_plain ?_)) hd)
  rw [← e]
  exact ha.2 pos H fun s₁ vs x₁ r₁ => ⟨⟨(H.ext x₁).ok.k _ _ ho, hdat⟩, hc ((H.ext x₁).call.less hh) (H.ext x₁).pok (H.ext x₁).pno r₁ fun d s' v hR x₂ r₂ => hQ d s' v hR (x₁.trans (x₂.mono fun _ => (H.ext x₁).loose)) r₂⟩
end
section
variable {W : Wrld} {ht ht' : Nat} {sc : Scope} {ρ ρ' ρ'' : Vars} {obs : Obs} {Post : Out → Prop} {A : Around} {env : Env} {base : Heap} {reg : Reg} {s s' : Shared} {x y : Str} {root : Addr} {m m' : HM}
theorem Rl.step {reg reg' : Reg} {s s' : Shared} (st : Step reg s reg' s') {d : PyData} {v : Value} (r : Rl s.heap (Sh reg) d v) : Rl s'.heap (Sh reg') d v :=
  Rl.mono (fun a o q g => (st.exact g (.inl q)).imp id fun z => z.trans q) d v r
end
mutual
noncomputable def okd : PyData → Bool
  | .none | .bool _ | .int _ | .str _ => true
  | .list xs => okds xs
  | .tuple xs => okds xs
  | .dict _ => false
noncomputable def okds : List PyData → Bool
  | [] => true
  | x :: xs => okd x && okds xs
end
mutual
theorem eqv_refl : ∀ d : PyData, okd d = true → PyData.eqv d d = true
  | .none, _ => rfl
  | .bool b, _ => by simp [PyData.eqv]
  | .int i, _ => by simp [PyData.eqv]
  | .str x, _ => by simp [PyData.eqv]
  | .list xs, h => eqvs_refl xs (by simpa [okd] using h)
  | .tuple xs, h => eqvs_refl xs (by simpa [okd] using h)
  | .dict _, h => by simp [okd] at h
theorem eqvs_refl : ∀ xs : List PyData, okds xs = true → PyData.eqvAll xs xs = true
  | [], _ => rfl
  | x :: xs, h => by
    simp only [okds, Bool.and_eq_true] at h
    simp only [PyData.eqvAll, Bool.and_eq_true]
    exact ⟨eqv_refl x h.1, eqvs_refl xs h.2⟩
end
theorem okds_map {α : Type} {f : α → PyData} (h : ∀ a, okd (f a) = true) : ∀ l : List α, okds (l.map f) = true
  | [] => rfl
  | a :: l => by simp only [List.map_cons, okds, h a, okds_map h l, Bool.and_self]
theorem okd_ints (l : List Int) : okd (.list (l.map .int)) = true := okds_map (fun _ => rfl) l
section
variable {W : Wrld} {ht ht' : Nat} {sc : Scope} {ρ ρ' ρ'' : Vars} {obs : Obs} {Post : Out → Prop} {A : Around} {env : Env} {base : Heap} {reg : Reg} {s s' : Shared}
theorem hits_same {h : Heap} {P : Addr → Prop} (hs : s.heap = h) {kvs' : List (Int × PyData)} {us' : List Value} (l' : us'.length = kvs'.length) (r' : RlAll h P (kvs'.map (·.2)) us') (hu : A.in1.units + 64 < cLine)
    {kvs : List (Int × PyData)} {us : List Value} (l : us.length = kvs.length) (r : RlAll h P (kvs.map (·.2)) us) (k : ∀ p ∈ kvs, ∃ d', kvs'.lookup p.1 = some d' ∧ PyData.eqv p.2 d' = true ∧ SeqAt.shaped p.2 = true ∧ SeqAt.shaped d' = true) :
      KeqHits A.in1 s ((kvs'.map (·.1)).zip us') ((kvs.map (·.1)).zip us) true := by
  subst hs
  induction kvs generalizing us with
  | nil => exact List.eq_nil_of_length_eq_zero l ▸ .nil
  | cons q kvs ih =>
    obtain ⟨v, vs, rfl, rv, rs⟩ := r
    obtain ⟨d', h1, h2, h3, h4⟩ := k _ List.mem_cons_self
    obtain ⟨y, hy, ry⟩ := valueAt_zip l' r' h1
    obtain ⟨_, q₁, _⟩ := rv.reads
    obtain ⟨_, q₂, _⟩ := ry.reads
    have e := keq_at (A := A) q₁ q₂ h3 h4 hu
    rw [h2] at e
    exact KeqHits.hit (b := true) (e := true) hy e (ih (Nat.succ.inj l) (fun p hp => k p (List.mem_cons_of_mem _ hp)) rs)
theorem ne_sysm {a : Addr} (h : a ≠ sysModules) : (a == sysModules) = false := by simpa using h
theorem Ev.ne_dict {l r : Expr} {pos : Pos} {kvs kvs' : List (Int × PyData)} (hl : Ev W ht sc ρ obs l (.dict (kvData kvs))) (hr : Ev W ht sc ρ obs r (.dict (kvData kvs'))) (nd : (kvs.map (·.1)).Nodup) (nd' : (kvs'.map (·.1)).Nodup) (hlen : kvs.length = kvs'.length)
    (k : ∀ p ∈ kvs, ∃ d', kvs'.lookup p.1 = some d' ∧ PyData.eqv p.2 d' = true ∧ SeqAt.shaped p.2 = true ∧ SeqAt.shaped d' = true) (hm : behindInMarks .NotEq r = false := by with_unfolding_all rfl) : Ev W ht sc ρ obs (.Compare l [.NotEq] [r] pos) (.bool false) :=
  hl.cmp hr (fun m r₁ r₂ hQ => by
    obtain ⟨a, es, n, rfl, p, na, g, q⟩ := r₁
    obtain ⟨a', es', n', rfl, p', na', g', q'⟩ := r₂
    obtain ⟨us, hl, D, rv⟩ := dict_of (prog := W.prog) (w := W.w) g nd q
    obtain ⟨us', hl', D', rv'⟩ := dict_of (prog := W.prog) (w := W.w) g' nd' q'
    refine keq_ne (r := true) (ne_sysm na) (ne_sysm na') D D' (by have := m.units; lia) (fun _ => hits_same rfl hl' rv' (by have := m.units; simp only [Around.in1]; lia) hl rv k) ?_
    have e : ((kvs.map (·.1)).zip us).length = ((kvs'.map (·.1)).zip us').length := by simp [hl, hl', hlen]
    rw [e, beq_self_eq_true, Bool.true_and]
    exact hQ _ (Ext.refl _)) hm
end
section
variable {W : Wrld} {ht ht' : Nat} {sc : Scope} {ρ ρ' ρ'' : Vars} {obs : Obs} {Post : Out → Prop} {A : Around} {env : Env} {base : Heap} {reg : Reg} {s s' : Shared} {x y : Str} {root : Addr} {m m' : HM}
theorem callO_code {f : Addr} {ds : List PyData} {MP : MO → Prop} {P : Rs → Prop} {Q E : Value → Shared → Prop} {s₀ : Shared} {reg₀ : Reg} (st₀ : Step reg₀ s₀ reg s) (H : Here W ht sc ρ obs A env base reg s) (hy : (y, .ow (RM root m)) ∈ ρ)
    (hc : Mth W ht' (.ref f) root m ds MP) (hh : ht' ≤ ht) (hp : ∀ mo, MP mo → RsOf ρ y root P mo)
    (hQ : ∀ r s' reg' v, P r → Step reg₀ s₀ reg' s' → RsAt W ht sc obs A env base reg' s' r v → RsQ Q E r v s') {vs : List Value} (r : RlAll s.heap (Sh reg) ds vs) : codeAny W.M A (.call (.ref f) ⟨.ref root :: vs, []⟩) (RQ Q E) s := by
  obtain ⟨v, V, e, rm⟩ := H.at hy
  refine hc (H.call.less hh) H.pok H.pno (fun a (q : reg a = .va y) => ⟨(fun z => by rw [show reg a = .sh from z] at q; contradiction), fun z => ?_, ?_⟩) rm r fun mo s' r O' X' hmo xo hm => H.came st₀ hy xo hm (hp mo hmo) hQ
  · rcases H.loose z with w | w <;> rw [q] at w <;> contradiction
  · cases z : s.heap.get? a with
    | some o => exact ⟨o, rfl⟩
    | none => rw [H.sta.high a z] at q; contradiction
structure BoundIn (K : Frag) (C : Addr) (name : Str) (f : Addr) : Prop where
  dict : hasDictIn K C = true
  get : specialIn K (.ref f) "__get__" = some (some (.builtin "function.__get__"))
  takes : takesIn K (.ref f) = some false
  fn : fnIn K f = true
  name : copiedNames.contains name = false
end
structure ShD (n : Nat) (d : PyData) : Prop where
  lay : d.canLay0 = true
  dep : d.depth ≤ n
theorem ShD.int {n : Nat} {i : Int} : ShD n (.int i) := ⟨by simp only [PyData.canLay0], by simp only [PyData.depth]; (lia -abstractProof)⟩
theorem ShD.str {n : Nat} {x : Str} (h : PyData.strOk x = true) : ShD n (.str x) := ⟨by simp only [PyData.canLay0]; exact h, by simp only [PyData.depth]; lia⟩
theorem ShD.all {n : Nat} : ∀ {xs : List PyData}, (∀ x ∈ xs, ShD n x) → PyData.canLayAll0 xs = true ∧ PyData.depthAll xs ≤ n
  | [], _ => ⟨by simp only [PyData.canLayAll0], by simp only [PyData.depthAll]; (lia -abstractProof)⟩
  | x :: xs, h => by
    obtain ⟨a, b⟩ := ShD.all fun y hy => h y (List.mem_cons_of_mem _ hy)
    have c := h x List.mem_cons_self
    refine ⟨by simp only [PyData.canLayAll0, c.lay, a, Bool.and_self], ?_⟩
    simp only [PyData.depthAll]
    have := c.dep
    (lia -abstractProof)
theorem ShD.list {n : Nat} {xs : List PyData} (h : ∀ x ∈ xs, ShD n x) : ShD (n + 1) (.list xs) := by
  obtain ⟨a, b⟩ := ShD.all h
  exact ⟨by simp only [PyData.canLay0]; exact a, by simp only [PyData.depth]; lia⟩
theorem ShD.ints (l : List Int) : ShD 1 (.list (l.map .int)) := ShD.list fun x hx => by
  obtain ⟨i, _, rfl⟩ := List.mem_map.mp hx
  exact ShD.int
theorem ShD.shaped {n : Nat} {d : PyData} (h : ShD n d) (hn : n ≤ 64) : SeqAt.shaped d = true := by
  show (PyData.canLay0 d && decide (PyData.depth d ≤ 64)) = true
  rw [Bool.and_eq_true]
  exact ⟨h.lay, decide_eq_true (Nat.le_trans h.dep hn)⟩
section
variable {W : Wrld} {ht ht' : Nat} {sc : Scope} {ρ ρ' ρ'' : Vars} {obs : Obs} {Post : Out → Prop}
theorem Ex1.assign_comp {elt iter : Expr} {x y : Str} {px py pos spos : Pos} {ifs : List Expr} {scope : Scope} {ds : List PyData} {f : PyData → PyData} {p : PyData → Bool} (hit : It W ht sc ρ obs iter ds) (hok : scopeOk sc scope [x] = true) {ρf : Vars} (hpk : Pick ρ (freeNames scope) ρf)
    (ht1 : ∀ d ∈ ds, EvIfs W ht (relab sc scope) ((x, .sh d) :: ρf) obs ifs (p d)) (ht2 : ∀ d ∈ ds, p d = true → Ev W ht (relab sc scope) ((x, .sh d) :: ρf) obs elt (f d)) (hz : ds.length ≤ sizeLine)
    (hk : sc.names.lookup y = some .local ∨ sc.names.lookup y = some .cell) {d' : PyData} (hd : .list ((ds.filter p).map f) = d') (u : Upd ρ y (.sh d') ρ') (h : Post (.nx ρ'))
    (hsw : ∀ env : Env, env.scope = sc → swapsWith (.ListComp elt [⟨.Name x px, iter, ifs, 0⟩] scope pos) (some (.Name y py)) spos.line env = pure true)
    (hs : ∀ (env : Env) x, foldedSetIterable iter env x = pure x := by intro _ _; rfl) : Ex1 W ht sc ρ obs (.Assign [.Name y py] (.ListComp elt [⟨.Name x px, iter, ifs, 0⟩] scope pos) spos) Post := by
  subst hd
  exact Ex1.assign_comp_any (xs := [x]) (sp := fun d => [d]) hit hok (fun _ _ => rfl) (fun _ _ _ => CompAsg.name (ScopeOk.of hok).kind ((ScopeOk.of hok).tgt x List.mem_cons_self)) hpk ht1 ht2 hz hk u h hsw hs
end
section
variable {W : Wrld} {ht ht' : Nat} {sc : Scope} {ρ ρ' ρ'' : Vars} {obs : Obs} {Post : Out → Prop} {A : Around} {env : Env} {base : Heap} {reg : Reg} {s s' : Shared}
theorem ints_items {vs : List Value} {ns : List Int} (h : IntsAre vs ns) : ∃ xs, vs.toArray = intItems xs ∧ ns = xs.toList.map (·.1) := by
  obtain ⟨xs, e⟩ := h.allInts.items
  exact ⟨xs, e, by rw [← h.numsOf, ← nums_intItems, ← e]⟩
theorem Con.sum_list {ns : List Int} (hc : W.calm = true) : Con W ht (.builtin "sum") [.list (ns.map .int)] (.int ns.sum) := by
  intro A s vs P Q E M hP hF r hQ
  obtain ⟨v, vs', rfl, ⟨a, us, n, rfl, p, g, r⟩, rs⟩ := r
  cases rs
  obtain ⟨xs, e, e1⟩ := ints_items (ints_of r)
  have hl : s.heap.IsList a (intItems xs) := ⟨_, g, rfl, n, by rw [← e]⟩
  refine sum_intListG (M.handled hc) hl fun h' tk t' hk => ?_
  have e2 : preSum (numAt xs) xs.size = ns.sum := by rw [preSum_eq, List.take_of_length_le (by simp), e1]
  rw [e2]
  exact hQ _ _ (Ext.of hk) ⟨_, rfl⟩
theorem Con.max_list {ns : List Int} {k : Int} (hc : W.calm = true) (h1 : k ∈ ns) (h2 : ∀ a ∈ ns, a ≤ k) : Con W ht (.builtin "max") [.list (ns.map .int)] (.int k) := by
  intro A s vs P Q E M hP hF r hQ
  obtain ⟨v, vs', rfl, ⟨a, us, n, rfl, p, g, r⟩, rs⟩ := r
  cases rs
  obtain ⟨xs, e, e1⟩ := ints_items (ints_of r)
  have hl : s.heap.IsList a (intItems xs) := ⟨_, g, rfl, n, by rw [← e]⟩
  have hsz : 0 < xs.size := by
    have := List.length_pos_of_mem h1
    rw [e1, List.length_map, Array.length_toList] at this; exact this
  refine max_intList (M.handled hc) hl hsz fun v h' tk hv hk => ?_
  obtain ⟨t, rfl⟩ := intItems_at hv
  obtain ⟨q1, q2⟩ := argBest_gt (numAt xs) (xs.size - 1)
  have q3 : numAt xs (argBest (fun i j => decide (numAt xs i > numAt xs j)) (xs.size - 1)) = k := by
    refine Int.le_antisymm (h2 _ ?_) ?_
    · rw [e1, numAt_eq]; exact getD_mem (by rw [List.length_map, Array.length_toList]; lia)
    · rw [e1] at h1
      obtain ⟨j, hj, rfl⟩ := mem_getD h1
      rw [List.length_map, Array.length_toList] at hj
      rw [← numAt_eq]; exact q2 j (by lia)
  rw [q3]
  exact hQ _ _ (Ext.of hk) ⟨_, rfl⟩
theorem Con.min_two {a b : Int} (hc : W.calm = true) : Con W ht (.builtin "min") [.int a, .int b] (.int (if b < a then b else a)) := by
  intro A s vs P Q E M hP hF r hQ
  obtain ⟨v, vs', rfl, ⟨t, rfl⟩, v', vs'', rfl, ⟨t', rfl⟩, rs⟩ := r
  cases rs
  refine min_two_ints (M.handled hc) fun h' tk hk => ?_
  split <;> (rename_i h; refine hQ _ _ (Ext.of hk) ?_)
  · rw [if_pos h]; exact ⟨_, rfl⟩
  · rw [if_neg h]; exact ⟨_, rfl⟩
theorem ints_eq {h : Heap} {P : Addr → Prop} {k : Int} {t : Tok} {ns : List Int} {us : Array Value} (r : RlAll h P (ns.map .int) us.toList) :
    (∀ y, y ∈ us → MeetsSeq.EqGives y (.int k t) (isInt k y)) ∧ us.size = ns.length ∧ ∀ i (hi : i < us.size), ∀ a, ns[i]? = some a → isInt k us[i] = (a == k) := by
  have l : us.size = ns.length := by have := r.length; simpa using this
  have at_ : ∀ i (hi : i < us.size), ∃ a u, ns[i]? = some a ∧ us[i] = .int a u := fun i hi => by
    obtain ⟨d, e, q⟩ := r.get' (i := i) (v := us[i]) (by simp [hi])
    rw [List.getElem?_map] at e
    obtain ⟨a, ha, rfl⟩ := Option.map_eq_some_iff.mp e
    obtain ⟨u, e'⟩ := q
    exact ⟨a, u, ha, e'⟩
  refine ⟨fun y hy => ?_, l, fun i hi a ha => ?_⟩
  · obtain ⟨i, hi, rfl⟩ := Array.mem_iff_getElem.mp hy
    obtain ⟨a, u, _, e⟩ := at_ i hi
    rw [e]; exact MeetsSeq.EqGives.int a k u t
  · obtain ⟨a', u, e, e'⟩ := at_ i hi
    rw [e']
    cases ha.symm.trans e
    rfl
theorem Con.index_ints {ns : List Int} {k : Int} {j : Nat} (h1 : ns[j]? = some k) (h2 : ∀ i, i < j → ns[i]? ≠ some k) (hz : ns.length ≤ 1000) : Con W ht (.builtin "list.index") [.list (ns.map .int), .int k] (.int (j : Nat)) := by
  intro A s vs P Q E M hP hF r hQ
  obtain ⟨v, vs', rfl, ⟨a, us, n, rfl, p, g, r⟩, v', vs'', rfl, ⟨t, rfl⟩, rs⟩ := r
  cases rs
  obtain ⟨q1, q2, q3⟩ := ints_eq (k := k) (t := t) r
  have hj : j < ns.length := (List.getElem?_eq_some_iff.mp h1).1
  refine call_meets PySem.F.slot_list_index ⟨_, g, rfl⟩ PySem.F.entry_list_index (PySem.F.args_list_index_2 _ _)
    (MeetsSeq.list_index a us n (.int k t) (isInt k) q1 j (by lia) (by lia) ?_ fun i hi hlt => ?_) ⟨g, hQ _ _ (Ext.tok _ _) ⟨_, rfl⟩⟩
  · rw [q3 j (by lia) k h1]; simp
  · have e : ns[i]? = some (ns[i]'(by lia)) := List.getElem?_eq_getElem _
    rw [q3 i hi _ e]
    refine beq_eq_false_iff_ne.mpr fun z => h2 i hlt ?_
    rw [e, z]
theorem Ev.index_list {o e : Expr} {apos pos : Pos} {ns : List Int} {k : Int} {j : Nat} (ho : Ev W ht sc ρ obs o (.list (ns.map .int))) (he : Ev W ht sc ρ obs e (.int k)) (h1 : ns[j]? = some k) (h2 : ∀ i, i < j → ns[i]? ≠ some k) (hz : ns.length ≤ 1000) (hp : Plain e := by intro _ _; rfl)
    (hbase : ∀ env : Env, attributeBase o (Str.ofString "index") env (eval o env) = eval o env := by intro _; rfl)
    (hfew : ∀ env : Env, ((backTo pos (starEach [e] env)).all (fun x => !x.1) && (backToKw pos (keywordEach [] env)).all (fun x => x.1.isSome) && decide ([e].length + ([] : List Keyword).length + (if ([] : List Keyword).isEmpty then 0 else 1) < 30)) = true := by intro _; rfl)
    (hline : (apos.endLine == pos.line) = true := by rfl) : Ev W ht sc ρ obs (.Call (.Attribute o (Str.ofString "index") apos) [e] [] pos) (.int (j : Nat)) :=
  Ev.meth ho (EvAll.cons he EvAll.nil hp) PySem.F.plainAttrs_list PySem.F.slot_list_index PySem.F.type_list_index (Con.index_ints (ht := 0) h1 h2 hz) (by intro z; contradiction) (by show "list" ≠ ""; decide) (Nat.zero_le _) hbase hfew hline
theorem Con.index_str {x y : Str} {j : Nat} {rest : List Nat} (h : Builtin.Str.occurrences x y 0 x.length 1 = j :: rest) : Con W ht (.builtin "str.index") [.str x, .str y] (.int (j : Nat)) := by
  intro A s vs P Q E M hP hF r hQ
  obtain ⟨v, vs', rfl, ⟨t, rfl⟩, v', vs'', rfl, ⟨t', rfl⟩, rs⟩ := r
  cases rs
  exact SC.index h (hQ _ _ (Ext.tok _ _) ⟨_, rfl⟩)
theorem Ev.index_str {o e : Expr} {apos pos : Pos} {x y : Str} {j : Nat} {rest : List Nat} (ho : Ev W ht sc ρ obs o (.str x)) (he : Ev W ht sc ρ obs e (.str y)) (h : Builtin.Str.occurrences x y 0 x.length 1 = j :: rest) (hp : Plain e := by intro _ _; rfl)
    (hbase : ∀ env : Env, attributeBase o (Str.ofString "index") env (eval o env) = eval o env := by intro _; rfl)
    (hfew : ∀ env : Env, ((backTo pos (starEach [e] env)).all (fun x => !x.1) && (backToKw pos (keywordEach [] env)).all (fun x => x.1.isSome) && decide ([e].length + ([] : List Keyword).length + (if ([] : List Keyword).isEmpty then 0 else 1) < 30)) = true := by intro _; rfl)
    (hline : (apos.endLine == pos.line) = true := by rfl) : Ev W ht sc ρ obs (.Call (.Attribute o (Str.ofString "index") apos) [e] [] pos) (.int (j : Nat)) :=
  Ev.meth ho (EvAll.cons he EvAll.nil hp) PySem.F.plainAttrs_str PySem.F.slot_str_index PySem.F.type_str_index (Con.index_str (ht := 0) h) (by intro z; contradiction) (by show "str" ≠ ""; decide) (Nat.zero_le _) hbase hfew hline
theorem Con.list_tuple {ds : List PyData} (hz : ds.length ≤ 1000) : Con W ht (.type "list") [.tuple ds] (.list ds) := by
  intro A s vs P Q E M hP hF r hQ
  obtain ⟨v, vs', rfl, ⟨a, us, n, rfl, p, g, r⟩, rs⟩ := r
  cases rs
  have l : us.size = ds.length := by have := r.length; simpa using this
  refine call_list_seq a (.inr rfl) g rfl rfl (fun h' c' k g' => ?_) (by rw [l]; exact Nat.le_trans hz (by decide))
  have hI : ∀ b o, s.heap.get? b = some o → h'.get? b = some o := k
  refine hQ _ _ (Ext.of k) ⟨_, us, c', rfl, hP _ (.inl (fresh_none _)), g', RlAll.mono (fun b o q e => ⟨k b o e, q⟩) _ _ r⟩
end
section
variable {W : Wrld} {ht ht' : Nat} {sc : Scope} {ρ ρ' ρ'' : Vars} {obs : Obs} {Post : Out → Prop} {A : Around} {env : Env} {base : Heap} {reg : Reg} {s s' : Shared} {x y : Str} {root : Addr} {m m' : HM}
theorem EvM.methL {name : Str} {p sp apos pos : Pos} {e f' : Expr} {d : PyData} {ds : List PyData} {f C dx : Addr} {sl : List (Option VD)} {es : List (Str × VD)} {MP : MO → Prop} {P : Rs → Prop} (hy : (y, .ow (RM root m)) ∈ ρ) (h1 : m root = some (.inst C dx sl)) (h2 : m dx = some (.ns es)) (hl : es.lookup name = none) (hm : MethIn W.K C name f) (hb : BoundIn W.K C name f)
    (ha : Ev W ht sc ρ obs e d) (hb' : Ev W ht sc ρ obs f' (.list ds)) (hz : ds.length ≤ 1000) (hc : Mth W ht' (.ref f) root m (d :: ds) MP) (hp : ∀ mo, MP mo → RsOf ρ y root P mo) (hh : ht' ≤ ht := by (lia -abstractProof))
    (he : ∀ env : Env, eval (.Call (.Attribute (.Name y p) name apos) [e, .Starred f' sp] [] pos) env = (do
      let ov ← eval (.Name y p) env
      standAt apos.atName
      let (f, first) ← holding [ov] (do pure (← getAttr ov name true, []))
      callWith pos f first (backTo pos (starEach [e, .Starred f' sp] env)) []) := by intro _; rfl)
    (hs : ∀ env : Env, starEach [e, .Starred f' sp] env = (false, eval e env) :: starEach [.Starred f' sp] env := by intro _; rfl)
    (hs' : ∀ env : Env, starEach [.Starred f' sp] env = [(true, eval f' env)] := by intro _; rfl)
    (hn : (y == ("__classdict__" : Str)) = false := by decide) (hd : (y == ("__debug__" : Str)) = false := by decide) : EvM W ht sc ρ obs (.Call (.Attribute (.Name y p) name apos) [e, .Starred f' sp] [] pos) P := by
  intro A env base reg s Q E H hQ
  obtain ⟨v, V, rfl, _⟩ := H.at hy
  obtain ⟨ox, od, I, _, _, _, r2⟩ := H.instO hy h1 h2
  rw [he env]
  refine wpAny_bind (name_var H V (wpAny_bind (wpAny_standAt (wpAny_bind (wpAny_holding (wpAny_bind ?_))))) hn hd)
  refine get_bind H.ok.k I hm.ga (findObj_fn hb.dict hm.at_ hb.get hb.takes hb.name ?_) hm.gx (wpAny_call (fn_get (s := { s with toks := s.toks + 1 }) H.ok.k hm.fn ?_))
  · have := (ns_look r2).2 hl
    exact this
  refine handed_on rfl (wpAny_pure ?_)
  have hq : (s.heap.push (methodObj (.ref f) (.ref root))).get? s.heap.objs.size = some (methodObj (.ref f) (.ref root)) := Heap.get?_push_size _ rfl
  have x0 : Ext (Loose reg) s { s with heap := s.heap.push (methodObj (.ref f) (.ref root)), toks := s.toks + 1 } := Ext.push _ _ _
  have rq : reg s.heap.objs.size = .sh := H.sta.high _ (fresh_none _)
  show wpAny W.M A (callWith pos (.ref s.heap.objs.size) [] (backTo pos (starEach [e, .Starred f' sp] env)) []) Q E _
  rw [hs env]
  refine ks_call (P := MethP W.K s.heap.objs.size f (.ref root)) (by show (false || (backTo pos (starEach [.Starred f' sp] env)).any (·.1)) = true; rw [hs' env]; rfl) (keeps_M hb.fn) (evalArgs_plain ?_)
  refine spliced_cons (ha (H.ext x0) fun s₀ v₀ x₀ r₀ => ?_)
  refine items_star ?_ (hs' env)
  refine hb' ((H.ext x0).ext x₀) fun s₁ v₁ x₁ r₁ => ?_
  obtain ⟨a, vs, n, rfl, q, g, r⟩ := r₁
  have hT : s₁.TypeIs (.ref a) "list" := ⟨_, g, rfl⟩
  unfold StarOf notIterableAtAll
  refine wpAny_bind (wpAny_specialOf hT PySem.F.slot_list_iter.lookup (wpAny_pure ⟨rfl, ?_⟩))
  refine wpAny_collect_seq a (.inl rfl) g rfl rfl (fun h' hk => spliced_nil ?_) (by have := r.length; simp at this; rw [this]; exact Nat.le_trans hz (by decide))
  have x₂ : Ext (Loose reg) s₁ { s₁ with heap := h', toks := s₁.toks } := Ext.of hk
  have xx := ((x0.trans x₀).trans x₁).trans x₂
  have H2 := H.ext xx
  have hq2 : h'.get? s.heap.objs.size = some (methodObj (.ref f) (.ref root)) := hk _ _ ((x₀.trans x₁).exact (not_loose rq) hq)
  refine ⟨⟨hq2, H2.ok.k⟩, wpAny_call (method_call (s := { s₁ with heap := h' }) hq2 ?_)⟩
  rw [List.append_nil]
  refine callO_code (s := { s₁ with heap := h' }) (ds := d :: ds) (Step.ext xx) H2 hy hc hh hp hQ (vs := v₀ :: vs.toList) ⟨_, _, rfl, ?_, r.ext x₂⟩
  exact (r₀.ext x₁).ext x₂
theorem EvM.callT {p pos : Pos} {e : Expr} {id : String} {P : Rs → Prop} (hx : sc.names.lookup x = some .globalImplicit) (hm : W.G x = none) (hv : bootBuiltins x = some (.type id))
    (he : EvM W ht sc ρ obs e (fun r => ∃ d ρ' d', r = .v d ρ' ∧ Con W ht (.type id) [d] d' ∧ P (.v d' ρ'))) (hn : x ≠ "__name__" := by decide) (hd : (x == ("__debug__" : Str)) = false := by decide) (hp : Plain e := by intro _ _; rfl) :
    EvM W ht sc ρ obs (.Call (.Name x p) [e] [] pos) P := by
  intro A env base reg s Q E H hQ
  have e1 : backTo pos (starEach [e] env) = [(false, eval e env)] := by rw [hp env []]; rfl
  refine Call_Name e1 (name_builtin H hx hm hv (PySem.callWith_type rfl (evalArgs_plain (spliced_cons (he H fun r s₁ reg₁ v hr st₁ ra => ?_)))) hn hd)
  obtain ⟨d, ρ', d', rfl, hc, hp⟩ := hr
  obtain ⟨rv, H₁⟩ := ra
  refine spliced_nil (hc H₁.call H₁.pok H₁.pno ⟨v, [], rfl, rv, rfl⟩ fun s₂ v₂ x₂ r₂ => ?_)
  have x₂' := x₂.mono fun _ => H₁.loose
  exact hQ (.v d' ρ') s₂ reg₁ v₂ hp (st₁.trans (Step.ext x₂')) ⟨r₂, H₁.ext x₂'⟩
theorem Ex1.assign_addM {l r : Expr} {p pos bpos : Pos} {xs : List PyData} (hk : sc.names.lookup x = some .local ∨ sc.names.lookup x = some .cell) (hl : Ev W ht sc ρ obs l (.list xs))
    (hr : EvM W ht sc ρ obs r (fun q => ∃ ys ρ₁ ρ', q = .v (.list ys) ρ₁ ∧ xs.length + ys.length ≤ 1000 ∧ Upd ρ₁ x (.l1 (xs ++ ys)) ρ' ∧ Post (.nx ρ')))
    (hs : ∀ env : Env, env.scope = sc → swapsWith (.BinOp l .Add r bpos) (some (.Name x p)) pos.line env = pure false := by intro _ _; rfl) : Ex1 W ht sc ρ obs (.Assign [.Name x p] (.BinOp l .Add r bpos) pos) Post := by
  intro A env base reg s Q E H hQ hE
  refine wpAny_Assign_Name (wpAny_BinOp (hl H fun s₁ v₁ x₁ r₁ => hr (H.ext x₁) fun q s₂ reg₂ v₂ hq st₂ ra => ?_)) (hs env H.sc)
  obtain ⟨ys, ρ₁, ρ', rfl, hz, u, hp⟩ := hq
  obtain ⟨r₂, H₂⟩ := ra
  obtain ⟨a, us, n, rfl, q, g, ru⟩ := r₁.step st₂
  obtain ⟨b, ws, n', rfl, q', g', rw'⟩ := r₂
  have e1 : us.size = xs.length := by simpa using ru.length
  have e2 : ws.size = ys.length := by simpa using rw'.length
  have hsz : (1000 : Nat) ≤ sizeLine := by rw [sizeLine_eq]; decide
  refine concat_meets ⟨_, g, rfl⟩ ⟨_, g', rfl⟩ noFill_list_add seq_list_add PySem.F.slot_list_add PySem.F.entry_list_add (PySem.F.args_list_add_2 _ _) (list_addW a b us ws n n' none none #[] #[] (by lia)) ⟨g, g', ?_⟩
  have x₃ : Ext (Loose reg₂) s₂ { s₂ with heap := s₂.heap.push { cls := Value.type "list", data := Data.seq (us ++ ws) }, toks := s₂.toks } := Ext.push _ _ _
  have gD : (s₂.heap.push { cls := Value.type "list", data := Data.seq (us ++ ws) }).get? s₂.heap.objs.size = some { cls := .type "list", data := .seq (us ++ ws) } := Heap.get?_push_size _ rfl
  have H₃ := H₂.claim (T := (· = s₂.heap.objs.size)) (w := .va x) x₃ (fun a q => by rw [q]; exact fresh_none _) (fun a (q : a = _) => by subst q; exact ⟨_, gD⟩)
  refine store_var (b := .l1 (xs ++ ys)) H₃ hk ⟨_, us ++ ws, rfl, claim_new rfl, ⟨0, gD⟩, ?_⟩ u
    fun s₄ H₄ st₄ => hQ _ _ _ _ hp ((Step.ext x₁).trans (st₂.trans ((Step.claim x₃ (fun a q => by rw [q]; exact fresh_none _)).trans st₄))) H₄
  rw [Array.toList_append]
  have up : ∀ (c : Addr) o, Sh reg₂ c → s₂.heap.get? c = some o → (s₂.heap.push { cls := Value.type "list", data := Data.seq (us ++ ws) }).get? c = some o ∧ Sh (Mine.claim reg₂ (· = s₂.heap.objs.size) (.va x)) c := fun c o q e =>
    ⟨Heap.get?_push_of_some _ e, (claim_old fun z => by rw [z, fresh_none] at e; contradiction).trans q⟩
  exact RlAll.append (RlAll.mono up _ _ ru) (RlAll.mono up _ _ rw')
theorem RlAll.erase {h : Heap} {P : Addr → Prop} : ∀ {xs : List PyData} {vs : List Value}, RlAll h P xs vs → ∀ k, RlAll h P (xs.eraseIdx k) (vs.eraseIdx k)
  | [], _, r, k => by cases r; simp; rfl
  | _ :: _, _, ⟨v, vs', rfl, rv, rs⟩, 0 => rs
  | _ :: _, _, ⟨v, vs', rfl, rv, rs⟩, k + 1 => ⟨v, vs'.eraseIdx k, rfl, rv, RlAll.erase rs k⟩
theorem pop_at {prog : Program} {w : World} {l : Addr} {z : Sem Value} {pos : Pos} {Q E : Value → Shared → Prop}
    (h : wpAny (model prog w) A z (fun v' s₁ => ∃ (items : Array Value) (n k : Nat) (v : Value) (t : Tok), v' = .int (k : Nat) t ∧ items.size ≤ 1000 ∧ k < items.size ∧ IsL s₁.heap l items n ∧ items[k]? = some v ∧ Q v { s₁ with heap := s₁.heap.update l (Obj.mapSeq fun xs => xs.eraseIdxIfInBounds k) }) E s) :
    wpAny (model prog w) A (callWith pos (.builtin "list.pop") [.ref l] [(false, z)] []) Q E s :=
  seqMethod1_meets PySem.F.slot_list_pop PySem.F.entry_list_pop (wpAny_mono h (fun v' s₁ h₁ => by
    obtain ⟨items, n, k, v, t, rfl, hz, hk, hl, hv, hq⟩ := h₁
    have hfit : Builtin.List.listFitsIndex (k : Int) = true := by
      have hk2 : (k : Int) < 2 ^ 63 := by lia
      have hk3 : -(2 ^ 63 : Int) ≤ (k : Int) := by lia
      unfold Builtin.List.listFitsIndex
      rw [decide_eq_true hk2, decide_eq_true hk3]; rfl
    have hidx : seqIndex? (k : Int) items.size = some k := by
      unfold seqIndex?
      have e1 : ¬ (k : Int) < 0 := by lia
      have e2 : (k : Int) < (items.size : Int) := by lia
      have e3 : (0 : Int) ≤ (k : Int) := by lia
      dsimp only
      rw [if_neg e1, decide_eq_true e3, decide_eq_true e2]
      rfl
    exact ⟨⟨_, hl, rfl⟩, PySem.F.args_list_pop_2 _ _, _, @MeetsSeq.list_pop_at l items n k t k v hfit hidx hv (Nat.le_trans hz (by rw [sizeLine_eq]; decide)), hl, hq⟩) fun _ _ e => e)
theorem Ex1.assign_popi {p apos cpos q pos : Pos} {e : Expr} {xs : List PyData} {k : Nat} {d : PyData} (hy : sc.names.lookup y = some .local ∨ sc.names.lookup y = some .cell) (hx : (x, .l1 xs) ∈ ρ) (he : Ev W ht sc ρ obs e (.int (k : Nat))) (hd : xs[k]? = some d) (hf : flat d = true) (hz : xs.length ≤ 1000) (u : Upd ρ x (.l1 (xs.eraseIdx k)) ρ') (u' : Upd ρ' y (.sh d) ρ'') (h : Post (.nx ρ''))
    (hline : (apos.endLine == cpos.line) = true := by rfl) (hp : Plain e := by intro _ _; rfl) (hn : (x == ("__classdict__" : Str)) = false := by decide) (hdb : (x == ("__debug__" : Str)) = false := by decide)
    (hs : ∀ env : Env, env.scope = sc → swapsWith (.Call (.Attribute (.Name x p) (Str.ofString "pop") apos) [e] [] cpos) (some (.Name y q)) pos.line env = pure false := by intro _ _; rfl) :
    Ex1 W ht sc ρ obs (.Assign [.Name y q] (.Call (.Attribute (.Name x p) (Str.ofString "pop") apos) [e] [] cpos) pos) Post := by
  intro A env base reg s Q E H hQ hE
  have e1 : backTo cpos (starEach [e] env) = [(false, eval e env)] := by rw [hp env []]; rfl
  obtain ⟨v, V, a, vs, rfl, ra, ⟨n, g⟩, r⟩ := H.at hx
  refine wpAny_Assign_Name (wpAny_Call_method1_late rfl hline e1 (name_var H V ⟨"list", "list.pop", PySem.F.plainAttrs_list, PySem.F.slot_list_pop, PySem.F.type_list_pop, ⟨_, g, rfl⟩, fun b e => by cases e; exact ⟨_, g, rfl⟩, ?_⟩ hn hdb)) (hs env H.sc)
  have hl : vs.size = xs.length := by simpa using r.length
  have hk : k < xs.length := (List.getElem?_eq_some_iff.mp hd).1
  refine pop_at (he H fun s₁ v₁ x₁ r₁ => ?_)
  obtain ⟨t, rfl⟩ := r₁
  have g₁ : s₁.heap.get? a = some { cls := .type "list", data := .seq vs n } := x₁.exact (not_loose ra) g
  obtain ⟨v, hv, rv⟩ := r.get hd
  refine ⟨vs, n, k, v, t, rfl, by lia, by lia, g₁, by simpa using hv, ?_⟩
  have ho' := IsL.update (h := s₁.heap) g₁ (fun xs => xs.eraseIdxIfInBounds k)
  have sb : Heap.SameBut a s₁.heap (s₁.heap.update a (Obj.mapSeq fun xs => xs.eraseIdxIfInBounds k)) := Heap.SameBut.update ..
  have up : ∀ c o, Sh reg c → s₁.heap.get? c = some o → (s₁.heap.update a (Obj.mapSeq fun xs => xs.eraseIdxIfInBounds k)).get? c = some o ∧ Sh reg c := fun c o q g => ⟨sb.extBut c o (by rintro rfl; rw [show reg c = .sh from q] at ra; contradiction) g, q⟩
  obtain ⟨H', st⟩ := (H.ext x₁).mut (tk := s₁.toks) (b' := .l1 (xs.eraseIdx k)) (V.slk x₁.slk) ra sb ⟨_, ho'⟩ ⟨a, _, rfl, ra, ⟨_, ho'⟩, by
    have e : (vs.eraseIdxIfInBounds k).toList = vs.toList.eraseIdx k := by
      unfold Array.eraseIdxIfInBounds
      rw [dif_pos (by rw [hl]; exact hk)]; simp
    rw [e]
    exact RlAll.erase (RlAll.mono up _ _ (r.ext x₁)) k⟩ u
  exact store_var (b := .sh d) H' hy (Rl.flat hf rv) u' fun s₂ H₂ st₂ => hQ _ _ _ reg h ((Step.ext x₁).trans (st.trans st₂)) H₂
noncomputable def EvTM (W : Wrld) (ht : Nat) (sc : Scope) (ρ : Vars) (obs : Obs) (e : Expr) (P : Bool → Vars → Prop) : Prop :=
  ∀ ⦃A : Around⦄ ⦃env : Env⦄ ⦃base : Heap⦄ ⦃reg : Reg⦄ ⦃s : Shared⦄ ⦃Q : Bool → Shared → Prop⦄ ⦃E : Value → Shared → Prop⦄, Here W ht sc ρ obs A env base reg s →
    (∀ b ρ' s' reg', P b ρ' → Step reg s reg' s' → Here W ht sc ρ' obs A env base reg' s' → Q b s') → wpAny W.M A (isTrue e env (eval e env)) Q E s
theorem Ex1.ifTM {t : Expr} {body orelse : List Stmt} {pos : Pos} (h : EvTM W ht sc ρ obs t (fun b ρ' => if b then Ex W ht sc ρ' obs body Post else Ex W ht sc ρ' obs orelse Post)) : Ex1 W ht sc ρ obs (.If t body orelse pos) Post := by
  intro A env base reg s Q E H hQ hE
  refine wpAny_If (h H fun b ρ' s' reg' hb st H' => ?_)
  cases b with
  | true => simp only [if_true] at hb ⊢; exact hb H' (hQ.step st) (hE.step st)
  | false => simp only [Bool.false_eq_true, if_false] at hb ⊢; exact hb H' (hQ.step st) (hE.step st)
theorem EvTM.cmp {l r : Expr} {op : CmpOp} {pos : Pos} {d₂ : PyData} {P : Bool → Vars → Prop}
    (hl : EvM W ht sc ρ obs l (fun q => ∃ d₁ ρ' b, q = .v d₁ ρ' ∧ Ev W ht sc ρ' obs r d₂ ∧ P b ρ' ∧
      ∀ {A : Around} {s : Shared} {Q : Value → Shared → Prop} {E : Value → Shared → Prop} {P D : Addr → Prop} {v₁ v₂ : Value}, AmbC W ht A s.heap → Rl s.heap P d₁ v₁ → Rl s.heap P d₂ v₂ →
      (∀ s', Ext D s s' → Q (.bool b) s') → wpAny W.M A (compareOp op v₁ v₂) Q E s)) (hm : behindInMarks op r = false) : EvTM W ht sc ρ obs (.Compare l [op] [r] pos) P := by
  intro A env base reg s Q E H hQ
  have e : ∀ whole, isTrue (.Compare l [op] [r] pos) env whole = (eval (.Compare l [op] [r] pos) env >>= fun c => holding [c] (truthy c)) := by
    intro whole
    rw [isTrue_Compare1, eval_Compare1]
    simp only [bind_assoc]
  rw [e]
  refine wpAny_bind (wpAny_Compare1 (hl H fun q s₁ reg₁ v₁ hq st₁ ra => ?_) hm)
  obtain ⟨d₁, ρ', b, rfl, hr, hp, hc⟩ := hq
  obtain ⟨r₁, H₁⟩ := ra
  refine hr H₁ fun s₂ v₂ x₂ r₂ => hc (D := Loose reg₁) (H₁.ext x₂).call (r₁.ext x₂) r₂ fun s₃ x₃ => wpAny_holding (wpAny_truthy_bool ?_)
  exact hQ b ρ' s₃ reg₁ hp (st₁.trans (Step.ext (x₂.trans x₃))) ((H₁.ext x₂).ext x₃)
theorem EvTM.or2 {l r : Expr} {pos : Pos} {P : Bool → Vars → Prop} (hl : EvTM W ht sc ρ obs l (fun b ρ' => b = false ∧ EvTM W ht sc ρ' obs r P)) : EvTM W ht sc ρ obs (.BoolOp .Or [l, r] pos) P := by
  intro A env base reg s Q E H hQ
  refine wpAny_isTrue_BoolOp (wpAny_allTrue_Or_cons (hl H fun b ρ' s' reg' hb st H' => ?_))
  obtain ⟨rfl, hr⟩ := hb
  simp only [Bool.false_eq_true, if_false]
  refine wpAny_allTrue_Or_cons (hr H' fun b ρ'' s'' reg'' hb st' H'' => ?_)
  cases b with
  | true => simp only [if_true]; exact hQ _ _ _ _ hb (st.trans st') H''
  | false => simp only [Bool.false_eq_true, if_false]; exact wpAny_allTrue_Or_nil (hQ _ _ _ _ hb (st.trans st') H'')
theorem EvTM.plain {t : Expr} {P : Bool → Vars → Prop} (he : EvM W ht sc ρ obs t (fun q => ∃ b ρ', q = .v (.bool b) ρ' ∧ P b ρ')) (hp : ∀ (env : Env) whole, isTrue t env whole = (do let v ← whole; standAt t.pos; holding [v] (truthy v)) := by intro _ _; rfl) : EvTM W ht sc ρ obs t P := by
  intro A env base reg s Q E H hQ
  refine isTrue_plain (he H fun r s' reg' v hp st ra => ?_) (hp env _)
  obtain ⟨b, ρ', rfl, hb⟩ := hp
  obtain ⟨rfl, H'⟩ := ra
  exact wpAny_truthy_bool (hQ _ _ _ _ hb st H')
noncomputable def ConN (W : Wrld) (ht : Nat) (f : Value) (ds : List PyData) (MP : Addr → HM → Prop) : Prop :=
  ∀ ⦃A : Around⦄ ⦃s : Shared⦄ ⦃vs : List Value⦄ ⦃P : Addr → Prop⦄ ⦃Q : Value → Shared → Prop⦄ ⦃E : Value → Shared → Prop⦄, AmbC W ht A s.heap → (∀ a, (s.heap.get? a = none ∨ ∃ o, W.base.get? a = some o) → P a) → (∀ a, inFrames A a → ¬ P a) → RlAll s.heap P ds vs →
    (∀ s' x m' (O' : Addr → Prop), Ext (inFrames A) s s' → (∀ a, O' a → s.heap.get? a = none ∧ ∃ o, s'.heap.get? a = some o) → OwnM O' s'.heap m' → MP x m' → Q (.ref x) s') → wpAny W.M A (call f vs) Q E s
noncomputable def EndsN (y : Str) (MP : Addr → HM → Prop) : Out → Prop
  | .ro root ρ => ∃ m, (y, .ow (RM root m)) ∈ ρ ∧ MP root m
  | _ => False
theorem ConN.of {a : Addr} {fd : FuncData} {body : List Stmt} {ps ls : List Str} {ds : List PyData} {MP : Addr → HM → Prop} (F : FnOk W a fd sc body ps ls) (hl : ds.length = ps.length)
    (h : Ex W ht sc (ps.zip (ds.map .sh) ++ ls.map fun x => (x, .un)) (fun _ => False) body (EndsN y MP)) (hnest : W.nest = none := by rfl) : ConN W (ht + 1) (.ref a) ds MP := by
  intro A s vs P Q E M hP hF r hQ
  refine enter_of F hl h hnest M hP hF r (fun _ _ z => z) (fun _ z => z) (fun _ z => z) (fun o v s' reg' env' ho lf oa => ?_) fun ρ s' reg' ho lf => ho.elim
  cases o with
  | ro root ρ' =>
    obtain ⟨m, hy, hmp⟩ := ho
    obtain ⟨rfl, H'⟩ := oa
    obtain ⟨⟨h', tk, e⟩, l⟩ := lf
    refine hQ s' root m (fun b => reg' b = .va y ∧ ∃ o, s'.heap.get? b = some o) ⟨h', tk, e, fun b o g => by have := (l b o g).1; rwa [e] at this⟩ (fun b q => ⟨?_, q.2⟩) (fun b od q => ?_) hmp
    · cases qq : s.heap.get? b with
      | none => rfl
      | some o' => exact ((l b o' qq).2.2 y q.1).elim
    · obtain ⟨q1, o, q2, q3⟩ := H'.own hy q
      exact ⟨⟨q1, o, q2⟩, o, q2, q3⟩
  | _ => exact ho.elim
theorem Ex1.makeN {p p' pos pos' : Pos} {c : Str} {args : List Expr} {a : Addr} {fd : FuncData} {sc' : Scope} {body : List Stmt} {ps ls : List Str} {ds : List PyData} {MP : Addr → HM → Prop} (hk : sc.names.lookup y = some .local ∨ sc.names.lookup y = some .cell) (F : FnOk W a fd sc' body ps ls) (hx : sc.names.lookup c = some .globalImplicit) (hv : W.G c = some (.ref a))
    (ha : EvAll W ht sc ρ obs args ds) (hc : ConN W ht' (.ref a) ds MP) (hh : ht' ≤ ht) (h : ∀ x m', MP x m' → ∃ ρ', Upd ρ y (.ow (RM x m')) ρ' ∧ Post (.nx ρ'))
    (hne : args ≠ [] := by decide) (hd : (c == ("__debug__" : Str)) = false := by decide) (hs : ∀ env : Env, env.scope = sc → swapsWith (.Call (.Name c p') args [] pos') (some (.Name y p)) pos.line env = pure false := by intro _ _; rfl) : Ex1 W ht sc ρ obs (.Assign [.Name y p] (.Call (.Name c p') args [] pos') pos) Post := by
  intro A env base reg s Q E H hQ hE
  obtain ⟨o, hko, hdat⟩ := F.at_
  obtain ⟨t, rr, e⟩ := (ha.1 env pos').2 hne
  refine wpAny_Assign_Name (Call_Name (trees := (false, t) :: rr) e (name_global H hx hv (callWith_function (fd := fd) (o := o) (evalArgs_plain ?_)) hd)) (hs env H.sc)
  rw [← e]
  refine ha.2 pos' H fun s₀ vs x₀ r₀ => ⟨⟨(H.ext x₀).ok.k _ _ hko, hdat⟩, hc ((H.ext x₀).call.less hh) (H.ext x₀).pok (H.ext x₀).pno r₀ fun s₁ x m' O' x₁ hO om mp => ?_⟩
  have H₀ := H.ext x₀
  obtain ⟨ρ', u, hp⟩ := h x m' mp
  have x₁' := x₁.mono fun _ => H₀.loose
  have H₁ := H₀.claim (T := O') (w := .va y) x₁' (fun b q => (hO b q).1) (fun b q => (hO b q).2)
  refine store_var (b := .ow (RM x m')) H₁ hk ⟨rfl, fun b od q => ?_⟩ u fun s₂ H₂ st₂ => hQ _ _ _ _ hp ((Step.ext x₀).trans ((Step.claim x₁' (fun b q => (hO b q).1)).trans st₂)) H₂
  obtain ⟨q1, q2⟩ := om b od q
  exact ⟨claim_new q1, q2⟩
theorem Ex1.assignP {p pos : Pos} {e : Expr} {R : PyData → Prop} (hk : sc.names.lookup x = some .local ∨ sc.names.lookup x = some .cell) (he : EvP W ht sc ρ obs e R) (h : ∀ d, R d → ∃ ρ', Upd ρ x (.sh d) ρ' ∧ Post (.nx ρ'))
    (hs : ∀ env : Env, env.scope = sc → swapsWith e (some (.Name x p)) pos.line env = pure false := by intro _ _; rfl) : Ex1 W ht sc ρ obs (.Assign [.Name x p] e pos) Post := by
  intro A env base reg s Q E H hQ hE
  refine wpAny_Assign_Name (he H fun d s₁ v hd x₁ r => ?_) (hs env H.sc)
  obtain ⟨ρ', u, hp⟩ := h d hd
  exact store_var (b := .sh d) (H.ext x₁) hk r u fun s₂ H₂ st => hQ _ _ _ reg hp ((Step.ext x₁).trans st) H₂
theorem Ev.cmpP {l r : Expr} {op : CmpOp} {pos : Pos} {R : PyData → Prop} {d₂ : PyData} {b : Bool} (hl : EvP W ht sc ρ obs l R) (hr : Ev W ht sc ρ obs r d₂)
    (h : ∀ {A : Around} {s : Shared} {Q : Value → Shared → Prop} {E : Value → Shared → Prop} {P D : Addr → Prop} {v₁ v₂ : Value} {d₁ : PyData}, R d₁ → AmbC W ht A s.heap → Rl s.heap P d₁ v₁ → Rl s.heap P d₂ v₂ →
      (∀ s', Ext D s s' → Q (.bool b) s') → wpAny W.M A (compareOp op v₁ v₂) Q E s) (hm : behindInMarks op r = false) : Ev W ht sc ρ obs (.Compare l [op] [r] pos) (.bool b) := by
  intro A env base reg s Q E H hQ
  refine wpAny_Compare1 (hl H fun d s₁ v₁ hd x₁ r₁ => hr (H.ext x₁) fun s₂ v₂ x₂ r₂ => ?_) hm
  exact h hd ((H.ext x₁).ext x₂).call (r₁.ext x₂) r₂ fun s' x => hQ s' _ ((x₁.trans x₂).trans x) rfl
theorem Ex1.if_append {t e : Expr} {p apos pos pos' ipos : Pos} {xs : List PyData} {d : PyData} {b : Bool} (ht' : EvT W ht sc ρ obs t b) (hx : (x, .l1 xs) ∈ ρ) (he : b = true → Ev W ht sc ρ obs e d) (hz : xs.length ≤ 1000) (u' : Upd ρ x (.l1 (xs ++ if b then [d] else [])) ρ') (h : Post (.nx ρ'))
    (hline : (apos.endLine == pos.line) = true := by rfl) (hp : Plain e := by intro _ _; rfl) (hn : (x == ("__classdict__" : Str)) = false := by decide) (hd : (x == ("__debug__" : Str)) = false := by decide) :
    Ex1 W ht sc ρ obs (.If t [.Expr (.Call (.Attribute (.Name x p) "append" apos) [e] [] pos) pos'] [] ipos) Post := by
  refine Ex1.ifs ht' (fun hb => ?_) fun hb => ?_
  · subst hb
    exact Ex.cons (Ex1.append hx (he rfl) (Nat.le_trans hz (by rw [sizeLine_eq]; decide)) u' (Ex.nil h) hline hp hn hd)
  · subst hb
    intro A env base reg s Q E H hQ hE
    rw [show (if false = true then [d] else []) = ([] : List PyData) from rfl, List.append_nil] at u'
    exact Ex.nil h (H.same hx u') hQ hE
end
noncomputable def kindC (k : Nat) : Nat := match k with
  | 0 => 112
  | 1 => 99
  | 2 => 100
  | 3 => 98
  | 4 => 45
  | 5 => 108
  | _ => 115
noncomputable def kindV (k : Nat) : Nat := match k with
  | 0 => 1
  | 1 => 2
  | 2 => 4
  | 3 => 6
  | 4 => 8
  | 5 => 10
  | _ => 12
theorem kind_cases {k : Nat} (h : k < 7) : k = 0 ∨ k = 1 ∨ k = 2 ∨ k = 3 ∨ k = 4 ∨ k = 5 ∨ k = 6 := by lia
theorem kindC_at {k : Nat} (h : k < 7) : (Str.ofString "pcdb-ls").cps[(k : Int).toNat]? = some (kindC k) := by
  rcases kind_cases h with rfl | rfl | rfl | rfl | rfl | rfl | rfl <;> decide +kernel
theorem kindV_at {k : Nat} (h : k < 7) : [PyData.int 1, .int 2, .int 4, .int 6, .int 8, .int 10, .int 12][(k : Int).toNat]? = some (.int (kindV k : Nat)) := by
  rcases kind_cases h with rfl | rfl | rfl | rfl | rfl | rfl | rfl <;> rfl
noncomputable def rc (r b : Int) : Nat := if r / b % 2 = 1 then 114 else 45
noncomputable def wc (r b : Int) : Nat := if r / b % 2 = 1 then 119 else 45
noncomputable def sgnS (k : Int) : Nat := if k = 0 then 45 else if k = 1 then 120 else if k = 2 then 83 else 115
noncomputable def sgnT (k : Int) : Nat := if k = 0 then 45 else if k = 1 then 120 else if k = 2 then 84 else 116
theorem sg_lo (a b : Int) : 0 ≤ a % 2 + 2 * (b % 2) := by omega
theorem sg_hi (a b : Int) : a % 2 + 2 * (b % 2) < 4 := by omega
theorem sg_63 (a b : Int) : a % 2 + 2 * (b % 2) < 2 ^ 63 := by omega
theorem m84 (y : Int) : 3 < y % 8 ↔ y / 4 % 2 = 1 := by omega
theorem m82 (y : Int) : y % 8 % 2 = y % 2 := by omega
theorem m822 (y : Int) : y % 8 / 2 % 2 = y / 2 % 2 := by omega
theorem rc_of {x b c : Int} (hc : b * 4 = c) (hb : 0 ≤ b) : (if decide (3 < x / b % 8) = true then 114 else 45) = rc x c := by
  unfold rc; simp only [decide_eq_true_eq, m84, Int.ediv_ediv_of_nonneg hb, hc]
theorem wc_of {x b c : Int} (hc : b * 2 = c) (hb : 0 ≤ b) : (if (x / b % 8 / 2 % 2 == 1) = true then 119 else 45) = wc x c := by
  unfold wc; simp only [beq_iff_eq, m822, Int.ediv_ediv_of_nonneg hb, hc]
theorem sgnS_at {k : Int} (h0 : 0 ≤ k) (h1 : k < 4) : (Str.ofString "-xSs").cps[k.toNat]? = some (sgnS k) := by
  have : k = 0 ∨ k = 1 ∨ k = 2 ∨ k = 3 := by omega
  rcases this with rfl | rfl | rfl | rfl <;> decide +kernel
theorem sgnT_at {k : Int} (h0 : 0 ≤ k) (h1 : k < 4) : (Str.ofString "-xTt").cps[k.toNat]? = some (sgnT k) := by
  have : k = 0 ∨ k = 1 ∨ k = 2 ∨ k = 3 := by omega
  rcases this with rfl | rfl | rfl | rfl <;> decide +kernel
noncomputable def rowStr (k : Nat) (r : Int) : Str := ⟨#[kindC k, rc r 256, wc r 128, sgnS (r / 64 % 2 + 2 * (r / 2048 % 2)), rc r 32, wc r 16, sgnS (r / 8 % 2 + 2 * (r / 1024 % 2)), rc r 4, wc r 2, sgnT (r % 2 + 2 * (r / 512 % 2))]⟩
theorem rS (b : Bool) : (if b = true then Str.ofString "r" else Str.ofString "-") = ⟨#[if b = true then 114 else 45]⟩ := by cases b <;> decide +kernel
theorem wS (b : Bool) : (if b = true then Str.ofString "w" else Str.ofString "-") = ⟨#[if b = true then 119 else 45]⟩ := by cases b <;> decide +kernel
theorem strcat (a b : Array Nat) : (⟨a⟩ : Str) ++ (⟨b⟩ : Str) = ⟨a ++ b⟩ := rfl
theorem and_pow (m n : Nat) : m &&& 2 ^ n = if m / 2 ^ n % 2 = 1 then 2 ^ n else 0 := by
  apply Nat.eq_of_testBit_eq
  intro i
  rw [Nat.testBit_and, Nat.testBit_two_pow]
  by_cases hi : n = i
  · subst hi
    split
    · rename_i h; rw [Nat.testBit_two_pow_self]; simp [Nat.testBit_eq_decide_div_mod_eq, h]
    · rename_i h; simp [Nat.testBit_eq_decide_div_mod_eq, h]
  · split
    · rw [Nat.testBit_two_pow]; simp [hi]
    · simp [hi]
theorem bitAnd_nat (m n : Nat) : Builtin.bitAnd (m : Int) (n : Int) = ((m &&& n : Nat) : Int) := by
  unfold Builtin.bitAnd; simp
theorem bit1 (m n b : Nat) (hb : b = 2 ^ n) : (Builtin.bitAnd (m : Int) (b : Int) == (b : Int)) = decide (m / b % 2 = 1) := by
  subst hb
  rw [bitAnd_nat, and_pow]
  have : 2 ^ n ≠ 0 := Nat.pos_iff_ne_zero.mp (Nat.two_pow_pos n)
  by_cases h : m / 2 ^ n % 2 = 1
  · rw [if_pos h]; simp [h]
  · rw [if_neg h]
    have e : ((0 : Nat) : Int) ≠ ((2 ^ n : Nat) : Int) := by (lia -abstractProof)
    rw [beq_eq_false_iff_ne.mpr e]; simp [h]
theorem bit2 (m i j b c d : Nat) (hb : b = 2 ^ i) (hc : c = 2 ^ j) (hd : d = b ||| c) (hbc : d = b + c) : (Builtin.bitAnd (m : Int) (d : Int) == (d : Int)) = (decide (m / b % 2 = 1) && decide (m / c % 2 = 1)) := by
  rw [bitAnd_nat, hd, Nat.and_or_distrib_left]
  have h1 := and_pow m i
  have h2 := and_pow m j
  rw [← hb] at h1
  rw [← hc] at h2
  have p1 : 0 < b := by rw [hb]; exact Nat.two_pow_pos i
  have p2 : 0 < c := by rw [hc]; exact Nat.two_pow_pos j
  rw [h1, h2, ← hd, hbc]
  by_cases q1 : m / b % 2 = 1 <;> by_cases q2 : m / c % 2 = 1
  · simp only [q1, q2, if_true, decide_true, Bool.and_true]; rw [← hd, hbc]; simp
  · simp only [q1, q2, if_true, if_false, decide_true, decide_false, Bool.and_false, Nat.or_zero]
    rw [beq_eq_false_iff_ne]; (lia -abstractProof)
  · simp only [q1, q2, if_true, if_false, decide_true, decide_false, Bool.false_and, Nat.zero_or]
    rw [beq_eq_false_iff_ne]; (lia -abstractProof)
  · simp only [q1, q2, if_false, decide_false, Bool.and_false, Nat.or_zero]
    rw [beq_eq_false_iff_ne]; (lia -abstractProof)
theorem pick1 {m i n b : Nat} {bI : Int} {c : Str} (hi : i ≠ 0) (hb : b = 2 ^ n) (hI : bI = (b : Int)) : pickF (m : Int) i [(bI, c)] = if m / b % 2 = 1 then c else Str.ofString "-" := by
  subst hI
  unfold pickF
  simp only [List.find?_cons, List.find?_nil, hitF, if_neg hi, bit1 m n b hb]
  by_cases h : m / b % 2 = 1 <;> simp [h]
theorem pick3 {m i x y b c : Nat} {dI bI cI : Int} {s1 s2 s3 : Str} (hi : i ≠ 0) (hb : b = 2 ^ x) (hc : c = 2 ^ y) (hd : b + c = b ||| c) (hI : bI = (b : Int)) (hJ : cI = (c : Int)) (hK : dI = ((b + c : Nat) : Int)) :
    pickF (m : Int) i [(dI, s1), (cI, s2), (bI, s3)] = if m / b % 2 = 1 ∧ m / c % 2 = 1 then s1 else if m / c % 2 = 1 then s2 else if m / b % 2 = 1 then s3 else Str.ofString "-" := by
  subst hI hJ hK
  unfold pickF
  simp only [List.find?_cons, List.find?_nil, hitF, if_neg hi, bit1 m x b hb, bit1 m y c hc, bit2 m x y b c (b + c) hb hc hd rfl]
  by_cases h : m / b % 2 = 1 <;> by_cases h' : m / c % 2 = 1 <;> simp [h, h']
theorem ifmt_and {k n : Nat} (hk : k = 1 ∨ k = 2 ∨ k = 4 ∨ k = 6 ∨ k = 8 ∨ k = 10 ∨ k = 12) (hn : n < 4096) : Builtin.bitAnd ((k * 4096 + n : Nat) : Int) 61440 = ((k * 4096 : Nat) : Int) := by
  rw [show (61440 : Int) = ((61440 : Nat) : Int) from rfl, bitAnd_nat, show (61440 : Nat) = 2 ^ 12 ||| 2 ^ 13 ||| 2 ^ 14 ||| 2 ^ 15 from by decide]
  have h : ∀ i, (k * 4096 + n) / 2 ^ (12 + i) = k / 2 ^ i := fun i => by
    rw [Nat.pow_add, ← Nat.div_div_eq_div_mul, Nat.add_comm, Nat.add_mul_div_right _ _ (by decide : 0 < 4096), Nat.div_eq_of_lt hn, Nat.zero_add]
  rw [Nat.and_or_distrib_left, Nat.and_or_distrib_left, Nat.and_or_distrib_left, and_pow, and_pow, and_pow, and_pow, h 0, h 1, h 2, h 3]
  rcases hk with rfl | rfl | rfl | rfl | rfl | rfl | rfl <;> decide
theorem bitP {k n m b c : Nat} (hm : k * 4096 + n = m) (hb : 4096 = b * (2 * c)) (h0 : 0 < b) : (m / b % 2 = 1) = ((n : Int) / (b : Int) % 2 = 1) := by
  have e : m / b % 2 = n / b % 2 := by
    rw [← hm, hb, show k * (b * (2 * c)) + n = n + b * (2 * (k * c)) by rw [Nat.add_comm]; simp [Nat.mul_left_comm], Nat.add_mul_div_left _ _ h0, Nat.add_mul_mod_self_left]
  rw [e, show (n : Int) / (b : Int) % 2 = ((n / b % 2 : Nat) : Int) by simp]
  exact propext ⟨fun h => by rw [h]; rfl, fun h => Int.ofNat.inj h⟩
theorem glue10 (a b c d e f g h i j : Nat) : Txt.join (Str.ofString "") [⟨#[a]⟩, ⟨#[b]⟩, ⟨#[c]⟩, ⟨#[d]⟩, ⟨#[e]⟩, ⟨#[f]⟩, ⟨#[g]⟩, ⟨#[h]⟩, ⟨#[i]⟩, ⟨#[j]⟩] = ⟨#[a, b, c, d, e, f, g, h, i, j]⟩ := by
  have e : (Str.ofString "") = ⟨#[]⟩ := by decide +kernel
  rw [e]; rfl
theorem kindV_in {k : Nat} (h : k < 7) : kindV k = 1 ∨ kindV k = 2 ∨ kindV k = 4 ∨ kindV k = 6 ∨ kindV k = 8 ∨ kindV k = 10 ∨ kindV k = 12 := by
  rcases kind_cases h with rfl | rfl | rfl | rfl | rfl | rfl | rfl <;> decide
theorem filemode_row {k n : Nat} (hk : k < 7) (hn : n < 4096) : Txt.join (Str.ofString "") (picksF ((kindV k * 4096 + n : Nat) : Int) 0 tbl) = rowStr k n := by
  generalize hm : kindV k * 4096 + n = m
  have e0 : pickF (m : Int) 0 [(40960, "l"), (49152, "s"), (32768, "-"), (24576, "b"), (16384, "d"), (8192, "c"), (4096, "p")] = ⟨#[kindC k]⟩ := by
    unfold pickF hitF
    rw [← hm]
    simp only [ifmt_and (kindV_in hk) hn, if_true]
    rcases kind_cases hk with rfl | rfl | rfl | rfl | rfl | rfl | rfl <;> decide +kernel
  have cr : ∀ p : Prop, [Decidable p] → (if p then Str.ofString "r" else Str.ofString "-") = ⟨#[if p then 114 else 45]⟩ := fun p _ => by split <;> decide +kernel
  have cw : ∀ p : Prop, [Decidable p] → (if p then Str.ofString "w" else Str.ofString "-") = ⟨#[if p then 119 else 45]⟩ := fun p _ => by split <;> decide +kernel
  have cs : ∀ p q : Prop, [Decidable p] → [Decidable q] → (if p ∧ q then Str.ofString "s" else if q then Str.ofString "S" else if p then Str.ofString "x" else Str.ofString "-") = ⟨#[sgnS ((if p then 1 else 0) + 2 * (if q then 1 else 0))]⟩ := fun p q _ _ => by
    by_cases h1 : p <;> by_cases h2 : q <;> simp only [h1, h2, and_self, and_true, and_false, true_and, false_and, if_true, if_false] <;> decide +kernel
  have ct : ∀ p q : Prop, [Decidable p] → [Decidable q] → (if p ∧ q then Str.ofString "t" else if q then Str.ofString "T" else if p then Str.ofString "x" else Str.ofString "-") = ⟨#[sgnT ((if p then 1 else 0) + 2 * (if q then 1 else 0))]⟩ := fun p q _ _ => by
    by_cases h1 : p <;> by_cases h2 : q <;> simp only [h1, h2, and_self, and_true, and_false, true_and, false_and, if_true, if_false] <;> decide +kernel
  have e1 := (pick1 (m := m) (i := 1) (n := 8) (b := 256) (bI := 256) (c := Str.ofString "r") (by decide) rfl rfl).trans (cr _)
  have e2 := (pick1 (m := m) (i := 2) (n := 7) (b := 128) (bI := 128) (c := Str.ofString "w") (by decide) rfl rfl).trans (cw _)
  have e3 := (pick3 (m := m) (i := 3) (x := 6) (y := 11) (b := 64) (c := 2048) (dI := 2112) (bI := 64) (cI := 2048) (s1 := Str.ofString "s") (s2 := Str.ofString "S") (s3 := Str.ofString "x") (by decide) rfl rfl (by decide) rfl rfl rfl).trans (cs _ _)
  have e4 := (pick1 (m := m) (i := 4) (n := 5) (b := 32) (bI := 32) (c := Str.ofString "r") (by decide) rfl rfl).trans (cr _)
  have e5 := (pick1 (m := m) (i := 5) (n := 4) (b := 16) (bI := 16) (c := Str.ofString "w") (by decide) rfl rfl).trans (cw _)
  have e6 := (pick3 (m := m) (i := 6) (x := 3) (y := 10) (b := 8) (c := 1024) (dI := 1032) (bI := 8) (cI := 1024) (s1 := Str.ofString "s") (s2 := Str.ofString "S") (s3 := Str.ofString "x") (by decide) rfl rfl (by decide) rfl rfl rfl).trans (cs _ _)
  have e7 := (pick1 (m := m) (i := 7) (n := 2) (b := 4) (bI := 4) (c := Str.ofString "r") (by decide) rfl rfl).trans (cr _)
  have e8 := (pick1 (m := m) (i := 8) (n := 1) (b := 2) (bI := 2) (c := Str.ofString "w") (by decide) rfl rfl).trans (cw _)
  have e9 := (pick3 (m := m) (i := 9) (x := 0) (y := 9) (b := 1) (c := 512) (dI := 513) (bI := 1) (cI := 512) (s1 := Str.ofString "t") (s2 := Str.ofString "T") (s3 := Str.ofString "x") (by decide) rfl rfl (by decide) rfl rfl rfl).trans (ct _ _)
  show Txt.join _ [pickF (m : Int) 0 _, pickF (m : Int) 1 _, pickF (m : Int) 2 _, pickF (m : Int) 3 _, pickF (m : Int) 4 _, pickF (m : Int) 5 _, pickF (m : Int) 6 _, pickF (m : Int) 7 _, pickF (m : Int) 8 _, pickF (m : Int) 9 _] = _
  rw [e0, e1, e2, e3, e4, e5, e6, e7, e8, e9, glue10]
  have q : ∀ x : Int, (if x % 2 = 1 then (1 : Int) else 0) = x % 2 := fun x => by
    rcases Int.emod_two_eq x with e | e <;> rw [e] <;> rfl
  have b1 : (m / 256 % 2 = 1) = ((n : Int) / 256 % 2 = 1) := bitP hm (b := 256) (c := 8) rfl (by decide)
  have b2 : (m / 128 % 2 = 1) = ((n : Int) / 128 % 2 = 1) := bitP hm (b := 128) (c := 16) rfl (by decide)
  have b3 : (m / 64 % 2 = 1) = ((n : Int) / 64 % 2 = 1) := bitP hm (b := 64) (c := 32) rfl (by decide)
  have b4 : (m / 2048 % 2 = 1) = ((n : Int) / 2048 % 2 = 1) := bitP hm (b := 2048) (c := 1) rfl (by decide)
  have b5 : (m / 32 % 2 = 1) = ((n : Int) / 32 % 2 = 1) := bitP hm (b := 32) (c := 64) rfl (by decide)
  have b6 : (m / 16 % 2 = 1) = ((n : Int) / 16 % 2 = 1) := bitP hm (b := 16) (c := 128) rfl (by decide)
  have b7 : (m / 8 % 2 = 1) = ((n : Int) / 8 % 2 = 1) := bitP hm (b := 8) (c := 256) rfl (by decide)
  have b8 : (m / 1024 % 2 = 1) = ((n : Int) / 1024 % 2 = 1) := bitP hm (b := 1024) (c := 2) rfl (by decide)
  have b9 : (m / 4 % 2 = 1) = ((n : Int) / 4 % 2 = 1) := bitP hm (b := 4) (c := 512) rfl (by decide)
  have b10 : (m / 2 % 2 = 1) = ((n : Int) / 2 % 2 = 1) := bitP hm (b := 2) (c := 1024) rfl (by decide)
  have b11 : (m / 1 % 2 = 1) = ((n : Int) / 1 % 2 = 1) := bitP hm (b := 1) (c := 2048) rfl (by decide)
  have b12 : (m / 512 % 2 = 1) = ((n : Int) / 512 % 2 = 1) := bitP hm (b := 512) (c := 4) rfl (by decide)
  simp only [b1, b2, b3, b4, b5, b6, b7, b8, b9, b10, b11, b12, q, Int.ediv_one]
  rfl
set_option maxHeartbeats 2000000 in
theorem con_row (w : World) (base : Heap) (k : Nat) (r : Int) (hk : k < 7) : Con (W1 w base) 3 (.ref 226) [.int k, .int r] (.str (rowStr k r)) := by
  refine Con.of (fn_l_row w base) rfl ?_
  dsimp only [List.zip, List.zipWith, List.map, List.append_nil, List.cons_append, List.nil_append]
  refine Ex.cons (Ex1.assign (d := .str ⟨#[kindC k]⟩) locOk (Ev.item_str (k := (k : Nat)) Ev.const_str (Ev.name (by k_extra "mem")) (by lia) (by lia) (kindC_at hk)) (by k_extra "upd") ?_)
  refine Ex.cons (Ex1.forU (It.range1 (by kernel_rfl) (gn_range w base) (by kernel_rfl) Ev.const_int (by decide) (by decide)).s ?_)
  show ForG _ _ _ _ _ _ _ _ [.int 0, .int 1, .int 2] _
  refine ⟨_, Asg.name locOk (by k_extra "upd"), ?_⟩
  refine Ex.cons (Ex1.assign locOk (by k_extra "ev") (by k_extra "upd") ?_)
  refine Ex.cons (Ex1.assign locOk (by k_extra "ev") (by k_extra "upd") ?_)
  refine Ex.cons (Ex1.assign locOk (by k_extra "ev") (by k_extra "upd") ?_)
  refine Ex.cons (Ex1.assign locOk (Ev.add_str (by k_extra "ev") (Ev.item_str (by k_extra "ev") (by k_extra "ev") (sg_lo _ _) (sg_63 _ _) (sgnS_at (sg_lo _ _) (sg_hi _ _))) (by k_extra "slen")) (by k_extra "upd") (Ex.nil ?_))
  refine ⟨_, Asg.name locOk (by k_extra "upd"), ?_⟩
  refine Ex.cons (Ex1.assign locOk (by k_extra "ev") (by k_extra "upd") ?_)
  refine Ex.cons (Ex1.assign locOk (by k_extra "ev") (by k_extra "upd") ?_)
  refine Ex.cons (Ex1.assign locOk (by k_extra "ev") (by k_extra "upd") ?_)
  refine Ex.cons (Ex1.assign locOk (Ev.add_str (by k_extra "ev") (Ev.item_str (by k_extra "ev") (by k_extra "ev") (sg_lo _ _) (sg_63 _ _) (sgnS_at (sg_lo _ _) (sg_hi _ _))) (by k_extra "slen")) (by k_extra "upd") (Ex.nil ?_))
  refine ⟨_, Asg.name locOk (by k_extra "upd"), ?_⟩
  refine Ex.cons (Ex1.assign locOk (by k_extra "ev") (by k_extra "upd") ?_)
  refine Ex.cons (Ex1.assign locOk (by k_extra "ev") (by k_extra "upd") ?_)
  refine Ex.cons (Ex1.assign locOk (by k_extra "ev") (by k_extra "upd") ?_)
  refine Ex.cons (Ex1.assign locOk (Ev.add_str (by k_extra "ev") (Ev.item_str (by k_extra "ev") (by k_extra "ev") (sg_lo _ _) (sg_63 _ _) (sgnT_at (sg_lo _ _) (sg_hi _ _))) (by k_extra "slen")) (by k_extra "upd") (Ex.nil ?_))
  refine Ex.nil ?_
  refine Ex.cons (Ex1.ret (Ev.name (by k_extra "mem")) ?_)
  show PyData.str _ = PyData.str _
  simp only [rS, wS, strcat]
  have e : ∀ a b : Array Nat, a = b → PyData.str ⟨a⟩ = PyData.str ⟨b⟩ := fun a b h => by rw [h]
  refine e _ _ ?_
  rw [rc_of (b := 64) (c := 256) rfl (by decide), wc_of (b := 64) (c := 128) rfl (by decide), rc_of (b := 8) (c := 32) rfl (by decide), wc_of (b := 8) (c := 16) rfl (by decide), rc_of (b := 1) (c := 4) rfl (by decide), wc_of (b := 1) (c := 2) rfl (by decide), m82, m82, m82, Int.ediv_one]
  rfl
theorem con_mode (w : World) (base : Heap) (k : Nat) (r : Int) (hk : k < 7) : Con (W1 w base) 1 (.ref 219) [.int (k : Nat), .int r] (.int ((kindV k : Nat) * 4096 + r)) := by
  refine Con.of (fn_l_mode w base) rfl ?_
  dsimp only [List.zip, List.zipWith, List.map, List.append_nil, List.cons_append, List.nil_append]
  exact Ex.cons (Ex1.ret (Ev.add (Ev.mul (a := (kindV k : Nat)) (Ev.item_tuple (k := (k : Nat)) (by k_extra "ev") (by k_extra "ev") (by lia) (by lia) (kindV_at hk)) (by k_extra "ev") (IntMulOk.of_right (by decide))) (by k_extra "ev")) rfl)
theorem con_filerow (w : World) (base : Heap) (k n : Nat) (hk : k < 7) (hn : n < 4096) : Con (W1 w base) 4 (.ref 75) [.int ((kindV k : Nat) * 4096 + (n : Nat))] (.str (rowStr k n)) := by
  have := con_filemode w base ((kindV k * 4096 + n : Nat) : Int)
  rw [filemode_row hk hn] at this
  simpa using this
theorem getD_at {ns : List Int} {i : Nat} (h : i < ns.length) : (ns.map PyData.int)[i]? = some (.int (ns.getD i 0)) := by
  simp [h]
theorem rangeD_at {b : Int} {i : Nat} {d : PyData} (h : (rangeD 0 b)[i]? = some d) : d = .int i ∧ (i : Int) < b := by
  unfold rangeD at h
  rw [List.getElem?_map] at h
  obtain ⟨j, hj, rfl⟩ := Option.map_eq_some_iff.mp h
  obtain ⟨h1, h2⟩ := List.getElem?_eq_some_iff.mp hj
  simp at h1 h2
  subst h2
  exact ⟨by simp, by lia⟩
theorem rangeD_len (b : Int) : (rangeD 0 b).length = b.toNat := by simp [rangeD]
theorem sh1 {c : Nat} (h : c < 128) : SeqAt.shaped (.str ⟨#[c]⟩) = true := by
  have : ∀ c : Nat, c < 128 → SeqAt.shaped (.str ⟨#[c]⟩) = true := by decide +kernel
  exact this c h
theorem ksz : (1000 : Nat) ≤ sizeLine := by rw [sizeLine_eq]; decide
noncomputable abbrev natI (l : List Nat) : List Int := l.map fun n : Nat => (n : Int)
noncomputable def bitsL (n : Nat) : List Int := natI ((List.range 12).filter n.testBit)
noncomputable def bOrd : List Nat := [8, 7, 6, 11, 5, 4, 3, 10, 2, 1, 0, 9]
noncomputable def bitsU (n i : Nat) : List Int := natI ((bOrd.take (4 * i)).filter n.testBit)
theorem rise_le {l : List Int} (h : l.Pairwise (· < ·)) : l.Pairwise (· ≤ ·) := h.imp fun h => Int.le_of_lt h
theorem bitsL_rise (n : Nat) : (bitsL n).Pairwise (· < ·) := by
  unfold bitsL natI
  rw [List.pairwise_map]
  exact (List.pairwise_lt_range.filter _).imp fun h => Int.ofNat_lt.mpr h
theorem bitsU_sort (n : Nat) : sortI (bitsU n 3) = bitsL n := by
  refine sorted_unique ((sortI_perm _).trans ?_) (sortI_sorted _) (rise_le (bitsL_rise n))
  have : bOrd.Perm (List.range 12) := by decide
  exact (this.filter _).map _
theorem bitsU_len (n i : Nat) : (bitsU n i).length ≤ 12 := by
  unfold bitsU natI
  rw [List.length_map]
  refine Nat.le_trans (List.length_filter_le _ _) ?_
  rw [List.length_take]
  exact Nat.le_trans (Nat.min_le_right _ _) (by decide)
noncomputable def one (b : Bool) (k : Int) : List Int := if b then [k] else []
theorem one_map (b : Bool) (k : Int) : (if b = true then [PyData.int k] else []) = (one b k).map .int := by cases b <;> rfl
theorem one_filter {f : Nat → Bool} {a : Nat} {l : List Nat} : (a :: l).filter f = (if f a then [a] else []) ++ l.filter f := by
  rw [List.filter_cons]; split <;> rfl
theorem one_nat (b : Bool) (k : Nat) : natI (if b = true then [k] else []) = one b k := by cases b <;> rfl
theorem bitsU_succ (n : Nat) {i : Nat} (h : i < 3) : bitsU n (i + 1) = bitsU n i ++ one (n.testBit (8 - 3 * i)) ((8 : Int) - 3 * (i : Nat)) ++ one (n.testBit (7 - 3 * i)) ((7 : Int) - 3 * (i : Nat)) ++ one (n.testBit (6 - 3 * i)) ((6 : Int) - 3 * (i : Nat)) ++ one (n.testBit (11 - i)) ((11 : Int) - (i : Nat)) := by
  have e : ∀ a b c d : Nat, natI ([a, b, c, d].filter n.testBit) = one (n.testBit a) a ++ (one (n.testBit b) b ++ (one (n.testBit c) c ++ one (n.testBit d) d)) := fun a b c d => by
    simp only [one_filter, List.filter_nil, List.append_nil, natI, List.map_append]
    simp only [← one_nat, natI]
  have : i = 0 ∨ i = 1 ∨ i = 2 := by lia
  have s : ∀ j, bOrd.take (4 * (j + 1)) = bOrd.take (4 * j) ++ (bOrd.drop (4 * j)).take 4 := fun j => by rw [Nat.mul_succ, List.take_add]
  unfold bitsU
  rw [s, List.filter_append, natI, List.map_append]
  simp only [List.append_assoc]
  congr 1
  rcases this with rfl | rfl | rfl
  · exact e 8 7 6 11
  · exact e 5 4 3 10
  · exact e 2 1 0 9
noncomputable def sg (i : Nat) (x y : Bool) : Nat := if i < 2 then (if y then (if x then 115 else 83) else if x then 120 else 45) else (if y then (if x then 116 else 84) else if x then 120 else 45)
theorem sg_lt (i : Nat) (x y : Bool) : sg i x y < 128 := by unfold sg; split <;> cases x <;> cases y <;> decide
theorem tb (n i : Nat) : n.testBit i = decide ((n : Int) / (2 ^ i : Nat) % 2 = 1) := by
  rw [Nat.testBit_eq_decide_div_mod_eq]
  have : ((n : Int) / (2 ^ i : Nat) % 2 = 1) ↔ n / 2 ^ i % 2 = 1 := by
    have : ((n / 2 ^ i % 2 : Nat) : Int) = (n : Int) / (2 ^ i : Nat) % 2 := by simp
    rw [← this]
    exact ⟨fun h => Int.ofNat.inj h, fun h => by rw [h]; rfl⟩
  simp only [this]
theorem rc_tb (n i : Nat) {b : Int} (h : b = (2 ^ i : Nat)) : rc n b = if n.testBit i then 114 else 45 := by
  rw [tb, ← h]; unfold rc; split <;> rename_i q <;> simp [q]
theorem wc_tb (n i : Nat) {b : Int} (h : b = (2 ^ i : Nat)) : wc n b = if n.testBit i then 119 else 45 := by
  rw [tb, ← h]; unfold wc; split <;> rename_i q <;> simp [q]
theorem bit_tb (n i : Nat) {b : Int} (h : b = (2 ^ i : Nat)) : (n : Int) / b % 2 = if n.testBit i then 1 else 0 := by
  rw [tb, ← h]
  rcases Int.emod_two_eq ((n : Int) / b) with q | q <;> rw [q] <;> rfl
theorem sgnS_tb (i : Nat) (h : i < 2) (x y : Bool) : sgnS ((if x then 1 else 0) + 2 * if y then 1 else 0) = sg i x y := by unfold sg; rw [if_pos h]; cases x <;> cases y <;> rfl
theorem sgnT_tb (x y : Bool) : sgnT ((if x then 1 else 0) + 2 * if y then 1 else 0) = sg 2 x y := by cases x <;> cases y <;> rfl
theorem rowStr_eq (k n : Nat) : rowStr k n = ⟨#[kindC k, if n.testBit 8 then 114 else 45, if n.testBit 7 then 119 else 45, sg 0 (n.testBit 6) (n.testBit 11), if n.testBit 5 then 114 else 45, if n.testBit 4 then 119 else 45, sg 1 (n.testBit 3) (n.testBit 10), if n.testBit 2 then 114 else 45, if n.testBit 1 then 119 else 45, sg 2 (n.testBit 0) (n.testBit 9)]⟩ := by
  unfold rowStr
  rw [rc_tb n 8 (b := 256) rfl, wc_tb n 7 (b := 128) rfl, rc_tb n 5 (b := 32) rfl, wc_tb n 4 (b := 16) rfl, rc_tb n 2 (b := 4) rfl, wc_tb n 1 (b := 2) rfl, bit_tb n 6 (b := 64) rfl, bit_tb n 11 (b := 2048) rfl, bit_tb n 3 (b := 8) rfl, bit_tb n 10 (b := 1024) rfl, bit_tb n 9 (b := 512) rfl, show (n : Int) % 2 = (n : Int) / 1 % 2 by rw [Int.ediv_one], bit_tb n 0 (b := 1) rfl, sgnS_tb 0 (by decide), sgnS_tb 1 (by decide), sgnT_tb]
theorem row_r (k n : Nat) {i : Nat} (h : i < 3) : (rowStr k n).cps[(3 * (i : Nat) + 1 : Int).toNat]? = some (if n.testBit (8 - 3 * i) then 114 else 45) := by
  have : i = 0 ∨ i = 1 ∨ i = 2 := by lia
  rw [rowStr_eq]
  rcases this with rfl | rfl | rfl <;> rfl
theorem row_w (k n : Nat) {i : Nat} (h : i < 3) : (rowStr k n).cps[(3 * (i : Nat) + 2 : Int).toNat]? = some (if n.testBit (7 - 3 * i) then 119 else 45) := by
  have : i = 0 ∨ i = 1 ∨ i = 2 := by lia
  rw [rowStr_eq]
  rcases this with rfl | rfl | rfl <;> rfl
theorem row_s (k n : Nat) {i : Nat} (h : i < 3) : (rowStr k n).cps[(3 * (i : Nat) + 3 : Int).toNat]? = some (sg i (n.testBit (6 - 3 * i)) (n.testBit (11 - i))) := by
  have : i = 0 ∨ i = 1 ∨ i = 2 := by lia
  rw [rowStr_eq]
  rcases this with rfl | rfl | rfl <;> rfl
theorem is_r (b : Bool) : PyData.eqv (.str ⟨#[if b then 114 else 45]⟩) (.str (Str.ofString "r")) = b := by cases b <;> decide +kernel
theorem is_w (b : Bool) : PyData.eqv (.str ⟨#[if b then 119 else 45]⟩) (.str (Str.ofString "w")) = b := by cases b <;> decide +kernel
theorem sg3 {i : Nat} (h : i < 3) (x y : Bool) : sg i x y = sg 0 x y ∨ sg i x y = sg 2 x y := by
  have : i = 0 ∨ i = 1 ∨ i = 2 := by lia
  rcases this with rfl | rfl | rfl
  · exact .inl rfl
  · exact .inl rfl
  · exact .inr rfl
theorem is_x {i : Nat} (h : i < 3) (x y : Bool) : ([PyData.str (Str.ofString "x"), .str (Str.ofString "s"), .str (Str.ofString "t")].any fun z => PyData.eqv z (.str ⟨#[sg i x y]⟩)) = x := by
  rcases sg3 h x y with e | e <;> rw [e] <;> cases x <;> cases y <;> decide +kernel
theorem is_s {i : Nat} (h : i < 3) (x y : Bool) : ([PyData.str (Str.ofString "s"), .str (Str.ofString "S"), .str (Str.ofString "t"), .str (Str.ofString "T")].any fun z => PyData.eqv z (.str ⟨#[sg i x y]⟩)) = y := by
  rcases sg3 h x y with e | e <;> rw [e] <;> cases x <;> cases y <;> decide +kernel
noncomputable abbrev biV (k n : Nat) (l : List Int) (t s : B) : Vars := [(Str.ofString "row", .sh (.str (rowStr k n))), (Str.ofString "bits", .l1 (l.map .int)), (Str.ofString "turn", t), (Str.ofString "sign", s)]
set_option maxHeartbeats 4000000 in
theorem con_bits (w : World) (base : Heap) (k n : Nat) : Con (W1 w base) 1 (.ref 233) [.str (rowStr k n)] (.list ((bitsL n).map .int)) := by
  refine Con.of (fn_l_bits w base) rfl ?_
  dsimp only [List.zip, List.zipWith, List.map, List.append_nil, List.cons_append, List.nil_append]
  refine Ex.cons (Ex1.assign_nil locOk (by k_extra "upd") ?_)
  refine Ex.cons (Ex1.forS (σ := Nat) (It.range1 (by kernel_rfl) (gn_range w base) (by kernel_rfl) Ev.const_int (by decide) (by decide)).s
    (fun j => biV k n (bitsU n j) .un .un) (fun i j => j = i) 0 rfl (.same (.same (.un (.un .nil)))) ?_ ?_)
  · rintro i' d i hd rfl
    obtain ⟨rfl, hi⟩ := rangeD_at hd
    have hi : i < 3 := by lia
    have hl := bitsU_len n i
    have pc : ∀ b : Bool, (if b then 114 else 45) < 128 := fun b => by cases b <;> decide
    have pw : ∀ b : Bool, (if b then 119 else 45) < 128 := fun b => by cases b <;> decide
    have l1 : ∀ (b : Bool) (x : Int), (one b x).length ≤ 1 := fun b x => by cases b <;> simp [one]
    refine ⟨_, Asg.name locOk (by k_extra "upd"), ?_⟩
    refine Ex.cons (Ex1.assign (d := .str ⟨#[sg i (n.testBit (6 - 3 * i)) (n.testBit (11 - i))]⟩) locOk (Ev.item_str (by k_extra "ev") (by k_extra "ev") (by lia) (by lia) (row_s k n hi)) (by k_extra "upd") ?_)
    refine Ex.cons (Ex1.if_append (b := n.testBit (8 - 3 * i)) (d := .int (8 - 3 * (i : Nat))) (EvT.of_eq (EvT.cmp (Ev.eq_any (Ev.item_str (by k_extra "ev") (by k_extra "ev") (by lia) (by lia) (row_r k n hi)) Ev.const_str (sh1 (pc _)) (by decide +kernel))) (is_r _)) (by k_extra "mem") (fun _ => by k_extra "ev") (by rw [List.length_map]; lia) (by k_extra "upd") ?_)
    rw [one_map, ← List.map_append]
    refine Ex.cons (Ex1.if_append (b := n.testBit (7 - 3 * i)) (d := .int (7 - 3 * (i : Nat))) (EvT.of_eq (EvT.cmp (Ev.eq_any (Ev.item_str (by k_extra "ev") (by k_extra "ev") (by lia) (by lia) (row_w k n hi)) Ev.const_str (sh1 (pw _)) (by decide +kernel))) (is_w _)) (by k_extra "mem") (fun _ => by k_extra "ev") (by rw [List.length_map, List.length_append]; have := l1 (n.testBit (8 - 3 * i)) (8 - 3 * (i : Nat)); lia) (by k_extra "upd") ?_)
    rw [one_map, ← List.map_append]
    refine Ex.cons (Ex1.if_append (b := n.testBit (6 - 3 * i)) (d := .int (6 - 3 * (i : Nat))) (EvT.of_eq (EvT.cmp (Ev.in_tuple (d := .str ⟨#[sg i (n.testBit (6 - 3 * i)) (n.testBit (11 - i))]⟩) (by k_extra "ev") (by k_extra "ev") (by decide +kernel) (sh1 (sg_lt _ _ _)))) (is_x hi _ _)) (by k_extra "mem") (fun _ => by k_extra "ev") (by rw [List.length_map, List.length_append, List.length_append]; have := l1 (n.testBit (8 - 3 * i)) (8 - 3 * (i : Nat)); have := l1 (n.testBit (7 - 3 * i)) (7 - 3 * (i : Nat)); lia) (by k_extra "upd") ?_)
    rw [one_map, ← List.map_append]
    refine Ex.cons (Ex1.if_append (b := n.testBit (11 - i)) (d := .int (11 - (i : Nat))) (EvT.of_eq (EvT.cmp (Ev.in_tuple (d := .str ⟨#[sg i (n.testBit (6 - 3 * i)) (n.testBit (11 - i))]⟩) (by k_extra "ev") (by k_extra "ev") (by decide +kernel) (sh1 (sg_lt _ _ _)))) (is_s hi _ _)) (by k_extra "mem") (fun _ => by k_extra "ev") (by rw [List.length_map, List.length_append, List.length_append, List.length_append]; have := l1 (n.testBit (8 - 3 * i)) (8 - 3 * (i : Nat)); have := l1 (n.testBit (7 - 3 * i)) (7 - 3 * (i : Nat)); have := l1 (n.testBit (6 - 3 * i)) (6 - 3 * (i : Nat)); lia) (by k_extra "upd") (Ex.nil ⟨i + 1, rfl, ?_⟩))
    rw [one_map, ← List.map_append, ← bitsU_succ n hi]
    k_extra "fgt"
  · rintro i hi
    have hi : i = 3 := hi
    subst hi
    refine Ex.nil ?_
    refine Ex.freeze (x := Str.ofString "bits") (by k_extra "mem") (by k_extra "upd") ?_
    dsimp only [B.frozen]
    refine Ex.cons (Ex1.ret (Ev.callB (by kernel_rfl) (gn_sorted w base) (by kernel_rfl) (EvAll.cons (d := .list ((bitsU n 3).map .int)) (Ev.name (by k_extra "mem")) EvAll.nil) (Con.sorted_list (ht := 0) (by have := bitsU_len n 3; lia))) ?_)
    show _ = _
    rw [bitsU_sort]
noncomputable abbrev Rise (l : List Int) : Prop := l.Pairwise (· < ·)
theorem Rise.not_mem {e : Int} {E : List Int} (h : Rise (e :: E)) : ∀ x, x ≤ e → x ∉ E := fun x hx q => by
  have := (List.pairwise_cons.mp h).1 x q
  lia
theorem filter_tt (l : List Int) : l.filter (fun _ => true) = l := List.filter_eq_self.mpr fun _ _ => rfl
theorem sortI_mem {l : List Int} {x : Int} : x ∈ sortI l ↔ x ∈ l := (sortI_perm l).mem_iff
noncomputable def dbl (l : List Int) : List Int := l.flatMap fun x => [x, x]
theorem dbl_cons (x : Int) (l : List Int) : dbl (x :: l) = x :: x :: dbl l := by unfold dbl; rw [List.flatMap_cons]; rfl
theorem dbl_mem {l : List Int} {x : Int} : x ∈ dbl l ↔ x ∈ l := by unfold dbl; simp
theorem dbl_sorted {l : List Int} (h : Rise l) : (dbl l).Pairwise (· ≤ ·) := by
  induction l with
  | nil => exact .nil
  | cons x l ih =>
    obtain ⟨h1, h2⟩ := List.pairwise_cons.mp h
    rw [dbl_cons, List.pairwise_cons, List.pairwise_cons]
    have k : ∀ y ∈ dbl l, x ≤ y := fun y hy => by have := h1 y (dbl_mem.mp hy); lia
    exact ⟨fun y hy => (List.mem_cons.mp hy).elim (fun e => by lia) (k y), k, ih h2⟩
theorem dbl_perm (l : List Int) : (l ++ l).Perm (dbl l) := by
  rw [List.perm_iff_count]
  intro a
  induction l with
  | nil => rfl
  | cons x l ih =>
    rw [dbl_cons]
    simp only [List.count_append, List.count_cons] at ih ⊢
    lia
theorem sortI_twice {l : List Int} (h : Rise l) : sortI (l ++ l) = dbl l := sorted_unique ((sortI_perm _).trans (dbl_perm l)) (sortI_sorted _) (dbl_sorted h)
theorem dbl_len (l : List Int) : (dbl l).length = 2 * l.length := by
  induction l with
  | nil => rfl
  | cons x l ih => rw [dbl_cons]; simp only [List.length_cons, ih]; lia
theorem dbl_drop {e : Int} {E : List Int} (h : Rise (e :: E)) : (e :: dbl E).dropWhile (· == e) = dbl E := by
  rw [List.dropWhile_cons, if_pos (by simp)]
  cases E with
  | nil => rfl
  | cons x E =>
    have : e < x := (List.pairwise_cons.mp h).1 x List.mem_cons_self
    rw [dbl_cons, List.dropWhile_cons, if_neg]
    simp; lia
noncomputable def alone (xs ys : List Int) : List Int := (xs.filter fun x => !ys.contains x).flatMap fun x => if ys.any (fun y => decide (x < y)) then [x] else [x, x]
theorem flatMap_congr' {l : List Int} {f g : Int → List Int} (h : ∀ x ∈ l, f x = g x) : l.flatMap f = l.flatMap g := by
  induction l with
  | nil => rfl
  | cons x l ih => rw [List.flatMap_cons, List.flatMap_cons, h x List.mem_cons_self, ih fun y hy => h y (List.mem_cons_of_mem _ hy)]
theorem alone_congr {xs ys ys' : List Int} (h1 : ∀ x ∈ xs, ys.contains x = ys'.contains x) (h2 : ∀ x ∈ xs, ys.any (fun y => decide (x < y)) = ys'.any fun y => decide (x < y)) : alone xs ys = alone xs ys' := by
  unfold alone
  rw [List.filter_congr fun x hx => by rw [h1 x hx]]
  exact flatMap_congr' fun x hx => by rw [h2 x (List.mem_filter.mp hx).1]
theorem alone_nil (xs : List Int) : alone xs [] = dbl xs := by unfold alone dbl; simp [filter_tt]
theorem alone_skip {xs A : List Int} {a : Int} (h : ∀ x ∈ xs, a < x) : alone xs (a :: A) = alone xs A := by
  refine alone_congr (fun x hx => ?_) fun x hx => ?_
  · rw [List.contains_cons]
    have : x ≠ a := fun e => by have := h x hx; lia
    simp [this]
  · rw [List.any_cons]
    have : ¬ x < a := by have := h x hx; lia
    simp [this]
theorem alone_head {e a : Int} {E A : List Int} (h : e < a) (hy : Rise (a :: A)) : alone (e :: E) (a :: A) = e :: alone E (a :: A) := by
  unfold alone
  have m1 : (a :: A).contains e = false := by
    rw [Bool.eq_false_iff]; intro q
    rw [List.contains_iff_mem, List.mem_cons] at q
    rcases q with q | q
    · lia
    · exact hy.not_mem e (by lia) q
  rw [List.filter_cons, m1]
  simp only [Bool.not_false, if_true, List.flatMap_cons, List.any_cons, h, decide_true, Bool.true_or, if_true]
  rfl
theorem alone_same {e : Int} {E A : List Int} (hx : Rise (e :: E)) : alone (e :: E) (e :: A) = alone E A := by
  rw [← alone_skip (a := e) (A := A) (xs := E) (fun x hx' => (List.pairwise_cons.mp hx).1 x hx')]
  unfold alone
  rw [List.filter_cons, if_neg (by simp)]
theorem sld_dbl : ∀ (n : Nat) (xs ys : List Int), xs.length + ys.length ≤ n → Rise xs → Rise ys → sld (dbl xs) (dbl ys) = (alone xs ys, alone ys xs) := by
  intro n
  induction n with
  | zero =>
    intro xs ys h _ _
    have h1 : xs = [] := List.length_eq_zero_iff.mp (by lia)
    have h2 : ys = [] := List.length_eq_zero_iff.mp (by lia)
    subst h1 h2
    rfl
  | succ n ih =>
    intro xs ys h hx hy
    cases xs with
    | nil => show sld [] _ = _; rw [sld_nil, alone_nil]; rfl
    | cons e E =>
      cases ys with
      | nil => show sld _ [] = _; rw [sld_nilR, alone_nil]; rfl
      | cons a A =>
        have hE := (List.pairwise_cons.mp hx).2
        have hA := (List.pairwise_cons.mp hy).2
        simp only [List.length_cons] at h
        rw [dbl_cons, dbl_cons, sld_cons, dbl_drop hx, dbl_drop hy, ← dbl_cons e, ← dbl_cons a]
        by_cases h1 : e < a
        · rw [if_pos h1, ih E (a :: A) (by simp only [List.length_cons]; lia) hE hy, alone_head h1 hy, alone_skip (xs := a :: A) (a := e)]
          intro x hx'
          rcases List.mem_cons.mp hx' with rfl | hx'
          · exact h1
          · have := (List.pairwise_cons.mp hy).1 x hx'; lia
        · rw [if_neg h1]
          by_cases h2 : a < e
          · rw [if_pos h2, ih (e :: E) A (by simp only [List.length_cons]; lia) hx hA, alone_head h2 hx, alone_skip (xs := e :: E) (a := a)]
            intro x hx'
            rcases List.mem_cons.mp hx' with rfl | hx'
            · exact h2
            · have := (List.pairwise_cons.mp hx).1 x hx'; lia
          · have e' : e = a := by lia
            subst e'
            rw [if_neg h2, ih E A (by lia) hE hA, alone_same hx, alone_same hy]
theorem alone_law {F : List Int} (hF : Rise F) (p : Int → Bool) : sortI (F ++ F.filter p) = F.flatMap fun x => if p x then [x, x] else [x] := by
  refine sorted_unique ((sortI_perm _).trans ?_) (sortI_sorted _) ?_
  · clear hF
    rw [List.perm_iff_count]
    intro a
    induction F with
    | nil => rfl
    | cons x F ih =>
      simp only [List.flatMap_cons, List.filter_cons, List.cons_append] at ih ⊢
      split
      · simp only [List.count_append, List.count_cons, List.count_nil] at ih ⊢
        lia
      · simp only [List.count_append, List.count_cons, List.count_nil] at ih ⊢
        lia
  · induction F with
    | nil => exact .nil
    | cons x F ih =>
      obtain ⟨h1, h2⟩ := List.pairwise_cons.mp hF
      rw [List.flatMap_cons, List.pairwise_append]
      refine ⟨?_, ih h2, fun a ha b hb => ?_⟩
      · split <;> simp
      · have ha : a = x := by split at ha <;> simpa using ha
        obtain ⟨y, hy, hb⟩ := List.mem_flatMap.mp hb
        have hb : b = y := by split at hb <;> simpa using hb
        have := h1 y hy
        lia
section
variable {W : Wrld} {ht ht' : Nat} {sc : Scope} {ρ ρ' : Vars} {obs : Obs} {Post : Out → Prop}
noncomputable def intP (p : Int → Bool) : PyData → Bool
  | .int i => p i
  | _ => false
theorem intP_filter (p : Int → Bool) (l : List Int) : ((l.map PyData.int).filter (intP p)).map (fun d => d) = (l.filter p).map .int := by
  rw [List.filter_map, List.map_id'']
  · rfl
  · intro x; rfl
theorem Ev.filt {iter : Expr} {x : Str} {px px' pos : Pos} {ifs : List Expr} {scope : Scope} {ns : List Int} {p : Int → Bool} (hit : It W ht sc ρ obs iter (ns.map .int)) (hok : scopeOk sc scope [x] = true) {ρf : Vars} (hpk : Pick ρ (freeNames scope) ρf)
    (ht1 : ∀ i ∈ ns, EvIfs W ht (relab sc scope) ((x, .sh (.int i)) :: ρf) obs ifs (p i)) (hz : ns.length ≤ 1000) (hn : (x == ("__classdict__" : Str)) = false := by decide) (hd : (x == ("__debug__" : Str)) = false := by decide)
    (hs : ∀ (env : Env) x, foldedSetIterable iter env x = pure x := by intro _ _; rfl) : Ev W ht sc ρ obs (.ListComp (.Name x px') [⟨.Name x px, iter, ifs, 0⟩] scope pos) (.list ((ns.filter p).map .int)) := by
  have h := Ev.comp (f := fun d => d) (p := intP p) (elt := .Name x px') (px := px) (pos := pos) hit hok hpk (fun d hd => by obtain ⟨i, hi, rfl⟩ := List.mem_map.mp hd; exact ht1 i hi) (fun d _ _ => Ev.name (List.mem_cons_self) hn hd) (by rw [List.length_map]; exact Nat.le_trans hz ksz) hs
  rwa [intP_filter] at h
theorem Ex1.assign_filt {iter : Expr} {x y : Str} {px px' py pos spos : Pos} {ifs : List Expr} {scope : Scope} {ns l : List Int} {p : Int → Bool} (hit : It W ht sc ρ obs iter (ns.map .int)) (hok : scopeOk sc scope [x] = true) {ρf : Vars} (hpk : Pick ρ (freeNames scope) ρf)
    (ht1 : ∀ i ∈ ns, EvIfs W ht (relab sc scope) ((x, .sh (.int i)) :: ρf) obs ifs (p i)) (hz : ns.length ≤ 1000) (hk : sc.names.lookup y = some .local ∨ sc.names.lookup y = some .cell) (hl : ns.filter p = l) (u : Upd ρ y (.sh (.list (l.map .int))) ρ') (h : Post (.nx ρ'))
    (hsw : ∀ env : Env, env.scope = sc → swapsWith (.ListComp (.Name x px') [⟨.Name x px, iter, ifs, 0⟩] scope pos) (some (.Name y py)) spos.line env = pure true) (hn : (x == ("__classdict__" : Str)) = false := by decide) (hd : (x == ("__debug__" : Str)) = false := by decide)
    (hs : ∀ (env : Env) x, foldedSetIterable iter env x = pure x := by intro _ _; rfl) : Ex1 W ht sc ρ obs (.Assign [.Name y py] (.ListComp (.Name x px') [⟨.Name x px, iter, ifs, 0⟩] scope pos) spos) Post :=
  Ex1.assign_comp (f := fun d => d) (p := intP p) hit hok hpk (fun d hd => by obtain ⟨i, hi, rfl⟩ := List.mem_map.mp hd; exact ht1 i hi) (fun d _ _ => Ev.name (List.mem_cons_self) hn hd) (by rw [List.length_map]; exact Nat.le_trans hz ksz) hk (by rw [intP_filter, hl]) u h hsw hs
theorem rangeD_ints (a : Int) (n : Nat) : rangeD a (a + n) = ((List.range n).map fun i : Nat => a + (i : Int)).map .int := by
  unfold rangeD
  rw [show (a + (n : Int) - a).toNat = n by lia, List.map_map]; rfl
theorem rangeD_nat (n : Nat) : rangeD 0 (n : Int) = (natI (List.range n)).map .int := by
  have := rangeD_ints 0 n
  rw [Int.zero_add] at this
  rw [this]
  congr 1
  exact List.map_congr_left fun i _ => Int.zero_add _
theorem It.ofEq {e : Expr} {ds ds' : List PyData} (h : It W ht sc ρ obs e ds) (q : ds = ds') : It W ht sc ρ obs e ds' := q ▸ h
theorem any_ints (l : List Int) (k : Int) : ((l.map PyData.int).any fun y => PyData.eqv y (.int k)) = l.contains k := by
  rw [List.any_map, Bool.eq_iff_iff, List.any_eq_true, List.contains_iff_mem]
  constructor
  · rintro ⟨x, hx, e⟩
    have e : (x == k) = true := e
    rw [beq_iff_eq] at e
    exact e ▸ hx
  · intro h
    exact ⟨k, h, by show (k == k) = true; simp⟩
theorem shaped_ints (l : List Int) : SeqAt.shaped (.list (l.map .int)) = true := (ShD.ints l).shaped (by decide)
theorem Ev.in_ints {l r : Expr} {pos : Pos} {k : Int} {xs : List Int} (hl : Ev W ht sc ρ obs l (.int k)) (hr : Ev W ht sc ρ obs r (.list (xs.map .int))) (hm : behindInMarks .In r = false := by with_unfolding_all rfl) :
    Ev W ht sc ρ obs (.Compare l [.In] [r] pos) (.bool (xs.contains k)) := Ev.of_eq (Ev.in_list hl hr (shaped_ints xs) rfl hm) (by rw [any_ints])
theorem Ev.notin_ints {l r : Expr} {pos : Pos} {k : Int} {xs : List Int} (hl : Ev W ht sc ρ obs l (.int k)) (hr : Ev W ht sc ρ obs r (.list (xs.map .int))) (hm : behindInMarks .NotIn r = false := by with_unfolding_all rfl) :
    Ev W ht sc ρ obs (.Compare l [.NotIn] [r] pos) (.bool (!xs.contains k)) := Ev.of_eq (Ev.notin_list hl hr (shaped_ints xs) rfl hm) (by rw [any_ints])
theorem EvT.ne_same {l r : Expr} {pos : Pos} {xs : List Int} (hl : Ev W ht sc ρ obs l (.list (xs.map .int))) (hr : Ev W ht sc ρ obs r (.list (xs.map .int))) (hm : behindInMarks .NotEq r = false := by with_unfolding_all rfl) :
    EvT W ht sc ρ obs (.Compare l [.NotEq] [r] pos) false := EvT.of_eq (EvT.cmp (Ev.ne_any hl hr (shaped_ints xs) (shaped_ints xs) hm)) (by rw [eqv_refl _ (okd_ints xs)]; rfl)
theorem Ev.ints_add {l r : Expr} {pos : Pos} {xs ys : List Int} (hl : Ev W ht sc ρ obs l (.list (xs.map .int))) (hr : Ev W ht sc ρ obs r (.list (ys.map .int))) (hz : xs.length + ys.length ≤ 1000) : Ev W ht sc ρ obs (.BinOp l .Add r pos) (.list ((xs ++ ys).map .int)) := by
  have := (EvG.list_add (pos := pos) hl hr (by rw [List.length_map, List.length_map]; exact Nat.le_trans hz ksz)).ev
  rwa [← List.map_append] at this
theorem Ev.sorted {x : Str} {p pos : Pos} {e : Expr} {xs l : List Int} (hx : sc.names.lookup x = some .globalImplicit) (hm : W.G x = none) (hv : bootBuiltins x = some (.builtin "sorted")) (he : Ev W ht sc ρ obs e (.list (xs.map .int))) (hl : sortI xs = l) (hz : xs.length < 64) (hp : Plain e := by intro _ _; rfl) (hn : x ≠ "__name__" := by decide) (hd : (x == ("__debug__" : Str)) = false := by decide) :
    Ev W ht sc ρ obs (.Call (.Name x p) [e] [] pos) (.list (l.map .int)) := hl ▸ Ev.callB hx hm hv (EvAll.cons he EvAll.nil hp) (Con.sorted_list (ht := 0) hz) (Nat.zero_le _) (by intro z; contradiction) hn hd
end
theorem bitsL_mem {n : Nat} {x : Int} : x ∈ bitsL n ↔ ∃ i, i < 12 ∧ x = (i : Nat) ∧ n.testBit i = true := by
  unfold bitsL natI
  rw [List.mem_map]
  constructor
  · rintro ⟨i, hi, rfl⟩
    obtain ⟨h1, h2⟩ := List.mem_filter.mp hi
    exact ⟨i, List.mem_range.mp h1, rfl, h2⟩
  · rintro ⟨i, h1, rfl, h2⟩
    exact ⟨i, List.mem_filter.mpr ⟨List.mem_range.mpr h1, h2⟩, rfl⟩
theorem bitsL_bit {n i : Nat} (h : i < 12) : (i : Int) ∈ bitsL n ↔ n.testBit i = true := by
  rw [bitsL_mem]
  constructor
  · rintro ⟨j, _, e, h⟩
    have : i = j := by lia
    exact this ▸ h
  · intro q; exact ⟨i, h, rfl, q⟩
theorem bitsL_len (n : Nat) : (bitsL n).length ≤ 12 := by
  unfold bitsL natI
  rw [List.length_map]
  exact List.length_filter_le _ _
noncomputable def top (l : List Int) : Int := (l.getLast?).getD (-1)
theorem top_in (l : List Int) : top l ∈ l ++ [-1] := by
  unfold top
  cases h : l.getLast? with
  | none => simp
  | some x => exact List.mem_append_left _ (List.mem_of_getLast? h)
theorem top_max {l : List Int} (h : Rise l) (h0 : ∀ x ∈ l, 0 ≤ x) : ∀ a ∈ l ++ [-1], a ≤ top l := by
  have key : ∀ x ∈ l, x ≤ top l := fun x hx => by
    obtain ⟨ys, y, rfl⟩ := List.eq_nil_or_concat l |>.resolve_left (by rintro rfl; cases hx)
    unfold top
    rw [List.concat_eq_append] at hx h ⊢
    rw [List.getLast?_append]
    show x ≤ y
    rcases List.mem_append.mp hx with q | q
    · exact Int.le_of_lt ((List.pairwise_append.mp h).2.2 x q y List.mem_cons_self)
    · rw [List.mem_singleton] at q; rw [q]; exact Int.le_refl _
  intro a ha
  rcases List.mem_append.mp ha with q | q
  · exact key a q
  · rw [List.mem_singleton] at q
    subst q
    cases l with
    | nil => decide
    | cons x l =>
      have := key x List.mem_cons_self
      have := h0 x List.mem_cons_self
      lia
noncomputable def leastOf (xs ys : List Int) : Int := if top ys < top xs then top ys else top xs
noncomputable def aloneAll (xs ys : List Int) : List Int := alone xs ys ++ alone ys xs
noncomputable def xorL (xs ys : List Int) : List Int := (xs.filter fun x => !ys.contains x) ++ (ys.filter fun y => !xs.contains y)
theorem alone_flat {xs ys : List Int} (hx : Rise xs) (hy : Rise ys) (x0 : ∀ x ∈ xs, 0 ≤ x) (y0 : ∀ x ∈ ys, 0 ≤ x) {c : Int} (hc : c ≤ top ys) (hc' : top ys < top xs → c = top ys) (hc2 : ¬ top ys < top xs → c = top xs) : alone xs ys = (xs.filter fun x => !ys.contains x).flatMap fun x => if decide (c < x) then [x, x] else [x] := by
  unfold alone
  refine flatMap_congr' fun x hx' => ?_
  obtain ⟨m, hn⟩ := List.mem_filter.mp hx'
  have hn : x ∉ ys := by
    rw [Bool.not_eq_true', Bool.eq_false_iff] at hn
    exact fun q => hn (List.contains_iff_mem.mpr q)
  have hxt := top_max hx x0 x (List.mem_append_left _ m)
  have hx0 := x0 x m
  by_cases q : c < x
  · have : (ys.any fun z => decide (x < z)) = false := by
      rw [Bool.eq_false_iff, ne_eq, List.any_eq_true]
      rintro ⟨z, hz, hlt⟩
      have := top_max hy y0 z (List.mem_append_left _ hz)
      have := of_decide_eq_true hlt
      by_cases w : top ys < top xs
      · have := hc' w; lia
      · have := hc2 w; lia
    rw [this]; simp [q]
  · have : (ys.any fun z => decide (x < z)) = true := by
      rw [List.any_eq_true]
      have h1 : x ≤ top ys := by lia
      have h2 := top_in ys
      rcases List.mem_append.mp h2 with w | w
      · refine ⟨_, w, decide_eq_true ?_⟩
        have : x ≠ top ys := fun e => hn (e ▸ w)
        lia
      · rw [List.mem_singleton] at w; lia
    rw [this]; simp [q]
theorem alone_flat2 {xs ys : List Int} (hx : Rise xs) (hy : Rise ys) (x0 : ∀ x ∈ xs, 0 ≤ x) (y0 : ∀ x ∈ ys, 0 ≤ x) : aloneAll xs ys = (xorL xs ys).flatMap fun x => if decide (leastOf xs ys < x) then [x, x] else [x] := by
  unfold aloneAll xorL leastOf
  rw [List.flatMap_append]
  congr 1
  · refine alone_flat hx hy x0 y0 ?_ (fun h => if_pos h) (fun h => if_neg h)
    split <;> lia
  · refine alone_flat hy hx y0 x0 ?_ (fun h => ?_) (fun h => ?_)
    · split <;> lia
    · split <;> lia
    · split <;> lia
theorem told_is {V xs ys : List Int} (hx : Rise xs) (hy : Rise ys) (x0 : ∀ x ∈ xs, 0 ≤ x) (y0 : ∀ x ∈ ys, 0 ≤ x) (hV : Rise V) (hm : ∀ x, x ∈ V ↔ x ∈ xorL xs ys) : sortI (aloneAll xs ys) = sortI (V ++ V.filter fun x => decide (leastOf xs ys < x)) := by
  rw [alone_law hV, alone_flat2 hx hy x0 y0]
  have nd : ∀ {l : List Int}, Rise l → l.Nodup := fun h => h.imp fun h => Int.ne_of_lt h
  have hp : (xorL xs ys).Perm V := by
    refine (List.perm_ext_iff_of_nodup ?_ (nd hV)).mpr fun x => (hm x).symm
    unfold xorL
    rw [List.nodup_append]
    refine ⟨nd (hx.filter _), nd (hy.filter _), fun a ha b hb e => ?_⟩
    subst e
    have h1 := (List.mem_filter.mp ha).1
    have h2 := (List.mem_filter.mp hb).2
    rw [Bool.not_eq_true', Bool.eq_false_iff] at h2
    exact h2 (List.contains_iff_mem.mpr h1)
  refine sorted_unique ((sortI_perm _).trans (hp.flatMap_right _)) (sortI_sorted _) ?_
  rw [← alone_law hV]
  exact sortI_sorted _
theorem xorL_bits {a b : Nat} {x : Int} : x ∈ bitsL (a ^^^ b) ↔ x ∈ xorL (bitsL a) (bitsL b) := by
  unfold xorL
  rw [List.mem_append, List.mem_filter, List.mem_filter, Bool.not_eq_true', Bool.not_eq_true', Bool.eq_false_iff, Bool.eq_false_iff, ne_eq, ne_eq, List.contains_iff_mem, List.contains_iff_mem]
  by_cases h : ∃ i : Nat, i < 12 ∧ x = i
  · obtain ⟨i, hi, rfl⟩ := h
    rw [bitsL_bit hi, bitsL_bit hi, bitsL_bit hi, Nat.testBit_xor]
    cases a.testBit i <;> cases b.testBit i <;> decide
  · have no : ∀ n : Nat, x ∉ bitsL n := fun n q => by
      obtain ⟨i, hi, e, _⟩ := bitsL_mem.mp q
      exact h ⟨i, hi, e⟩
    exact ⟨fun q => (no _ q).elim, fun q => q.elim (fun q => (no _ q.1).elim) fun q => (no _ q.1).elim⟩
theorem aloneAll_mem {xs ys : List Int} {x : Int} : x ∈ aloneAll xs ys ↔ x ∈ xorL xs ys := by
  have key : ∀ xs ys : List Int, x ∈ alone xs ys ↔ x ∈ xs.filter fun x => !ys.contains x := fun xs ys => by
    unfold alone
    rw [List.mem_flatMap]
    constructor
    · rintro ⟨y, hy, h⟩
      have : x = y := by split at h <;> simpa using h
      exact this ▸ hy
    · intro h
      exact ⟨x, h, by split <;> simp⟩
  unfold aloneAll xorL
  rw [List.mem_append, List.mem_append, key, key]
theorem value_is (a b : Nat) : (natI (List.range 12)).filter (fun x => (sortI (aloneAll (bitsL a) (bitsL b))).contains x) = bitsL (a ^^^ b) := by
  unfold natI
  rw [List.filter_map, show bitsL (a ^^^ b) = ((List.range 12).filter (a ^^^ b).testBit).map (fun n : Nat => (n : Int)) from rfl]
  congr 1
  refine List.filter_congr fun i hi => ?_
  show (sortI _).contains (i : Int) = _
  rw [Bool.eq_iff_iff, List.contains_iff_mem, sortI_mem, aloneAll_mem, ← xorL_bits, bitsL_bit (List.mem_range.mp hi)]
theorem bits0 {n : Nat} : ∀ x ∈ bitsL n, 0 ≤ x := fun x hx => by
  obtain ⟨i, _, rfl, _⟩ := bitsL_mem.mp hx
  lia
theorem alone_len (xs ys : List Int) : (alone xs ys).length ≤ 2 * xs.length := by
  unfold alone
  have : ∀ l : List Int, (l.flatMap fun x => if ys.any (fun y => decide (x < y)) then [x] else [x, x]).length ≤ 2 * l.length := fun l => by
    induction l with
    | nil => simp
    | cons x l ih =>
      rw [List.flatMap_cons, List.length_append, List.length_cons]
      have : (if ys.any (fun y => decide (x < y)) then [x] else [x, x]).length ≤ 2 := by split <;> simp
      lia
  refine Nat.le_trans (this _) ?_
  have := List.length_filter_le (fun x => !ys.contains x) xs
  lia
theorem alone_in (xs ys : List Int) : (alone xs ys).filter (fun x => !xs.contains x) = [] := by
  rw [List.filter_eq_nil_iff]
  intro x hx
  unfold alone at hx
  obtain ⟨y, hy, h⟩ := List.mem_flatMap.mp hx
  have : x = y := by split at h <;> simpa using h
  subst this
  simp [(List.mem_filter.mp hy).1]
noncomputable abbrev tuV (X Y : List Int) (f s m u t v l : B) : Vars := [(Str.ofString "one", .sh (.list (X.map .int))), (Str.ofString "two", .sh (.list (Y.map .int))), (Str.ofString "first", f), (Str.ofString "second", s), (Str.ofString "missing", m), (Str.ofString "unexpected", u), (Str.ofString "told", t), (Str.ofString "value", v), (Str.ofString "least", l)]
set_option maxHeartbeats 4000000 in
theorem con_turned (w : World) (base : Heap) (a b : Nat) : Con (W1 w base) 3 (.ref 238) [.list ((bitsL a).map .int), .list ((bitsL b).map .int)] (.list ((bitsL (a ^^^ b)).map .int)) := by
  have la := bitsL_len a
  have lb := bitsL_len b
  have lv := bitsL_len (a ^^^ b)
  have ra := bitsL_rise a
  have rb := bitsL_rise b
  have rv := bitsL_rise (a ^^^ b)
  have ea := sortI_twice ra
  have eb := sortI_twice rb
  have es := sld_dbl _ (bitsL a) (bitsL b) (Nat.le_refl _) ra rb
  have et := told_is ra rb bits0 bits0 rv fun x => xorL_bits
  have ev := value_is a b
  have l1 := alone_len (bitsL a) (bitsL b)
  have l2 := alone_len (bitsL b) (bitsL a)
  have a1 := alone_in (bitsL a) (bitsL b)
  have a2 := alone_in (bitsL b) (bitsL a)
  have ta := top_in (bitsL a)
  have tb := top_in (bitsL b)
  have ma := top_max ra bits0
  have mb := top_max rb bits0
  have lf : ((bitsL (a ^^^ b)).filter fun x => decide (leastOf (bitsL a) (bitsL b) < x)).length ≤ 12 := Nat.le_trans (List.length_filter_le _ _) lv
  have ec := con_sld w base (dbl (bitsL a)) (dbl (bitsL b)) (by rw [dbl_len]; lia) (by rw [dbl_len]; lia)
  rw [es] at ec
  have ec : Con (W1 w base) 1 (.ref 28) [.list ((dbl (bitsL a)).map .int), .list ((dbl (bitsL b)).map .int)] (.tuple [.list ((alone (bitsL a) (bitsL b)).map .int), .list ((alone (bitsL b) (bitsL a)).map .int)]) := ec
  have da := dbl_len (bitsL a)
  have db := dbl_len (bitsL b)
  unfold aloneAll at et ev
  generalize bitsL (a ^^^ b) = V at *
  generalize bitsL a = X at *
  generalize bitsL b = Y at *
  refine Con.of (fn_l_turned w base) rfl ?_
  dsimp only [List.zip, List.zipWith, List.map, List.append_nil, List.cons_append, List.nil_append]
  have sa : ∀ {f s m u t v l : B} {p p1 p2 p3 p4 : Pos}, Ev (W1 w base) 2 (fnScope PW 39) (tuV X Y f s m u t v l) (fun _ => False) (.Call (.Name (Str.ofString "sorted") p) [.BinOp (.Name (Str.ofString "one") p1) .Add (.Name (Str.ofString "one") p2) p3] [] p4) (.list ((dbl X).map .int)) := fun {_ _ _ _ _ _ _ _ _ _ _ _} =>
    Ev.sorted (by kernel_rfl) (gn_sorted w base) (by kernel_rfl) (Ev.ints_add (Ev.name (by k_extra "mem")) (Ev.name (by k_extra "mem")) (by lia)) ea (by rw [List.length_append]; lia)
  have sb : ∀ {f s m u t v l : B} {p p1 p2 p3 p4 : Pos}, Ev (W1 w base) 2 (fnScope PW 39) (tuV X Y f s m u t v l) (fun _ => False) (.Call (.Name (Str.ofString "sorted") p) [.BinOp (.Name (Str.ofString "two") p1) .Add (.Name (Str.ofString "two") p2) p3] [] p4) (.list ((dbl Y).map .int)) := fun {_ _ _ _ _ _ _ _ _ _ _ _} =>
    Ev.sorted (by kernel_rfl) (gn_sorted w base) (by kernel_rfl) (Ev.ints_add (Ev.name (by k_extra "mem")) (Ev.name (by k_extra "mem")) (by lia)) eb (by rw [List.length_append]; lia)
  refine Ex.cons (Ex1.assign (d := .list ((dbl X).map .int)) locOk sa (by k_extra "upd") ?_)
  refine Ex.cons (Ex1.assign (d := .list ((dbl Y).map .int)) locOk sb (by k_extra "upd") ?_)
  refine Ex.cons (Ex1.assign_tuple (d := .tuple [.list ((alone X Y).map .int), .list ((alone Y X).map .int)]) (Ev.callF (fn_sorted_list_difference w base) (by kernel_rfl) (g_sorted_list_difference w base) (EvAll.cons (d := .list ((dbl X).map .int)) (Ev.name (by k_extra "mem")) (EvAll.cons (d := .list ((dbl Y).map .int)) (Ev.name (by k_extra "mem")) EvAll.nil)) ec)
    (Asg.tuple (ds := [.list ((alone X Y).map .int), .list ((alone Y X).map .int)]) (AsgAll.cons (Asg.name locOk (by k_extra "upd")) (AsgAll.cons (Asg.name locOk (by k_extra "upd")) AsgAll.nil))) ?_)
  refine Ex.cons (Ex1.assign (d := .list ((sortI (alone X Y ++ alone Y X)).map .int)) locOk (Ev.sorted (by kernel_rfl) (gn_sorted w base) (by kernel_rfl) (Ev.ints_add (xs := alone X Y) (ys := alone Y X) (Ev.name (by k_extra "mem")) (Ev.name (by k_extra "mem")) (by lia)) rfl (by rw [List.length_append]; lia)) (by k_extra "upd") ?_)
  generalize sortI (alone X Y ++ alone Y X) = T at et ev ⊢
  refine Ex.cons (Ex1.assign_filt (ns := natI (List.range 12)) (p := fun x => T.contains x) (It.ofEq (It.range1 (by kernel_rfl) (gn_range w base) (by kernel_rfl) Ev.const_int (by decide) (by decide)) (rangeD_nat 12)) (by decide +kernel) (Pick.of (fs' := [Str.ofString "told"]) (by kernel_rfl) (.cons (by k_extra "mem") .nil))
    (fun i _ => EvIfs.one (EvT.cmp (Ev.in_ints (Ev.name (by k_extra "mem")) (Ev.name (by k_extra "mem"))))) (by decide) locOk ev (by k_extra "upd") ?_ (swaps_ok (by decide +kernel)))
  have mx : ∀ {x : Str} {Z : List Int} {f s m u t v l : B} {p p1 p2 p3 p4 p5 p6 : Pos} {n : Nat}, (x, B.sh (.list (Z.map .int))) ∈ tuV X Y f s m u t v l → (x == ("__classdict__" : Str)) = false → (x == ("__debug__" : Str)) = false → Z.length ≤ 12 → (∀ a ∈ Z ++ [-1], a ≤ top Z) → top Z ∈ Z ++ [-1] → Ev (W1 w base) 2 (fnScope PW 39) (tuV X Y f s m u t v l) (fun _ => False) (.Call (.Name (Str.ofString "max") p) [.BinOp (.Name x p1) .Add (.List [.UnaryOp .USub (.Constant (.int 1) n p2) p3] p4) p5] [] p6) (.int (top Z)) := fun hx h1 h2 hz hm ht =>
    Ev.callB (by kernel_rfl) (gn_max w base) (by kernel_rfl) (EvAll.cons (Ev.ints_add (ys := [-1]) (Ev.name hx h1 h2) (Ev.list (EvAll.cons (Ev.neg Ev.const_int) EvAll.nil)) (by show _ + 1 ≤ _; lia)) EvAll.nil) (Con.max_list (ht := 0) rfl ht hm) (hne := by intro z; contradiction)
  refine Ex.cons (Ex1.assign (d := .int (leastOf X Y)) locOk (Ev.callB (by kernel_rfl) (gn_min w base) (by kernel_rfl) (EvAll.cons (mx (Z := X) (by k_extra "mem") (by decide) (by decide) la ma ta) (EvAll.cons (mx (Z := Y) (by k_extra "mem") (by decide) (by decide) lb mb tb) EvAll.nil)) (Con.min_two (ht := 0) rfl)) (by k_extra "upd") ?_)
  refine Ex.cons (Ex1.ifs (b := false) (EvT.or2 (b := false) (c := false)
    (EvT.ne_same (xs := T) (Ev.name (by k_extra "mem")) (Ev.sorted (by kernel_rfl) (gn_sorted w base) (by kernel_rfl) (Ev.ints_add (xs := V) (Ev.name (by k_extra "mem")) (Ev.filt (ns := V) (p := fun x => decide (leastOf X Y < x)) (It.list (Ev.name (by k_extra "mem"))) (by decide +kernel) (Pick.of (fs' := [Str.ofString "least"]) (by kernel_rfl) (.cons (by k_extra "mem") .nil)) (fun i _ => EvIfs.one (EvT.cmp (Ev.gt_int (Ev.name (by k_extra "mem")) (Ev.name (by k_extra "mem"))))) (by lia)) (by lia)) et.symm (by rw [List.length_append]; lia)))
    fun _ => EvT.ne_same (xs := dbl X ++ dbl Y) (Ev.ints_add (Ev.name (by k_extra "mem")) (Ev.name (by k_extra "mem")) (by lia)) (Ev.ints_add sa sb (by lia))) (fun e => nomatch e) fun _ => Ex.nil ?_)
  refine Ex.cons (Ex1.ifs (b := false) (EvT.or2 (b := false) (c := false)
    (EvT.plain (d := .list []) (Ev.of_eq (Ev.filt (ns := alone X Y) (p := fun x => !X.contains x) (It.list (Ev.name (by k_extra "mem"))) (by decide +kernel) (Pick.of (fs' := [Str.ofString "one"]) (by kernel_rfl) (.cons (by k_extra "mem") .nil)) (fun i _ => EvIfs.one (EvT.cmp (Ev.notin_ints (Ev.name (by k_extra "mem")) (Ev.name (by k_extra "mem"))))) (by lia)) (by rw [a1]; rfl)) rfl)
    fun _ => EvT.plain (d := .list []) (Ev.of_eq (Ev.filt (ns := alone Y X) (p := fun x => !Y.contains x) (It.list (Ev.name (by k_extra "mem"))) (by decide +kernel) (Pick.of (fs' := [Str.ofString "two"]) (by kernel_rfl) (.cons (by k_extra "mem") .nil)) (fun i _ => EvIfs.one (EvT.cmp (Ev.notin_ints (Ev.name (by k_extra "mem")) (Ev.name (by k_extra "mem"))))) (by lia)) (by rw [a2]; rfl)) rfl) (fun e => nomatch e) fun _ => Ex.nil ?_)
  exact Ex.cons (Ex1.ret (Ev.name (by k_extra "mem")) rfl)
noncomputable def cells0 : List Int := [0, 1, 1, 1, 2, 1, 18925, 9215, 21512, 28064, 11]
noncomputable def cellsAt (ns : List Int) : Nat → List Int
  | 0 => cells0
  | i + 1 => (cellsAt ns i).set (i % 11) ((cellsAt ns i).getD (i % 11) 0 + ns.getD i 0)
theorem cellsAt_len (ns : List Int) (i : Nat) : (cellsAt ns i).length = 11 := by
  induction i with
  | zero => rfl
  | succ i ih => simp [cellsAt, ih]
noncomputable abbrev MI := Nat → Nat → Int
noncomputable def matI (M : MI) : List (List PyData) := (List.range 4).map fun i => (List.range 4).map fun j => .int (M i j)
noncomputable abbrev matD (M : MI) : PyData := .list ((matI M).map .list)
theorem matI_at {M : MI} {i : Nat} (h : i < 4) : (matI M)[i]? = some ((List.range 4).map fun j => .int (M i j)) := by simp [matI, h]
theorem mrow_at {f : Nat → Int} {j : Nat} (h : j < 4) : ((List.range 4).map fun j => PyData.int (f j))[j]? = some (.int (f j)) := by simp [h]
theorem matD_at {M : MI} {i : Nat} (h : i < 4) : ((matI M).map PyData.list)[i]? = some (.list ((List.range 4).map fun j => .int (M i j))) := by rw [List.getElem?_map, matI_at h]; rfl
theorem four {n : Nat} (h : n < 4) : n = 0 ∨ n = 1 ∨ n = 2 ∨ n = 3 := by lia
theorem matI_congr {M N : MI} (h : ∀ i j, i < 4 → j < 4 → M i j = N i j) : matI M = matI N :=
  List.map_congr_left fun i hi => List.map_congr_left fun j hj => by rw [h i j (List.mem_range.mp hi) (List.mem_range.mp hj)]
theorem matI_set {M N : MI} {a b : Nat} {v : Int} (ha : a < 4) (hb : b < 4) (h : ∀ i j, i < 4 → j < 4 → N i j = if i = a ∧ j = b then v else M i j) : (matI M).set a (((List.range 4).map fun j => PyData.int (M a j)).set b (.int v)) = matI N := by
  rw [matI_congr h]
  rcases four ha with rfl | rfl | rfl | rfl <;> rcases four hb with rfl | rfl | rfl | rfl <;> rfl
noncomputable def tri : Nat → Nat
  | 0 => 0
  | n + 1 => tri n + n
theorem tri_lt {i j : Nat} (h : i < j) (hj : j < 4) : tri j + i < 6 := by
  rcases four hj with rfl | rfl | rfl | rfl <;> simp only [tri] <;> lia
noncomputable def cnt (cs : List Int) : MI := fun i j => if i < j then cs.getD (tri j + i) 0 % 3 else 0
noncomputable def cntU (cs : List Int) (k l : Nat) : MI := fun i j => if j < k ∨ (j = k ∧ i < l) then cnt cs i j else 0
theorem cntU_0 (cs : List Int) : matI (cntU cs 0 0) = matI fun _ _ => 0 := matI_congr fun i j _ _ => by unfold cntU; rw [if_neg (by lia)]
theorem cntU_next (cs : List Int) (k : Nat) : matI (cntU cs k k) = matI (cntU cs (k + 1) 0) := matI_congr fun i j _ _ => by
  unfold cntU cnt
  by_cases hij : i < j
  · simp only [if_pos hij]
    by_cases h : j < k ∨ (j = k ∧ i < k)
    · rw [if_pos h, if_pos (by lia)]
    · rw [if_neg h, if_neg (by lia)]
  · simp only [if_neg hij, ite_self]
theorem cntU_4 (cs : List Int) : matI (cntU cs 4 0) = matI (cnt cs) := matI_congr fun i j _ hj => by unfold cntU; rw [if_pos (.inl hj)]
set_option maxHeartbeats 4000000 in
theorem con_cells (w : World) (base : Heap) (ns : List Int) (hn : ns.length ≤ 63) : Con (W1 w base) 1 (.ref 202) [.list (ns.map .int)] (.list ((cellsAt ns ns.length).map .int)) := by
  refine Con.of (fn_l_cells w base) rfl ?_
  dsimp only [List.zip, List.zipWith, List.map, List.append_nil, List.cons_append, List.nil_append]
  refine Ex.cons (Ex1.assign_list (ds := [.int 0, .int 1, .int 1, .int 1, .int 2, .int 1, .int 18925, .int 9215, .int 21512, .int 28064, .int 11]) locOk (by k_extra "eva") (by decide) (by k_extra "upd") ?_)
  refine Ex.cons (Ex1.forS (σ := List Int) (It.range1 (by kernel_rfl) (gn_range w base) (by kernel_rfl) (Ev.callB (by kernel_rfl) (gn_len w base) (by kernel_rfl) (EvAll.cons (Ev.name (by k_extra "mem")) EvAll.nil) (Con.len_list (ht := 0) (by simp; lia))) (by lia) (by simp; lia)).s
    (fun cs => [(Str.ofString "script", .sh (.list (ns.map .int))), (Str.ofString "cells", .l1 (cs.map .int)), (Str.ofString "place", .un)])
    (fun i cs => cs = cellsAt ns i) cells0 rfl (.same (.same (.same .nil))) ?_ ?_)
  · rintro i d cs hd rfl
    obtain ⟨rfl, hi⟩ := rangeD_at hd
    have hi : i < ns.length := by simpa using hi
    have hl := cellsAt_len ns i
    refine ⟨_, Asg.name locOk (by k_extra "upd"), ?_⟩
    have hm : ((i : Int) % 11).toNat = i % 11 := by lia
    refine Ex.cons (Ex1.setitem (by k_extra "mem") (d := .int ((cellsAt ns i).getD (i % 11) 0 + ns.getD i 0)) (Ev.add (Ev.item_l1 (by k_extra "mem") (k := (i : Int) % 11) (by k_extra "ev") (by lia) (by lia) (by rw [hm]; exact getD_at (by lia))) (Ev.item_list (k := (i : Int)) (by k_extra "ev") (by k_extra "ev") (by lia) (by lia) (getD_at (by simpa using hi))))
      (k := (i : Int) % 11) (by k_extra "ev") (by lia) (by simp; lia) (by simp; lia) (by k_extra "upd") (Ex.nil ⟨_, rfl, ?_⟩))
    rw [hm]
    simp only [cellsAt, List.map_set]
    exact .same (.same (.un .nil))
  · rintro cs rfl
    rw [rangeD_len, Int.toNat_natCast, List.length_map]
    refine Ex.nil ?_
    refine Ex.freeze (x := Str.ofString "cells") (by k_extra "mem") (by k_extra "upd") ?_
    dsimp only [B.frozen]
    exact Ex.cons (Ex1.ret (Ev.name (by k_extra "mem")) rfl)
noncomputable abbrev coV (cs : List Int) (M : MI) (a t o : B) : Vars := [(Str.ofString "cells", .sh (.list (cs.map .int))), (Str.ofString "counts", .l2 (matI M)), (Str.ofString "at", a), (Str.ofString "two", t), (Str.ofString "one", o)]
set_option maxHeartbeats 4000000 in
theorem con_counts (w : World) (base : Heap) (cs : List Int) (hl : cs.length = 11) : Con (W1 w base) 1 (.ref 207) [.list (cs.map .int)] (matD (cnt cs)) := by
  refine Con.of (fn_l_counts w base) rfl ?_
  dsimp only [List.zip, List.zipWith, List.map, List.append_nil, List.cons_append, List.nil_append]
  refine Ex.cons (Ex1.assign_comp_l2 (p := fun _ => true) (f := fun _ => [.int 0, .int 0, .int 0, .int 0]) (It.range1 (by kernel_rfl) (gn_range w base) (by kernel_rfl) Ev.const_int (by decide) (by decide)) (by decide +kernel) (by k_extra "rep") (fun _ _ => EvIfs.nil) (fun _ _ _ => EvG.list_mul (EvG.list (EvAll.cons Ev.const_int EvAll.nil)).ev Ev.const_int (by decide) (by decide) (by decide) (by decide)) (fun _ _ => by decide +kernel) (by decide) locOk (by k_extra "upd") ?_ (swaps_ok (by decide +kernel)))
  refine Ex.cons (Ex1.assign (d := .int 0) locOk (by k_extra "ev") (by k_extra "upd") ?_)
  rw [show ((rangeD 0 4).filter fun _ => true).map (fun _ => [PyData.int 0, .int 0, .int 0, .int 0]) = matI fun _ _ => 0 from rfl, ← cntU_0 cs]
  refine Ex.cons (Ex1.forS (σ := Nat) (It.range1 (by kernel_rfl) (gn_range w base) (by kernel_rfl) Ev.const_int (by decide) (by decide)).s
    (fun k => coV cs (cntU cs k 0) (.sh (.int (tri k : Nat))) .un .un) (fun i k => k = i) 0 rfl (.same (.same (.same (.same (.same .nil))))) ?_ ?_)
  · rintro i d k hd rfl
    obtain ⟨rfl, hk⟩ := rangeD_at hd
    have hk : k < 4 := by lia
    refine ⟨_, Asg.name locOk (by k_extra "upd"), ?_⟩
    refine Ex.cons (Ex1.forS (σ := Nat) (It.range1 (b := (k : Nat)) (by kernel_rfl) (gn_range w base) (by kernel_rfl) (by k_extra "ev") (by lia) (by lia)).s
      (fun l => coV cs (cntU cs k l) (.sh (.int (tri k + l : Nat))) (.sh (.int (k : Nat))) .un) (fun i l => l = i) 0 rfl (.same (.same (.same (.same (.same .nil))))) ?_ ?_)
    · rintro i d l hd rfl
      obtain ⟨rfl, hl'⟩ := rangeD_at hd
      have hlk : l < k := by lia
      have ht := tri_lt hlk hk
      refine ⟨_, Asg.name locOk (by k_extra "upd"), ?_⟩
      refine Ex.cons (Ex1.setitem2 (by k_extra "mem") (d := .int (cs.getD (tri k + l) 0 % 3)) (Ev.modP (Ev.item_list (k := (tri k + l : Nat)) (by k_extra "ev") (by k_extra "ev") (by lia) (by lia) (by rw [Int.toNat_natCast]; exact getD_at (by lia))) Ev.const_int) (k := (l : Nat)) (l := (k : Nat)) (by k_extra "ev") (by k_extra "ev") (by lia) (by lia) (matI_at (by lia)) (by lia) (by simp; lia) (by simp) (by k_extra "upd") ?_)
      rw [Int.toNat_natCast, Int.toNat_natCast, matI_set (N := cntU cs k (l + 1)) (by lia) hk (fun a b _ _ => ?_)]
      · refine Ex.cons (Ex1.assign (d := .int (tri k + (l + 1) : Nat)) locOk (Ev.of_eq (Ev.add (a := (tri k + l : Nat)) (b := 1) (by k_extra "ev") (by k_extra "ev")) (by rw [← Nat.add_assoc]; rfl)) (by k_extra "upd") (Ex.nil ⟨l + 1, rfl, by k_extra "fgt"⟩))
      · unfold cntU cnt
        by_cases h : a = l ∧ b = k
        · obtain ⟨rfl, rfl⟩ := h
          rw [if_pos (by lia), if_pos hlk, if_pos ⟨rfl, rfl⟩]
        · rw [if_neg h]
          by_cases h2 : b < k ∨ (b = k ∧ a < l)
          · rw [if_pos h2, if_pos (by lia)]
          · rw [if_neg h2, if_neg (by lia)]
    · rintro l hl'
      have hl' : l = k := by rw [rangeD_len] at hl'; simpa using hl'
      subst hl'
      refine Ex.nil (Ex.nil ⟨l + 1, rfl, ?_⟩)
      dsimp only [coV]
      rw [cntU_next]
      exact .same (.same (.same (.un (.un .nil))))
  · rintro k hk
    have hk : k = 4 := hk
    subst hk
    dsimp only [coV]
    rw [cntU_4]
    refine Ex.nil ?_
    refine Ex.freeze (x := Str.ofString "counts") (by k_extra "mem") (by k_extra "upd") ?_
    dsimp only [B.frozen]
    exact Ex.cons (Ex1.ret (Ev.name (by k_extra "mem")) rfl)
section
variable {W : Wrld} {ht ht' : Nat} {sc : Scope} {ρ ρ' : Vars} {obs : Obs} {Post : Out → Prop}
theorem fl_true {α : Type} (l : List α) : (l.filter fun _ => true) = l := List.filter_eq_self.mpr fun _ _ => rfl
noncomputable def intF (f : Int → PyData) : PyData → PyData
  | .int i => f i
  | d => d
theorem EvG.mapD {elt iter : Expr} {x : Str} {px pos : Pos} {scope : Scope} {ns : List Int} {f : Int → PyData} (hit : It W ht sc ρ obs iter (ns.map .int)) (hok : scopeOk sc scope [x] = true) {ρf : Vars} (hpk : Pick ρ (freeNames scope) ρf)
    (he : ∀ i ∈ ns, Ev W ht (relab sc scope) ((x, .sh (.int i)) :: ρf) obs elt (f i)) (hz : ns.length ≤ 1000) (hs : ∀ (env : Env) x, foldedSetIterable iter env x = pure x := by intro _ _; rfl) : EvG true W ht sc ρ obs (.ListComp elt [⟨.Name x px, iter, [], 0⟩] scope pos) (.list (ns.map f)) := by
  have h := EvG.comp (f := intF f) (p := fun _ => true) (elt := elt) (px := px) (pos := pos) hit hok hpk (fun _ _ => EvIfs.nil) (fun d hd _ => by obtain ⟨i, hi, rfl⟩ := List.mem_map.mp hd; exact he i hi) (by rw [List.length_map]; exact Nat.le_trans hz ksz) hs
  rw [fl_true, List.map_map] at h
  exact h
theorem Ex1.assign_mapD {elt iter : Expr} {x y : Str} {px py pos spos : Pos} {scope : Scope} {ns : List Int} {f : Int → PyData} (hit : It W ht sc ρ obs iter (ns.map .int)) (hok : scopeOk sc scope [x] = true) {ρf : Vars} (hpk : Pick ρ (freeNames scope) ρf)
    (he : ∀ i ∈ ns, Ev W ht (relab sc scope) ((x, .sh (.int i)) :: ρf) obs elt (f i)) (hz : ns.length ≤ 1000) (hk : sc.names.lookup y = some .local ∨ sc.names.lookup y = some .cell) {d : PyData} (hd : .list (ns.map f) = d) (u : Upd ρ y (.sh d) ρ') (h : Post (.nx ρ'))
    (hsw : ∀ env : Env, env.scope = sc → swapsWith (.ListComp elt [⟨.Name x px, iter, [], 0⟩] scope pos) (some (.Name y py)) spos.line env = pure true) (hs : ∀ (env : Env) x, foldedSetIterable iter env x = pure x := by intro _ _; rfl) : Ex1 W ht sc ρ obs (.Assign [.Name y py] (.ListComp elt [⟨.Name x px, iter, [], 0⟩] scope pos) spos) Post :=
  Ex1.assign_comp (f := intF f) (p := fun _ => true) hit hok hpk (fun _ _ => EvIfs.nil) (fun d hd _ => by obtain ⟨i, hi, rfl⟩ := List.mem_map.mp hd; exact he i hi) (by rw [List.length_map]; exact Nat.le_trans hz ksz) hk (by rw [fl_true, List.map_map]; exact hd) u h hsw hs
end
theorem rangeD_at2 {a b : Int} {i : Nat} {d : PyData} (h : (rangeD a b)[i]? = some d) : d = .int (a + i) ∧ (i : Int) < b - a := by
  unfold rangeD at h
  rw [List.getElem?_map] at h
  obtain ⟨j, hj, rfl⟩ := Option.map_eq_some_iff.mp h
  obtain ⟨h1, h2⟩ := List.getElem?_eq_some_iff.mp hj
  rw [List.length_range] at h1
  rw [List.getElem_range] at h2
  subst h2
  exact ⟨rfl, by lia⟩
theorem noswap {elt : Expr} {gens : List Comprehension} {sc scope : Scope} {pos py : Pos} {y : Str} {line : Nat} (h : (sc.names.lookup y == some .local) = false) : ∀ env : Env, env.scope = sc → swapsWith (.ListComp elt gens scope pos) (some (.Name y py)) line env = pure false := by
  intro env he
  subst he
  have : swapsWith (.ListComp elt gens scope pos) (some (.Name y py)) line env = pure (env.blockKind == .function && env.scope.names.lookup y == some .local && py.line == pos.line && !(scope.names.any fun (n, k) => n == y && (k == .local || k == .cell))) := rfl
  rw [this, h, Bool.and_false, Bool.false_and, Bool.false_and]
noncomputable def wy (C : MI) : MI := fun i j =>
  if j < i then 0 else if i = j then 1 else if j = i + 1 then C i j else if j = i + 2 then C i j + C i (i + 1) * C (i + 1) j
  else C i j + C i (i + 1) * C (i + 1) j + (C i (i + 2) + C i (i + 1) * C (i + 1) (i + 2)) * C (i + 2) j
noncomputable def wyU (C : MI) (k l : Nat) : MI := fun i j => if i < k ∨ (i = k ∧ j < l) then wy C i j else 0
noncomputable def wySum (C : MI) (i d : Nat) : Int := ((List.range (d + 1)).map fun e : Nat => wyU C i (i + d + 1) i (i + e) * C (i + e) (i + d + 1)).sum
theorem wyU_own {C : MI} {i e d : Nat} (h : e ≤ d) : wyU C i (i + d + 1) i (i + e) = wy C i (i + e) := if_pos (.inr ⟨rfl, by lia⟩)
theorem wySum_is (C : MI) {i d : Nat} (h : i + d + 1 < 4) : wySum C i d = wy C i (i + d + 1) := by
  have : d = 0 ∨ d = 1 ∨ d = 2 := by lia
  have w0 : wy C i i = 1 := by unfold wy; rw [if_neg (by lia), if_pos rfl]
  have w1 : wy C i (i + 1) = C i (i + 1) := by unfold wy; rw [if_neg (by lia), if_neg (by lia), if_pos rfl]
  have w2 : wy C i (i + 2) = C i (i + 2) + C i (i + 1) * C (i + 1) (i + 2) := by unfold wy; rw [if_neg (by lia), if_neg (by lia), if_neg (by lia), if_pos rfl]
  unfold wySum
  rcases this with rfl | rfl | rfl
  · show wyU C i (i + 0 + 1) i (i + 0) * C (i + 0) (i + 1) + 0 = wy C i (i + 1)
    rw [wyU_own (e := 0) (d := 0) (by decide), Nat.add_zero, w0, w1]; lia
  · show wyU C i (i + 1 + 1) i (i + 0) * C (i + 0) (i + 2) + (wyU C i (i + 1 + 1) i (i + 1) * C (i + 1) (i + 2) + 0) = wy C i (i + 2)
    rw [wyU_own (e := 0) (d := 1) (by decide), wyU_own (e := 1) (d := 1) (by decide), Nat.add_zero, w0, w1, w2]; lia
  · show wyU C i (i + 2 + 1) i (i + 0) * C (i + 0) (i + 3) + (wyU C i (i + 2 + 1) i (i + 1) * C (i + 1) (i + 3) + (wyU C i (i + 2 + 1) i (i + 2) * C (i + 2) (i + 3) + 0)) = wy C i (i + 3)
    rw [wyU_own (e := 0) (d := 2) (by decide), wyU_own (e := 1) (d := 2) (by decide), wyU_own (e := 2) (d := 2) (by decide), Nat.add_zero, w0, w1, w2]
    unfold wy
    rw [if_neg (by lia), if_neg (by lia), if_neg (by lia), if_neg (by lia)]; lia
theorem small {b : Int} (h0 : 0 ≤ b) (h2 : b ≤ 2) : Builtin.Int.intBits b ≤ 64 := by
  have : b = 0 ∨ b = 1 ∨ b = 2 := by lia
  rcases this with rfl | rfl | rfl <;> decide
theorem wyU_0 (C : MI) : matI (wyU C 0 0) = matI fun _ _ => 0 := matI_congr fun i j _ _ => by unfold wyU; rw [if_neg (by lia)]
theorem wyU_next (C : MI) (k : Nat) : matI (wyU C k 4) = matI (wyU C (k + 1) 0) := matI_congr fun i j _ hj => by
  unfold wyU
  by_cases h : i < k ∨ (i = k ∧ j < 4)
  · rw [if_pos h, if_pos (by lia)]
  · rw [if_neg h, if_neg (by lia)]
theorem wyU_4 (C : MI) : matI (wyU C 4 0) = matI (wy C) := matI_congr fun i j hi _ => by unfold wyU; rw [if_pos (.inl hi)]
structure Cnt (C : MI) : Prop where
  lo : ∀ i j, 0 ≤ C i j
  hi : ∀ i j, C i j ≤ 2
noncomputable abbrev waV (C M : MI) (o t : B) : Vars := [(Str.ofString "counts", .sh (matD C)), (Str.ofString "ways", .l2 (matI M)), (Str.ofString "one", o), (Str.ofString "two", t)]
set_option maxHeartbeats 4000000 in
theorem con_ways (w : World) (base : Heap) (C : MI) (hC : Cnt C) : Con (W1 w base) 1 (.ref 212) [matD C] (matD (wy C)) := by
  refine Con.of (fn_l_ways w base) rfl ?_
  dsimp only [List.zip, List.zipWith, List.map, List.append_nil, List.cons_append, List.nil_append]
  refine Ex.cons (Ex1.assign_comp_l2c (p := fun _ => true) (f := fun _ => [.int 0, .int 0, .int 0, .int 0]) (It.range1 (by kernel_rfl) (gn_range w base) (by kernel_rfl) Ev.const_int (by decide) (by decide)) (by decide +kernel) (by k_extra "rep") (fun _ _ => EvIfs.nil) (fun _ _ _ => EvG.list_mul (EvG.list (EvAll.cons Ev.const_int EvAll.nil)).ev Ev.const_int (by decide) (by decide) (by decide) (by decide)) (fun _ _ => by decide +kernel) (by decide) locOk (by k_extra "upd") ?_ (noswap (by decide +kernel)))
  rw [show ((rangeD 0 4).filter fun _ => true).map (fun _ => [PyData.int 0, .int 0, .int 0, .int 0]) = matI fun _ _ => 0 from rfl, ← wyU_0 C]
  refine Ex.cons (Ex1.forS (σ := Nat) (It.range1 (by kernel_rfl) (gn_range w base) (by kernel_rfl) Ev.const_int (by decide) (by decide)).s
    (fun k => waV C (wyU C k 0) .un .un) (fun i k => k = i) 0 rfl (.same (.same (.same (.same .nil)))) ?_ ?_)
  · rintro i d k hd rfl
    obtain ⟨rfl, hk⟩ := rangeD_at hd
    have hk : k < 4 := by lia
    refine ⟨_, Asg.name locOk (by k_extra "upd"), ?_⟩
    refine Ex.cons (Ex1.setitem2 (by k_extra "mem") (d := .int 1) (by k_extra "ev") (k := (k : Nat)) (l := (k : Nat)) (by k_extra "ev") (by k_extra "ev") (by lia) (by lia) (matI_at (by lia)) (by lia) (by simp; lia) (by simp) (by k_extra "upd") ?_)
    rw [Int.toNat_natCast, matI_set (N := wyU C k (k + 1)) hk hk (fun a b _ _ => ?_)]
    · refine Ex.cons (Ex1.forS (σ := Nat) (It.range2 (a := (k : Nat) + 1) (b := 4) (by kernel_rfl) (gn_range w base) (by kernel_rfl) (by k_extra "ev") (by k_extra "ev") (by lia) (by lia) (by lia) (by lia)).s
        (fun l => waV C (wyU C k (k + 1 + l)) (.sh (.int (k : Nat))) .un) (fun i l => l = i) 0 rfl (.same (.same (.same (.same .nil)))) ?_ ?_)
      · rintro i d l hd rfl
        obtain ⟨rfl, hl'⟩ := rangeD_at2 hd
        have hl4 : k + l + 1 < 4 := by lia
        have e1 : (k : Int) + 1 + (l : Int) = ((k + l + 1 : Nat) : Int) := by lia
        have e2 : k + 1 + l = k + l + 1 := by lia
        rw [e1, e2]
        refine ⟨_, Asg.name locOk (by k_extra "upd"), ?_⟩
        refine Ex.cons (Ex1.setitem2 (by k_extra "mem") (d := .int (wySum C k l)) (Ev.of_eq (Ev.callB (by kernel_rfl) (gn_sum w base) (by kernel_rfl) (EvAll.cons (d := .list (((List.range (l + 1)).map fun e : Nat => wyU C k (k + l + 1) k (k + e) * C (k + e) (k + l + 1)).map .int)) (Ev.of_eq (EvG.mapD (ns := (List.range (l + 1)).map fun e : Nat => (k : Int) + (e : Int)) (f := fun m => .int (wyU C k (k + l + 1) k m.toNat * C m.toNat (k + l + 1)))
          (It.ofEq (It.range2 (a := (k : Nat)) (b := (k : Nat) + ((l + 1 : Nat) : Int)) (by kernel_rfl) (gn_range w base) (by kernel_rfl) (by k_extra "ev") (Ev.of_eq (c := .int ((k : Nat) + ((l + 1 : Nat) : Int))) (Ev.name (d := .int (k + l + 1 : Nat)) (by k_extra "mem")) (by rw [show ((k + l + 1 : Nat) : Int) = (k : Int) + ((l + 1 : Nat) : Int) by lia])) (by lia) (by lia) (by lia) (by lia)) (rangeD_ints _ _))
          (by decide +kernel) (Pick.of (fs' := [Str.ofString "counts", Str.ofString "one", Str.ofString "two", Str.ofString "ways"]) (by kernel_rfl) (.cons (by k_extra "mem") (.cons (by k_extra "mem") (.cons (by k_extra "mem") (.cons (by k_extra "mem") .nil))))) (fun m hm => ?_) (by simp; lia)).ev ?_) EvAll.nil) (Con.sum_list (ht := 0) rfl)) rfl) (k := (k : Nat)) (l := (k + l + 1 : Nat)) (by k_extra "ev") (by k_extra "ev") (by lia) (by lia) (matI_at (by lia)) (by lia) (by simp; lia) (by simp) (by k_extra "upd") ?_)
        · obtain ⟨e, he, rfl⟩ := List.mem_map.mp hm
          have he := List.mem_range.mp he
          have e3 : ((k : Int) + (e : Int)) = ((k + e : Nat) : Int) := by lia
          rw [e3, Int.toNat_natCast]
          exact Ev.mul (Ev.item_l2 (by k_extra "mem") (k := (k : Nat)) (l := (k + e : Nat)) (by k_extra "ev") (by k_extra "ev") (by lia) (by lia) (matI_at (by lia)) (by lia) (by lia) (mrow_at (by lia)))
            (Ev.item_list (xs := (List.range 4).map fun j => .int (C (k + e) j)) (k := (k + l + 1 : Nat)) (Ev.item_list (xs := (matI C).map .list) (k := (k + e : Nat)) (by k_extra "ev") (by k_extra "ev") (by lia) (by lia) (matD_at (by lia))) (by k_extra "ev") (by lia) (by lia) (mrow_at hl4)) (IntMulOk.of_right (small (hC.lo _ _) (hC.hi _ _)))
        · rw [List.map_map, List.map_map]
          congr 1
        · rw [Int.toNat_natCast, Int.toNat_natCast, matI_set (N := wyU C k (k + l + 1 + 1)) hk hl4 (fun a b _ _ => ?_)]
          · refine Ex.nil ⟨l + 1, rfl, ?_⟩
            dsimp only
            rw [show k + 1 + (l + 1) = k + l + 1 + 1 by lia]
            exact .same (.same (.same (.un .nil)))
          · unfold wyU
            by_cases h : a = k ∧ b = k + l + 1
            · obtain ⟨rfl, rfl⟩ := h
              rw [if_pos (.inr ⟨rfl, by lia⟩), if_pos ⟨rfl, rfl⟩, wySum_is C hl4]
            · rw [if_neg h]
              by_cases h2 : a < k ∨ (a = k ∧ b < k + l + 1)
              · rw [if_pos h2, if_pos (by lia)]
              · rw [if_neg h2, if_neg (by lia)]
      · rintro l hl'
        have hl' : k + 1 + l = 4 := by
          have : l = (4 - ((k : Int) + 1)).toNat := by rw [hl']; simp [rangeD]
          lia
        refine Ex.nil (Ex.nil ⟨k + 1, rfl, ?_⟩)
        dsimp only [waV]
        rw [hl', wyU_next]
        exact .same (.same (.un (.un .nil)))
    · unfold wyU wy
      by_cases h : a = k ∧ b = k
      · obtain ⟨rfl, rfl⟩ := h
        rw [if_pos (.inr ⟨rfl, by lia⟩), if_neg (by lia), if_pos rfl, if_pos ⟨rfl, rfl⟩]
      · rw [if_neg h]
        by_cases h2 : a < k ∨ (a = k ∧ b < 0)
        · rw [if_pos h2, if_pos (by lia)]
        · rw [if_neg h2]
          by_cases h3 : a = k ∧ b < k + 1
          · rw [if_pos (.inr h3), if_pos (by lia)]
          · rw [if_neg (by lia)]
  · rintro k hk
    have hk : k = 4 := hk
    subst hk
    dsimp only [waV]
    rw [wyU_4]
    refine Ex.nil ?_
    refine Ex.freeze (x := Str.ofString "ways") (by k_extra "mem") (by k_extra "upd") ?_
    dsimp only [B.frozen]
    exact Ex.cons (Ex1.ret (Ev.name (by k_extra "mem")) rfl)
noncomputable abbrev namesL (nm : Nat → Int) : List Int := (List.range 4).map nm
theorem namesL_at {nm : Nat → Int} {i : Nat} (h : i < 4) : ((namesL nm).map PyData.int)[i]? = some (.int (nm i)) := by simp [h]
noncomputable def gone (nm : Nat → Int) (C : MI) (G : List Int) (two : Nat) : List Nat := (List.range two).filter fun one => decide (0 < C one two) && !G.contains (nm one)
noncomputable def waits (nm : Nat → Int) (C : MI) (G : List Int) (two : Nat) : Bool := !G.contains (nm two) && (gone nm C G two).isEmpty
noncomputable def mustU (nm : Nat → Int) (C : MI) (G : List Int) (k : Nat) : List Int := ((List.range k).filter (waits nm C G)).map nm
noncomputable def must (nm : Nat → Int) (C : MI) (G : List Int) : List Int := sortI (mustU nm C G 4)
theorem mustU_succ (nm : Nat → Int) (C : MI) (G : List Int) (k : Nat) : mustU nm C G (k + 1) = mustU nm C G k ++ if waits nm C G k then [nm k] else [] := by
  unfold mustU
  rw [List.range_succ, List.filter_append, List.map_append]
  congr 1
  rw [List.filter_cons, List.filter_nil]
  split <;> rfl
theorem mustU_len (nm : Nat → Int) (C : MI) (G : List Int) (k : Nat) : (mustU nm C G k).length ≤ k := by
  unfold mustU
  rw [List.length_map]
  exact Nat.le_trans (List.length_filter_le _ _) (by rw [List.length_range]; exact Nat.le_refl _)
theorem gone_ints (nm : Nat → Int) (C : MI) (G : List Int) (two : Nat) : (natI (List.range two)).filter (fun i => decide (0 < C i.toNat two) && !G.contains (nm i.toNat)) = natI (gone nm C G two) := by
  unfold gone natI
  rw [List.filter_map]
  rfl
noncomputable abbrev mwV (nm : Nat → Int) (C : MI) (G l : List Int) (t : B) : Vars := [(Str.ofString "names", .sh (.list ((namesL nm).map .int))), (Str.ofString "counts", .sh (matD C)), (Str.ofString "over", .sh (.list (G.map .int))), (Str.ofString "row", .l1 (l.map .int)), (Str.ofString "two", t)]
set_option maxHeartbeats 4000000 in
theorem con_must (w : World) (base : Heap) (nm : Nat → Int) (C : MI) (G : List Int) : Con (W1 w base) 1 (.ref 250) [.list ((namesL nm).map .int), matD C, .list (G.map .int)] (.list ((must nm C G).map .int)) := by
  refine Con.of (fn_l_must_wait w base) rfl ?_
  dsimp only [List.zip, List.zipWith, List.map, List.append_nil, List.cons_append, List.nil_append]
  refine Ex.cons (Ex1.assign_nil locOk (by k_extra "upd") ?_)
  refine Ex.cons (Ex1.forS (σ := Nat) (It.range1 (by kernel_rfl) (gn_range w base) (by kernel_rfl) Ev.const_int (by decide) (by decide)).s
    (fun k => mwV nm C G (mustU nm C G k) .un) (fun i k => k = i) 0 rfl (.same (.same (.same (.same (.same .nil))))) ?_ ?_)
  · rintro i d k hd rfl
    obtain ⟨rfl, hk⟩ := rangeD_at hd
    have hk : k < 4 := by lia
    have hl := mustU_len nm C G k
    have es := mustU_succ nm C G k
    unfold waits at es
    have nv : ∀ {sc' : Scope} {ρ' : Vars} {x : Str} {i : Nat} {p1 p2 p3 : Pos}, i < 4 → (Str.ofString "names", B.sh (.list ((namesL nm).map .int))) ∈ ρ' → (x, B.sh (.int (i : Nat))) ∈ ρ' → (x == ("__classdict__" : Str)) = false → (x == ("__debug__" : Str)) = false → Ev (W1 w base) 0 sc' ρ' (fun _ => False) (.Subscript (.Name (Str.ofString "names") p1) (.Name x p2) p3) (.int (nm i)) := fun hi h1 h2 q1 q2 =>
      Ev.item_list (Ev.name h1) (Ev.name h2 q1 q2) (by lia) (by lia) (by rw [Int.toNat_natCast]; exact namesL_at hi)
    refine ⟨_, Asg.name locOk (by k_extra "upd"), ?_⟩
    refine Ex.cons (Ex1.ifs (EvT.cmp (Ev.notin_ints (k := nm k) (xs := G) (nv hk (by k_extra "mem") (by k_extra "mem") (by decide) (by decide)) (Ev.name (by k_extra "mem")))) (fun hb => ?_) fun hb => Ex.nil (Ex.nil ⟨k + 1, rfl, ?_⟩))
    · rw [hb, Bool.true_and] at es
      refine Ex.cons (Ex1.if_append (b := (gone nm C G k).isEmpty) (d := .int (nm k)) (EvT.of_eq (EvT.not (EvT.plain (b := !(gone nm C G k).isEmpty) (Ev.filt (ns := natI (List.range k)) (p := fun i => decide (0 < C i.toNat k) && !G.contains (nm i.toNat)) (It.ofEq (It.range1 (b := (k : Nat)) (by kernel_rfl) (gn_range w base) (by kernel_rfl) (by k_extra "ev") (by lia) (by lia)) (rangeD_nat k)) (by decide +kernel)
        (Pick.of (fs' := [Str.ofString "counts", Str.ofString "names", Str.ofString "over", Str.ofString "two"]) (by kernel_rfl) (.cons (by k_extra "mem") (.cons (by k_extra "mem") (.cons (by k_extra "mem") (.cons (by k_extra "mem") .nil))))) (fun i hi => EvIfs.one ?_) (by unfold natI; simp; lia)) ?_)) ?_) (by k_extra "mem") (fun _ => nv hk (by k_extra "mem") (by k_extra "mem") (by decide) (by decide)) (by rw [List.length_map]; lia) (by k_extra "upd") (Ex.nil (Ex.nil ⟨k + 1, rfl, ?_⟩)))
      · obtain ⟨j, hj, rfl⟩ := List.mem_map.mp hi
        have hj := List.mem_range.mp hj
        rw [Int.toNat_natCast]
        exact EvT.and2 (EvT.cmp (Ev.gt_int (Ev.item_list (xs := (List.range 4).map fun i => .int (C j i)) (k := (k : Nat)) (Ev.item_list (xs := (matI C).map .list) (k := (j : Nat)) (by k_extra "ev") (by k_extra "ev") (by lia) (by lia) (matD_at (by lia))) (by k_extra "ev") (by lia) (by lia) (mrow_at hk)) (by k_extra "ev")))
          fun _ => EvT.cmp (Ev.notin_ints (nv (by lia) (by k_extra "mem") (by k_extra "mem") (by decide) (by decide)) (Ev.name (by k_extra "mem")))
      · rw [gone_ints]
        show (if (((natI (gone nm C G k)).map PyData.int).length < 2 ^ 24) then _ else _) = _
        have h1 : ((natI (gone nm C G k)).map PyData.int).length ≤ 4 := by
          unfold gone natI
          rw [List.length_map, List.length_map]
          exact Nat.le_trans (List.length_filter_le _ _) (by rw [List.length_range]; lia)
        rw [if_pos (by lia)]
        cases gone nm C G k <;> rfl
      · rw [Bool.not_not]
      · dsimp only
        rw [one_map, ← List.map_append, es]
        unfold one
        k_extra "fgt"
    · rw [hb, Bool.false_and] at es
      rw [if_neg (by decide), List.append_nil] at es
      dsimp only
      rw [es]
      exact .same (.same (.same (.same (.un .nil))))
  · rintro k hk
    have hk : k = 4 := hk
    subst hk
    have hl := mustU_len nm C G 4
    refine Ex.nil ?_
    refine Ex.freeze (x := Str.ofString "row") (by k_extra "mem") (by k_extra "upd") ?_
    dsimp only [B.frozen]
    exact Ex.cons (Ex1.ret (Ev.sorted (by kernel_rfl) (gn_sorted w base) (by kernel_rfl) (Ev.name (by k_extra "mem")) rfl (by lia)) rfl)
noncomputable def rep : Nat → Nat → Nat → Nat
  | 0, _, v => v
  | c + 1, b, v => rep c b v ^^^ b
noncomputable def nv (C : MI) (B : Nat → Nat) (r p : Nat) : Nat → Nat
  | 0 => r
  | j + 1 => rep (C j p).toNat (B j) (nv C B r p j)
theorem rep_lt {n : Nat} (c : Nat) {b v : Nat} (hb : b < 2 ^ n) (hv : v < 2 ^ n) : rep c b v < 2 ^ n := by
  induction c with
  | zero => exact hv
  | succ c ih => exact Nat.xor_lt_two_pow ih hb
theorem nv_lt {C : MI} {B : Nat → Nat} {r p : Nat} (hr : r < 4096) (j : Nat) (hB : ∀ q, q < j → B q < 4096) : nv C B r p j < 4096 := by
  induction j with
  | zero => exact hr
  | succ j ih => exact rep_lt (n := 12) _ (hB j (Nat.lt_succ_self _)) (ih fun q hq => hB q (Nat.lt_succ_of_lt hq))
theorem bits_mod (v n : Nat) : ((natI ((List.range n).filter v.testBit)).map fun i : Int => (2 : Int) ^ i.toNat).sum = ((v % 2 ^ n : Nat) : Int) := by
  induction n with
  | zero => rw [Nat.pow_zero, Nat.mod_one]; rfl
  | succ n ih =>
    unfold natI at ih ⊢
    rw [List.range_succ, List.filter_append, List.map_append, List.map_append, List.sum_append, ih, Nat.pow_succ, Nat.mod_mul, List.filter_cons, List.filter_nil, Nat.testBit_eq_decide_div_mod_eq]
    by_cases h : v / 2 ^ n % 2 = 1
    · rw [h]; simp
    · have : v / 2 ^ n % 2 = 0 := by lia
      rw [this]; simp
theorem bits_sum {v : Nat} (h : v < 4096) : ((bitsL v).map fun i : Int => (2 : Int) ^ i.toNat).sum = (v : Nat) := by
  have := bits_mod v 12
  rw [Nat.mod_eq_of_lt (show v < 2 ^ 12 from h)] at this
  exact this
theorem kind_index {k : Nat} (h : k < 7) : Builtin.Str.occurrences (Str.ofString "pcdb-ls") ⟨#[kindC k]⟩ 0 (Str.ofString "pcdb-ls").length 1 = [k] := by
  rcases kind_cases h with rfl | rfl | rfl | rfl | rfl | rfl | rfl <;> decide +kernel
noncomputable abbrev nrV (nm : Nat → Int) (C : MI) (rk bk : List (Int × PyData)) (p : Nat) (o v n l : B) : Vars := [(Str.ofString "names", .sh (.list ((namesL nm).map .int))), (Str.ofString "counts", .sh (matD C)), (Str.ofString "rows", .sh (.dict (kvData rk))), (Str.ofString "bits", .sh (.dict (kvData bk))), (Str.ofString "place", .sh (.int (p : Nat))), (Str.ofString "own", o), (Str.ofString "value", v), (Str.ofString "one", n), (Str.ofString "lap", l)]
set_option maxHeartbeats 4000000 in
theorem con_new_row (w : World) (base : Heap) (nm : Nat → Int) (C : MI) (hC : Cnt C) (B : Nat → Nat) (rk bk : List (Int × PyData)) (nr : (rk.map (·.1)).Nodup) (nb : (bk.map (·.1)).Nodup) (p k r : Nat) (hp : p < 4) (hk : k < 7) (hr : r < 4096) (hrow : rk.lookup (nm p) = some (.str (rowStr k r)))
    (hB : ∀ q, q < p → B q < 4096) (hbits : ∀ q, q < p → 0 < C q p → bk.lookup (nm q) = some (.list ((bitsL (B q)).map .int))) :
    Con (W1 w base) 5 (.ref 255) [.list ((namesL nm).map .int), matD C, .dict (kvData rk), .dict (kvData bk), .int (p : Nat)] (.str (rowStr k (nv C B r p p : Nat))) := by
  refine Con.of (fn_l_new_row w base) rfl ?_
  dsimp only [List.zip, List.zipWith, List.map, List.append_nil, List.cons_append, List.nil_append]
  refine Ex.cons (Ex1.assign (d := .str (rowStr k r)) locOk (Ev.item_dict (kvs := rk) (k := nm p) (Ev.name (by k_extra "mem")) nr (Ev.item_list (k := (p : Nat)) (Ev.name (d := .list ((namesL nm).map .int)) (by k_extra "mem")) (by k_extra "ev") (by lia) (by lia) (by rw [Int.toNat_natCast]; exact namesL_at hp)) hrow) (by k_extra "upd") ?_)
  refine Ex.cons (Ex1.assign (d := .list ((bitsL r).map .int)) locOk (Ev.callF (fn_l_bits w base) (by kernel_rfl) (g_l_bits w base) (EvAll.cons (Ev.name (by k_extra "mem")) EvAll.nil) (con_bits w base k r)) (by k_extra "upd") ?_)
  refine Ex.cons (Ex1.forS (σ := Nat) (It.range1 (b := (p : Nat)) (by kernel_rfl) (gn_range w base) (by kernel_rfl) (by k_extra "ev") (by lia) (by lia)).s
    (fun j => nrV nm C rk bk p (.sh (.str (rowStr k r))) (.sh (.list ((bitsL (nv C B r p j)).map .int))) .un .un) (fun i j => j = i) 0 rfl (.same (.same (.same (.same (.same (.same (.same (.same (.same .nil))))))))) ?_ ?_)
  · rintro i d j hd rfl
    obtain ⟨rfl, hj⟩ := rangeD_at hd
    have hj : j < p := by lia
    refine ⟨_, Asg.name locOk (by k_extra "upd"), ?_⟩
    have c0 := hC.lo j p
    have c2 := hC.hi j p
    refine Ex.cons (Ex1.forS (σ := Nat) (It.range1 (b := C j p) (by kernel_rfl) (gn_range w base) (by kernel_rfl) (Ev.item_list (xs := (List.range 4).map fun i => .int (C j i)) (k := (p : Nat)) (Ev.item_list (xs := (matI C).map .list) (k := (j : Nat)) (by k_extra "ev") (by k_extra "ev") (by lia) (by lia) (matD_at (by lia))) (by k_extra "ev") (by lia) (by lia) (mrow_at hp)) (by lia) (by lia)).s
      (fun l => nrV nm C rk bk p (.sh (.str (rowStr k r))) (.sh (.list ((bitsL (rep l (B j) (nv C B r p j))).map .int))) (.sh (.int (j : Nat))) .un) (fun i l => l = i) 0 rfl (.same (.same (.same (.same (.same (.same (.same (.same (.same .nil))))))))) ?_ ?_)
    · rintro i d l hd rfl
      obtain ⟨rfl, hl⟩ := rangeD_at hd
      have hpos : 0 < C j p := by lia
      refine ⟨_, Asg.name locOk (by k_extra "upd"), ?_⟩
      refine Ex.cons (Ex1.assign (d := .list ((bitsL (rep (l + 1) (B j) (nv C B r p j))).map .int)) locOk (Ev.callF (fn_l_turned w base) (by kernel_rfl) (g_l_turned w base) (EvAll.cons (Ev.name (by k_extra "mem")) (EvAll.cons (d := .list ((bitsL (B j)).map .int)) (Ev.item_dict (kvs := bk) (k := nm j) (Ev.name (by k_extra "mem")) nb (Ev.item_list (k := (j : Nat)) (Ev.name (d := .list ((namesL nm).map .int)) (by k_extra "mem")) (by k_extra "ev") (by lia) (by lia) (by rw [Int.toNat_natCast]; exact namesL_at (by lia))) (hbits j hj hpos)) EvAll.nil)) (con_turned w base (rep l (B j) (nv C B r p j)) (B j))) (by k_extra "upd") (Ex.nil ⟨l + 1, rfl, by k_extra "fgt"⟩))
    · rintro l hl
      have hl : l = (C j p).toNat := by rw [rangeD_len] at hl; exact hl
      subst hl
      exact Ex.nil (Ex.nil ⟨j + 1, rfl, .same (.same (.same (.same (.same (.same (.same (.un (.un .nil))))))))⟩)
  · rintro j hj
    have hj : j = p := by rw [rangeD_len] at hj; simpa using hj
    subst hj
    refine Ex.nil ?_
    have hv := nv_lt (C := C) (B := B) (p := j) hr j hB
    generalize nv C B r j j = v at hv ⊢
    have e0 : (rowStr k r).cps[(0 : Int).toNat]? = some (kindC k) := rfl
    refine Ex.cons (Ex1.ret (Ev.callF (fn_filemode w base) (by kernel_rfl) (g_filemode w base) (EvAll.cons (d := .int ((kindV k : Nat) * 4096 + (v : Nat))) (Ev.callF (fn_l_mode w base) (by kernel_rfl) (g_l_mode w base) (EvAll.cons (d := .int (k : Nat)) (Ev.index_str Ev.const_str (Ev.item_str (Ev.name (d := .str (rowStr k r)) (by k_extra "mem")) Ev.const_int (by decide) (by decide) e0) (kind_index hk)) (EvAll.cons (d := .int (v : Nat)) ?_ EvAll.nil)) (con_mode w base k v hk)) EvAll.nil) (con_filerow w base k v hk hv)) rfl)
    refine Ev.of_eq (Ev.callB (by kernel_rfl) (gn_sum w base) (by kernel_rfl) (EvAll.cons (d := .list (((bitsL v).map fun i : Int => (2 : Int) ^ i.toNat).map .int)) (Ev.of_eq (EvG.mapD (ns := bitsL v) (f := fun i => .int (2 ^ i.toNat)) (It.list (Ev.name (by k_extra "mem"))) (by decide +kernel) (by k_extra "rep") (fun i hi => ?_) (by have := bitsL_len v; lia)).ev (by rw [List.map_map]; rfl)) EvAll.nil) (Con.sum_list (ht := 0) rfl)) (by rw [bits_sum hv])
    obtain ⟨b, hb, rfl, _⟩ := bitsL_mem.mp hi
    exact Ev.pow Ev.const_int (Ev.name (by k_extra "mem")) (by lia) (by lia) (by decide)
structure Nm (nm : Nat → Int) : Prop where
  lo : ∀ i, i < 4 → 0 ≤ nm i
  hi : ∀ i, i < 4 → nm i < 4
  inj : ∀ i j, i < 4 → j < 4 → nm i = nm j → i = j
noncomputable def filesD (kd rt : Nat → Nat) (n : Nat) : List PyData := (List.range n).map fun p => .tuple [.int (kd p : Nat), .int (rt p : Nat)]
noncomputable def rowsKv (nm : Nat → Int) (kd rt : Nat → Nat) (n : Nat) : List (Int × PyData) := (List.range n).map fun p => (nm p, .str (rowStr (kd p) (rt p : Nat)))
theorem filesD_at {kd rt : Nat → Nat} {n i : Nat} (h : i < n) : (filesD kd rt n)[i]? = some (.tuple [.int (kd i : Nat), .int (rt i : Nat)]) := by simp [filesD, h]
theorem filesD_len (kd rt : Nat → Nat) (n : Nat) : (filesD kd rt n).length = n := by simp [filesD]
theorem filesD_succ (kd rt : Nat → Nat) (n : Nat) : filesD kd rt (n + 1) = filesD kd rt n ++ [.tuple [.int (kd n : Nat), .int (rt n : Nat)]] := by
  unfold filesD
  rw [List.range_succ, List.map_append]; rfl
theorem rowsKv_succ (nm : Nat → Int) (kd rt : Nat → Nat) (n : Nat) : rowsKv nm kd rt (n + 1) = rowsKv nm kd rt n ++ [(nm n, .str (rowStr (kd n) (rt n : Nat)))] := by
  unfold rowsKv
  rw [List.range_succ, List.map_append]; rfl
theorem rowsKv_keys (nm : Nat → Int) (kd rt : Nat → Nat) (n : Nat) : (rowsKv nm kd rt n).map (·.1) = (List.range n).map nm := by
  unfold rowsKv
  rw [List.map_map]; rfl
theorem nm_new {nm : Nat → Int} (N : Nm nm) {n : Nat} (h : n < 4) : nm n ∉ (List.range n).map nm := by
  rw [List.mem_map]
  rintro ⟨i, hi, e⟩
  have hi := List.mem_range.mp hi
  have := N.inj i n (by lia) h e
  lia
theorem nm_nodup {nm : Nat → Int} (N : Nm nm) : (namesL nm).Nodup := by
  unfold namesL List.Nodup
  rw [List.pairwise_map]
  refine (List.nodup_range (n := 4)).imp_of_mem fun ha hb h e => h (N.inj _ _ (List.mem_range.mp ha) (List.mem_range.mp hb) e)
theorem rowsKv_look {nm : Nat → Int} (N : Nm nm) {kd rt : Nat → Nat} {p : Nat} (h : p < 4) : (rowsKv nm kd rt 4).lookup (nm p) = some (.str (rowStr (kd p) (rt p : Nat))) := by
  have key : ∀ n : Nat, n ≤ 4 → (rowsKv nm kd rt n).lookup (nm p) = if p < n then some (.str (rowStr (kd p) (rt p : Nat))) else none := fun n => by
    induction n with
    | zero => intro _; rfl
    | succ n ih =>
      intro hn
      rw [rowsKv_succ, lookup_append, ih (by lia)]
      by_cases h1 : p < n
      · rw [if_pos h1, if_pos (by lia)]; rfl
      · rw [if_neg h1, Option.none_or, List.lookup_cons]
        by_cases h2 : p = n
        · subst h2
          rw [if_pos (by lia)]; simp
        · have : (nm p == nm n) = false := beq_eq_false_iff_ne.mpr fun e => h2 (N.inj p n h (by lia) e)
          rw [this, if_neg (by lia)]; rfl
  rw [key 4 (Nat.le_refl 4), if_pos h]
noncomputable def ft (M : MI) (R : Nat → Nat) (p : Nat) : Nat → Nat
  | 0 => R p
  | j + 1 => if M j p % 2 == 1 then ft M R p j ^^^ R j else ft M R p j
theorem xor_and (m n : Nat) : m + n = (m ^^^ n) + 2 * (m &&& n) := by
  induction m using Nat.strongRecOn generalizing n with
  | ind m ih =>
    by_cases h : m = 0
    · subst h; simp
    have e := ih (m / 2) (by lia) (n / 2)
    have a1 := Nat.xor_div_two (a := m) (b := n)
    have a2 := Nat.and_div_two (a := m) (b := n)
    have b1 := Nat.xor_mod_two_pow (a := m) (b := n) (n := 1)
    have b2 := Nat.and_mod_two_pow (a := m) (b := n) (n := 1)
    simp only [Nat.pow_one] at b1 b2
    have k : ∀ x, x < 2 → ∀ y, y < 2 → x + y = (x ^^^ y) + 2 * (x &&& y) := by decide
    have := k (m % 2) (by lia) (n % 2) (by lia)
    lia
theorem bitXor_nat (m n : Nat) : Builtin.bitXor (m : Int) (n : Int) = ((m ^^^ n : Nat) : Int) := by
  rw [PyProof.Rows.bitXor_and, bitAnd_nat]
  have := xor_and m n
  lia
noncomputable abbrev roV (nm : Nat → Int) (kd rt : Nat → Nat) (k : Nat) (p : B) : Vars := [(Str.ofString "names", .sh (.list ((namesL nm).map .int))), (Str.ofString "files", .sh (.list (filesD kd rt 4))), (Str.ofString "rows", .d1 (rowsKv nm kd rt k)), (Str.ofString "place", p)]
set_option maxHeartbeats 4000000 in
theorem con_rows (w : World) (base : Heap) (nm : Nat → Int) (N : Nm nm) (kd rt : Nat → Nat) (hk : ∀ p, p < 4 → kd p < 7) : Con (W1 w base) 4 (.ref 269) [.list ((namesL nm).map .int), .list (filesD kd rt 4)] (.dict (kvData (rowsKv nm kd rt 4))) := by
  refine Con.of (fn_l_rows w base) rfl ?_
  dsimp only [List.zip, List.zipWith, List.map, List.append_nil, List.cons_append, List.nil_append]
  refine Ex.cons (Ex1.assign_dict0 locOk (by k_extra "upd") ?_)
  refine Ex.cons (Ex1.forS (σ := Nat) (It.range1 (by kernel_rfl) (gn_range w base) (by kernel_rfl) Ev.const_int (by decide) (by decide)).s
    (fun k => roV nm kd rt k .un) (fun i k => k = i) 0 rfl (.same (.same (.same (.same .nil)))) ?_ ?_)
  · rintro i d k hd rfl
    obtain ⟨rfl, hk4⟩ := rangeD_at hd
    have hk4 : k < 4 := by lia
    have fv : ∀ {ρ' : Vars} {c : Int} {d : PyData} {p1 p2 p3 p4 p5 : Pos} {n : Nat}, (Str.ofString "files", B.sh (.list (filesD kd rt 4))) ∈ ρ' → (Str.ofString "place", B.sh (.int (k : Nat))) ∈ ρ' → 0 ≤ c → c < 2 ^ 63 → [PyData.int (kd k : Nat), .int (rt k : Nat)][c.toNat]? = some d → Ev (W1 w base) 3 (fnScope PW 44) ρ' (fun _ => False) (.Subscript (.Subscript (.Name (Str.ofString "files") p1) (.Name (Str.ofString "place") p2) p3) (.Constant (.int c) n p4) p5) d := fun h1 h2 c0 c1 h3 =>
      Ev.item_tuple (Ev.item_list (k := (k : Nat)) (Ev.name h1) (Ev.name h2) (by lia) (by lia) (by rw [Int.toNat_natCast]; exact filesD_at hk4)) Ev.const_int c0 c1 h3
    refine ⟨_, Asg.name locOk (by k_extra "upd"), ?_⟩
    refine Ex.cons (Ex1.setdict (kvs := rowsKv nm kd rt k) (k := nm k) (d := .str (rowStr (kd k) (rt k : Nat))) (by k_extra "mem") (Ev.callF (fn_l_row w base) (by kernel_rfl) (g_l_row w base) (EvAll.cons (d := .int (kd k : Nat)) (fv (by k_extra "mem") (by k_extra "mem") (by decide) (by decide) rfl) (EvAll.cons (d := .int (rt k : Nat)) (fv (by k_extra "mem") (by k_extra "mem") (by decide) (by decide) rfl) EvAll.nil)) (con_row w base (kd k) (rt k : Nat) (hk k hk4))) (Ev.item_list (k := (k : Nat)) (Ev.name (d := .list ((namesL nm).map .int)) (by k_extra "mem")) (by k_extra "ev") (by lia) (by lia) (by rw [Int.toNat_natCast]; exact namesL_at hk4)) (by rw [rowsKv_keys]; exact nm_new N hk4) (by unfold rowsKv; rw [List.length_map, List.length_range]; exact Nat.le_trans (by lia : k ≤ 1000) ksz) (by k_extra "upd") (Ex.nil ⟨k + 1, rfl, ?_⟩))
    dsimp only [roV]
    rw [show rowsKv nm kd rt (k + 1) = _ from rowsKv_succ nm kd rt k]
    exact .same (.same (.same (.un .nil)))
  · rintro k hk
    have hk : k = 4 := hk
    subst hk
    refine Ex.nil ?_
    refine Ex.freeze (x := Str.ofString "rows") (by k_extra "mem") (by k_extra "upd") ?_
    dsimp only [B.frozen]
    exact Ex.cons (Ex1.ret (Ev.name (by k_extra "mem")) rfl)
noncomputable abbrev tfV (kd rt : Nat → Nat) (M : MI) (l : List PyData) (p r o : B) : Vars := [(Str.ofString "files", .sh (.list (filesD kd rt 4))), (Str.ofString "ways", .sh (matD M)), (Str.ofString "turned", .l1 l), (Str.ofString "place", p), (Str.ofString "rights", r), (Str.ofString "one", o)]
set_option maxHeartbeats 4000000 in
theorem con_files_turned (w : World) (base : Heap) (kd rt : Nat → Nat) (M : MI) : Con (W1 w base) 1 (.ref 276) [.list (filesD kd rt 4), matD M] (.list (filesD kd (fun p => ft M rt p p) 4)) := by
  refine Con.of (fn_l_files_turned w base) rfl ?_
  dsimp only [List.zip, List.zipWith, List.map, List.append_nil, List.cons_append, List.nil_append]
  refine Ex.cons (Ex1.assign_nil locOk (by k_extra "upd") ?_)
  refine Ex.cons (Ex1.forS (σ := Nat) (It.range1 (by kernel_rfl) (gn_range w base) (by kernel_rfl) Ev.const_int (by decide) (by decide)).s
    (fun k => tfV kd rt M (filesD kd (fun p => ft M rt p p) k) .un .un .un) (fun i k => k = i) 0 rfl (.same (.same (.same (.same (.same (.same .nil)))))) ?_ ?_)
  · rintro i d k hd rfl
    obtain ⟨rfl, hk4⟩ := rangeD_at hd
    have hk4 : k < 4 := by lia
    have fv : ∀ {ρ' : Vars} {x : Str} {i : Nat} {c : Int} {d : PyData} {p1 p2 p3 p4 p5 : Pos} {n : Nat}, i < 4 → (Str.ofString "files", B.sh (.list (filesD kd rt 4))) ∈ ρ' → (x, B.sh (.int (i : Nat))) ∈ ρ' → 0 ≤ c → c < 2 ^ 63 → [PyData.int (kd i : Nat), .int (rt i : Nat)][c.toNat]? = some d → (x == ("__classdict__" : Str)) = false → (x == ("__debug__" : Str)) = false → Ev (W1 w base) 0 (fnScope PW 45) ρ' (fun _ => False) (.Subscript (.Subscript (.Name (Str.ofString "files") p1) (.Name x p2) p3) (.Constant (.int c) n p4) p5) d := fun hi h1 h2 c0 c1 h3 q1 q2 =>
      Ev.item_tuple (Ev.item_list (Ev.name h1) (Ev.name h2 q1 q2) (by lia) (by lia) (by rw [Int.toNat_natCast]; exact filesD_at hi)) Ev.const_int c0 c1 h3
    refine ⟨_, Asg.name locOk (by k_extra "upd"), ?_⟩
    refine Ex.cons (Ex1.assign (d := .int (rt k : Nat)) locOk (fv hk4 (by k_extra "mem") (by k_extra "mem") (by decide) (by decide) rfl (by decide) (by decide)) (by k_extra "upd") ?_)
    refine Ex.cons (Ex1.forS (σ := Nat) (It.range1 (b := (k : Nat)) (by kernel_rfl) (gn_range w base) (by kernel_rfl) (by k_extra "ev") (by lia) (by lia)).s
      (fun j => tfV kd rt M (filesD kd (fun p => ft M rt p p) k) (.sh (.int (k : Nat))) (.sh (.int (ft M rt k j : Nat))) .un) (fun i j => j = i) 0 rfl (.same (.same (.same (.same (.same (.same .nil)))))) ?_ ?_)
    · rintro i d j hd rfl
      obtain ⟨rfl, hj⟩ := rangeD_at hd
      have hj : j < k := by lia
      refine ⟨_, Asg.name locOk (by k_extra "upd"), ?_⟩
      refine Ex.set (x := Str.ofString "rights") (Set1.of_eq (d' := .int (ft M rt k (j + 1) : Nat)) (Set1.ifs (b := M j k % 2 == 1) (EvT.cmp (Ev.eq_int (Ev.modP (Ev.item_list (xs := (List.range 4).map fun i => .int (M j i)) (k := (k : Nat)) (Ev.item_list (xs := (matI M).map .list) (k := (j : Nat)) (by k_extra "ev") (by k_extra "ev") (by lia) (by lia) (matD_at (by lia))) (by k_extra "ev") (by lia) (by lia) (mrow_at hk4)) Ev.const_int) Ev.const_int))
        (fun _ => Sets.one (Set1.assign (d := .int (ft M rt k j ^^^ rt j : Nat)) locOk (Ev.of_eq (Ev.bxor (a := (ft M rt k j : Nat)) (b := (rt j : Nat)) (by k_extra "ev") (fv (by lia) (by k_extra "mem") (by k_extra "mem") (by decide) (by decide) rfl (by decide) (by decide))) (by rw [bitXor_nat])))) fun _ => Sets.skip (d := .int (ft M rt k j : Nat)) (by k_extra "mem")) ?_) (by k_extra "upd") (Ex.nil ⟨j + 1, rfl, by k_extra "fgt"⟩)
      show _ = PyData.int ((if M j k % 2 == 1 then ft M rt k j ^^^ rt j else ft M rt k j : Nat) : Int)
      split <;> rfl
    · rintro j hj
      have hj : j = k := by rw [rangeD_len] at hj; simpa using hj
      subst hj
      refine Ex.nil ?_
      refine Ex.cons (Ex1.append (d := .tuple [.int (kd j : Nat), .int (ft M rt j j : Nat)]) (by k_extra "mem") (Ev.tuple (EvAll.cons (fv hk4 (by k_extra "mem") (by k_extra "mem") (by decide) (by decide) rfl (by decide) (by decide)) (EvAll.cons (Ev.name (by k_extra "mem")) EvAll.nil)) (by show 2 ≤ _; decide)) (by rw [filesD_len]; exact Nat.le_trans (by lia : j ≤ 1000) ksz) (by k_extra "upd") (Ex.nil ⟨j + 1, rfl, ?_⟩))
      dsimp only [tfV]
      rw [show filesD kd (fun p => ft M rt p p) (j + 1) = _ from filesD_succ _ _ j]
      exact .same (.same (.same (.un (.un (.un .nil)))))
  · rintro k hk
    have hk : k = 4 := hk
    subst hk
    refine Ex.nil ?_
    refine Ex.freeze (x := Str.ofString "turned") (by k_extra "mem") (by k_extra "upd") ?_
    dsimp only [B.frozen]
    exact Ex.cons (Ex1.ret (Ev.name (by k_extra "mem")) rfl)
noncomputable def stI (nm : Nat → Int) (C : MI) (k l : Nat) : List (Int × Int) := (List.range l).flatMap fun one => List.replicate (C one k).toNat (nm one, nm k)
noncomputable def stU (nm : Nat → Int) (C : MI) (k : Nat) : List (Int × Int) := (List.range k).flatMap fun two => stI nm C two two
theorem stI_succ (nm : Nat → Int) (C : MI) (k l : Nat) : stI nm C k (l + 1) = stI nm C k l ++ List.replicate (C l k).toNat (nm l, nm k) := by
  unfold stI
  rw [List.range_succ, List.flatMap_append]; simp
theorem stU_succ (nm : Nat → Int) (C : MI) (k : Nat) : stU nm C (k + 1) = stU nm C k ++ stI nm C k k := by
  unfold stU
  rw [List.range_succ, List.flatMap_append]; simp
theorem stI_len {nm : Nat → Int} {C : MI} (hC : Cnt C) (k l : Nat) : (stI nm C k l).length ≤ 2 * l := by
  induction l with
  | zero => exact Nat.le_refl _
  | succ l ih =>
    rw [stI_succ, List.length_append, List.length_replicate]
    have := hC.hi l k
    lia
theorem stU_len {nm : Nat → Int} {C : MI} (hC : Cnt C) {k : Nat} (hk : k ≤ 4) : (stU nm C k).length ≤ 8 * k := by
  induction k with
  | zero => exact Nat.le_refl _
  | succ k ih =>
    rw [stU_succ, List.length_append]
    have := ih (by lia)
    have := stI_len (nm := nm) hC k k
    lia
theorem stU_mem {nm : Nat → Int} {C : MI} {k : Nat} {q : Int × Int} : q ∈ stU nm C k ↔ ∃ two one, two < k ∧ one < two ∧ 0 < C one two ∧ q = (nm one, nm two) := by
  unfold stU stI
  rw [List.mem_flatMap]
  constructor
  · rintro ⟨two, h2, h⟩
    obtain ⟨one, h1, h⟩ := List.mem_flatMap.mp h
    obtain ⟨h3, h4⟩ := List.mem_replicate.mp h
    exact ⟨two, one, List.mem_range.mp h2, List.mem_range.mp h1, by lia, h4⟩
  · rintro ⟨two, one, h2, h1, h3, rfl⟩
    exact ⟨two, List.mem_range.mpr h2, List.mem_flatMap.mpr ⟨one, List.mem_range.mpr h1, List.mem_replicate.mpr ⟨by lia, rfl⟩⟩⟩
theorem mem4 {k : Int} : k ∈ nodes4 ↔ 0 ≤ k ∧ k < 4 := by
  unfold nodes4
  simp only [List.mem_cons, List.not_mem_nil, or_false]
  lia
section
variable {nm : Nat → Int} {C : MI} {G W r : List Int} {σ : SS}
theorem nm_in (N : Nm nm) {p : Nat} (h : p < 4) : nm p ∈ nodes4 := mem4.mpr ⟨N.lo p h, N.hi p h⟩
theorem namesL_len (nm : Nat → Int) : (namesL nm).length = 4 := by simp
theorem all4 {l : List Int} (h : l.Nodup) (h4 : 4 ≤ l.length) (hs : ∀ k ∈ l, k ∈ nodes4) {k : Int} (hk : k ∈ nodes4) : k ∈ l := by
  refine Classical.byContradiction fun hn => ?_
  have := nodup_len (l := k :: l) (l' := nodes4) (List.nodup_cons.mpr ⟨hn, h⟩) fun x hx => (List.mem_cons.mp hx).elim (fun e => e ▸ hk) (hs x)
  have e : nodes4.length = 4 := rfl
  rw [List.length_cons] at this
  lia
theorem place (N : Nm nm) {k : Int} (hk : k ∈ nodes4) : ∃ p, p < 4 ∧ k = nm p := by
  have := all4 (nm_nodup N) (by rw [namesL_len]; exact Nat.le_refl 4) (fun x hx => by
    obtain ⟨p, hp, rfl⟩ := List.mem_map.mp hx
    exact nm_in N (List.mem_range.mp hp)) hk
  obtain ⟨p, hp, e⟩ := List.mem_map.mp this
  exact ⟨p, List.mem_range.mp hp, e.symm⟩
theorem st_nodes (N : Nm nm) : ∀ q ∈ stU nm C 4, q.1 ∈ nodes4 ∧ q.2 ∈ nodes4 := fun q hq => by
  obtain ⟨two, one, h2, h1, _, rfl⟩ := stU_mem.mp hq
  exact ⟨nm_in N (by lia), nm_in N h2⟩
theorem indeg_free (N : Nm nm) {two : Nat} (h2 : two < 4) : indeg (stU nm C 4) G (nm two) = 0 ↔ ∀ one, one < two → 0 < C one two → nm one ∈ G := by
  rw [indeg_zero]
  constructor
  · intro h one h1 hc
    exact h (nm one, nm two) (stU_mem.mpr ⟨two, one, h2, h1, hc, rfl⟩) rfl
  · rintro h q hq e
    obtain ⟨t, o, ht, ho, hc, rfl⟩ := stU_mem.mp hq
    have : t = two := N.inj t two ht h2 e
    subst this
    exact h o ho hc
theorem waits_iff {two : Nat} : waits nm C G two = true ↔ nm two ∉ G ∧ ∀ one, one < two → 0 < C one two → nm one ∈ G := by
  unfold waits gone
  rw [Bool.and_eq_true, Bool.not_eq_true', Bool.eq_false_iff, ne_eq, List.contains_iff_mem, List.isEmpty_iff, List.filter_eq_nil_iff]
  refine and_congr_right fun _ => ⟨fun h one h1 hc => ?_, fun h one h1 q => ?_⟩
  · have := h one (List.mem_range.mpr h1)
    simpa [hc] using this
  · have := List.mem_range.mp h1
    rw [Bool.and_eq_true, decide_eq_true_eq, Bool.not_eq_true', Bool.eq_false_iff, ne_eq, List.contains_iff_mem] at q
    exact q.2 (h one this q.1)
theorem Wst.mem (K : Wst (stU nm C 4) G W [] σ) {k : Int} : k ∈ W ↔ k ∈ nodes4 ∧ k ∉ G ∧ indeg (stU nm C 4) G k = 0 := by
  refine ⟨K.wsub k, fun h => Classical.byContradiction fun hn => ?_⟩
  have := (K.rmem k).mpr ⟨h.1, h.2.1, hn, h.2.2⟩
  contradiction
theorem Wst.must (N : Nm nm) (K : Wst (stU nm C 4) G W [] σ) : sortI W = must nm C G := by
  have nd : (mustU nm C G 4).Nodup := by
    unfold mustU List.Nodup
    rw [List.pairwise_map]
    refine ((List.nodup_range (n := 4)).filter _).imp_of_mem fun ha hb h e => h (N.inj _ _ ?_ ?_ e)
    · exact List.mem_range.mp (List.mem_filter.mp ha).1
    · exact List.mem_range.mp (List.mem_filter.mp hb).1
  unfold Mine.must
  refine sorted_unique (((sortI_perm _).trans ?_).trans (sortI_perm _).symm) (sortI_sorted _) (sortI_sorted _)
  refine (List.perm_ext_iff_of_nodup K.wnd nd).mpr fun k => ?_
  rw [K.mem]
  unfold mustU
  rw [List.mem_map]
  constructor
  · rintro ⟨h1, h2, h3⟩
    obtain ⟨p, hp, rfl⟩ := place N h1
    exact ⟨p, List.mem_filter.mpr ⟨List.mem_range.mpr hp, waits_iff.mpr ⟨h2, (indeg_free N hp).mp h3⟩⟩, rfl⟩
  · rintro ⟨p, hp, rfl⟩
    obtain ⟨hp, hw⟩ := List.mem_filter.mp hp
    have hp := List.mem_range.mp hp
    obtain ⟨h1, h2⟩ := waits_iff.mp hw
    exact ⟨nm_in N hp, h1, (indeg_free N hp).mpr h2⟩
theorem Wst.some (N : Nm nm) (K : Wst (stU nm C 4) G W [] σ) (hG : G.length < 4) : 0 < W.length := by
  refine Nat.pos_of_ne_zero fun h0 => ?_
  have hW : W = [] := List.eq_nil_of_length_eq_zero h0
  have key : ∀ p, p < 4 → nm p ∈ G := fun p => by
    induction p using Nat.strongRecOn with
    | ind p ih =>
      intro hp
      refine Classical.byContradiction fun hn => ?_
      have : nm p ∈ W := K.mem.mpr ⟨nm_in N hp, hn, (indeg_free N hp).mpr fun one h1 _ => ih one h1 (by lia)⟩
      rw [hW] at this
      contradiction
  have := nodup_len (nm_nodup N) (l' := G) fun k hk => by
    obtain ⟨p, hp, rfl⟩ := List.mem_map.mp hk
    exact key p (List.mem_range.mp hp)
  rw [namesL_len] at this
  lia
theorem Wst.last (K : Wst (stU nm C 4) G W r σ) (hG : G.length = 4) : W = [] ∧ r = [] := by
  have key : ∀ k, k ∈ nodes4 → k ∈ G := fun k hk => all4 K.gnd (by lia) K.gsub hk
  constructor
  · refine List.eq_nil_iff_forall_not_mem.mpr fun k hk => ?_
    obtain ⟨h1, h2, _⟩ := K.wsub k hk
    exact h2 (key k h1)
  · refine List.eq_nil_iff_forall_not_mem.mpr fun k hk => ?_
    obtain ⟨h1, h2, _⟩ := (K.rmem k).mp hk
    exact h2 (key k h1)
theorem no_ring (N : Nm nm) {su : Int → List Int} (hsu : ∀ k, su k = if k ∈ nodes4 then sucs (stU nm C 4) k else []) {l : List Int} (R : Ring su l) : False := by
  obtain ⟨c, p, hl, _⟩ := R.ends
  have st : ∀ a b, b ∈ su a → ∃ i j, i < j ∧ j < 4 ∧ a = nm i ∧ b = nm j := fun a b h => by
    rw [hsu] at h
    split at h
    · obtain ⟨two, one, h2, h1, _, e⟩ := stU_mem.mp (sucs_mem.mp h)
      cases e
      exact ⟨one, two, h1, h2, rfl, rfl⟩
    · contradiction
  have h0 : l[0]? = some c := by rw [hl]; rfl
  have hn : l[p.length + 1]? = some c := by rw [hl, List.getElem?_append_right (by rw [List.length_cons]; exact Nat.le_refl _)]; simp
  have up : ∀ j, j ≤ p.length → ∃ a b i k, l[j]? = some a ∧ l[j + 1]? = some b ∧ i < k ∧ k < 4 ∧ a = nm i ∧ b = nm k := fun j hj => by
    have hlen : l.length = p.length + 2 := by rw [hl]; simp
    have ha : l[j]? = some (l[j]'(by lia)) := List.getElem?_eq_getElem _
    have hb : l[j + 1]? = some (l[j + 1]'(by lia)) := List.getElem?_eq_getElem _
    obtain ⟨i, k, h1, h2, h3, h4⟩ := st _ _ (R.step j _ _ ha hb)
    exact ⟨_, _, i, k, ha, hb, h1, h2, h3, h4⟩
  obtain ⟨a, b, i0, k0, e1, e2, hlt0, hk0, rfl, rfl⟩ := up 0 (Nat.zero_le _)
  rw [h0] at e1
  cases e1
  have key : ∀ j, j ≤ p.length → ∃ k, k < 4 ∧ i0 < k ∧ l[j + 1]? = some (nm k) := fun j => by
    induction j with
    | zero => intro _; exact ⟨k0, hk0, hlt0, e2⟩
    | succ j ih =>
      intro hj
      obtain ⟨k, hk, hik, e⟩ := ih (by lia)
      obtain ⟨a, b, i', k', e1', e2', hlt', hk', rfl, rfl⟩ := up (j + 1) hj
      rw [e] at e1'
      have : k = i' := N.inj k i' hk (by lia) (Option.some.inj e1')
      exact ⟨k', hk', by lia, e2'⟩
  obtain ⟨k, hk, hik, e⟩ := key p.length (Nat.le_refl _)
  rw [hn] at e
  have := N.inj i0 k (by lia) hk (Option.some.inj e)
  lia
end
theorem bi_add (P : Params) : BoundIn (KK P) 191 (Str.ofString "add") 141 := ⟨by kernel_rfl, by kernel_rfl, by kernel_rfl, by kernel_rfl, by decide +kernel⟩
noncomputable def toldN (i : Nat) : SS := (List.range i).foldl (fun (σ : SS) (k : Nat) => σ.add (k : Int) []) SS.zero
theorem toldN_succ (i : Nat) : toldN (i + 1) = (toldN i).add (i : Int) [] := by unfold toldN; rw [List.range_succ, List.foldl_append]; rfl
theorem toldN_spec (i : Nat) : (toldN i).nodes = natI (List.range i) ∧ (∀ k, (toldN i).su k = []) ∧ (∀ k, (toldN i).np k = 0) ∧ (toldN i).ready = none ∧ (toldN i).npo = 0 ∧ (toldN i).nfi = 0 := by
  induction i with
  | zero => exact ⟨rfl, fun _ => rfl, fun _ => rfl, rfl, rfl, rfl⟩
  | succ i ih =>
    obtain ⟨h1, h2, h3, h4, h5, h6⟩ := ih
    have hn : (i : Int) ∉ (toldN i).nodes := by
      rw [h1]
      unfold natI
      rw [List.mem_map]
      rintro ⟨j, hj, e⟩
      have := List.mem_range.mp hj
      lia
    rw [toldN_succ]
    unfold SS.add SS.told
    rw [if_neg hn]
    refine ⟨?_, fun k => ?_, fun k => ?_, h4, h5, h6⟩
    · show (toldN i).nodes ++ [(i : Int)] = _
      rw [h1, List.range_succ]
      unfold natI
      rw [List.map_append]; rfl
    · show updF (toldN i).su i [] k = []
      by_cases h : k = (i : Int)
      · subst h; exact updF_self
      · rw [updF_ne h]; exact h2 k
    · show updF (updF (toldN i).np i 0) i (updF (toldN i).np i 0 i + 0) k = 0
      by_cases h : k = (i : Int)
      · subst h; rw [updF_self, updF_self]; rfl
      · rw [updF_ne h, updF_ne h]; exact h3 k
theorem toldN_Told : Told [] (toldN 4) := by
  obtain ⟨h1, h2, h3, h4, h5, h6⟩ := toldN_spec 4
  refine ⟨h1, fun k => ?_, fun k _ => ?_, h4, h5, h6⟩
  · rw [h2]
    unfold sucs; simp
  · rw [h3]; rfl
theorem Told.lens {st : List (Int × Int)} {σ : SS} (T : Told st σ) (j : Int) : (σ.su j).length ≤ st.length := by
  rw [T.su]
  split
  · unfold sucs
    rw [List.length_map]
    exact List.length_filter_le _ _
  · exact Nat.zero_le _
noncomputable abbrev soV (nm : Nat → Int) (C : MI) (s n t o : B) : Vars := [(Str.ofString "names", .sh (.list ((namesL nm).map .int))), (Str.ofString "counts", .sh (matD C)), (Str.ofString "sorter", s), (Str.ofString "name", n), (Str.ofString "two", t), (Str.ofString "one", o)]
noncomputable def IsTold (nm : Nat → Int) (C : MI) (root : Addr) (m : HM) : Prop := ∃ L σ, Sor root L σ m ∧ Told (stU nm C 4) σ
set_option maxHeartbeats 4000000 in
theorem con_sorter (w : World) (base : Heap) (nm : Nat → Int) (N : Nm nm) (C : MI) (hC : Cnt C) : ConN (W1 w base) 6 (.ref 245) [.list ((namesL nm).map .int), matD C] (IsTold nm C) := by
  refine ConN.of (y := Str.ofString "sorter") (fn_l_sorter w base) rfl ?_
  dsimp only [List.zip, List.zipWith, List.map, List.append_nil, List.cons_append, List.nil_append]
  refine Ex.cons (Ex1.make (C := 191) (fI := 127) (MP := fun x m' => ∃ L, Sor x L SS.zero m') locOk (by kernel_rfl) (g_TS w base) (mk_ts w.params) (con_ts_init w base) (by lia) ?_)
  rintro root m0 ⟨L0, S0⟩
  refine ⟨_, by k_extra "upd", ?_⟩
  refine Ex.cons (Ex1.forS (σ := HM) (It.range1 (by kernel_rfl) (gn_range w base) (by kernel_rfl) Ev.const_int (by decide) (by decide)).s
    (fun m => soV nm C (.ow (RM root m)) .un .un .un) (fun i m => ∃ L, Sor root L (toldN i) m) m0 ⟨L0, S0⟩ (by k_extra "fgt") ?_ ?_)
  · rintro i d m hd ⟨L, Sm⟩
    obtain ⟨rfl, hi⟩ := rangeD_at hd
    obtain ⟨t1, t2, t3, t4, t5, t6⟩ := toldN_spec i
    refine ⟨_, Asg.name locOk (by k_extra "upd"), ?_⟩
    refine Ex.cons (Ex1.exprM (EvM.meth (y := Str.ofString "sorter") (by k_extra "mem") Sm.inst Sm.dict rfl (mi_add w.params) (EvAll.cons (d := .int (i : Nat)) (by k_extra "ev") EvAll.nil) (con_add w base Sm t4 (i : Nat) [] (by decide) (by rw [t1]; unfold natI; rw [List.length_map, List.length_range]; lia) (fun j => by rw [t2]; simp)) ?_))
    rintro _ ⟨L', m', rfl, S'⟩
    refine ⟨_, by k_extra "upd", Ex.nil ⟨m', ⟨L', by rw [toldN_succ]; exact S'⟩, by k_extra "fgt"⟩⟩
  rintro m1 ⟨L1, S1⟩
  have e4 : (rangeD 0 4).length = 4 := rfl
  rw [e4] at S1
  refine Ex.nil ?_
  refine Ex.cons (Ex1.forS (σ := HM) (It.range1 (by kernel_rfl) (gn_range w base) (by kernel_rfl) Ev.const_int (by decide) (by decide)).s
    (fun m => soV nm C (.ow (RM root m)) .un .un .un) (fun k m => ∃ L σ, Sor root L σ m ∧ Told (stU nm C k) σ) m1 ⟨L1, _, S1, toldN_Told⟩ (by k_extra "fgt") ?_ ?_)
  · rintro k d m hd ⟨L, σ, Sm, T⟩
    obtain ⟨rfl, hk⟩ := rangeD_at hd
    have hk : k < 4 := by lia
    have hlk := stU_len (nm := nm) hC (k := k) (by lia)
    refine ⟨_, Asg.name locOk (by k_extra "upd"), ?_⟩
    refine Ex.cons (Ex1.forS (σ := HM) (It.range1 (b := (k : Nat)) (by kernel_rfl) (gn_range w base) (by kernel_rfl) (by k_extra "ev") (by lia) (by lia)).s
      (fun m => soV nm C (.ow (RM root m)) .un (.sh (.int (k : Nat))) .un) (fun l m => ∃ L σ, Sor root L σ m ∧ Told (stU nm C k ++ stI nm C k l) σ) m ⟨L, σ, Sm, by rw [show stI nm C k 0 = [] from rfl, List.append_nil]; exact T⟩ (by k_extra "fgt") ?_ ?_)
    · rintro l d m hd ⟨L, σ, Sm, T⟩
      obtain ⟨rfl, hl⟩ := rangeD_at hd
      have hl : l < k := by lia
      have hll := stI_len (nm := nm) hC k l
      have c0 := hC.lo l k
      have c2 := hC.hi l k
      refine ⟨_, Asg.name locOk (by k_extra "upd"), ?_⟩
      have nv : ∀ {ρ' : Vars} {x : Str} {i : Nat} {p1 p2 p3 : Pos}, i < 4 → (Str.ofString "names", B.sh (.list ((namesL nm).map .int))) ∈ ρ' → (x, B.sh (.int (i : Nat))) ∈ ρ' → (x == ("__classdict__" : Str)) = false → (x == ("__debug__" : Str)) = false → Ev (W1 w base) 5 (fnScope PW 40) ρ' (fun _ => False) (.Subscript (.Name (Str.ofString "names") p1) (.Name x p2) p3) (.int (nm i)) := fun hi h1 h2 q1 q2 =>
        Ev.item_list (Ev.name h1) (Ev.name h2 q1 q2) (by lia) (by lia) (by rw [Int.toNat_natCast]; exact namesL_at hi)
      have er : (List.replicate (C l k).toNat [PyData.int (nm l)]).flatten = (List.replicate (C l k).toNat (nm l)).map .int := by rw [List.flatten_replicate_singleton, List.map_replicate]
      refine Ex.cons (Ex1.exprM (EvM.methL (ht := 5) (y := Str.ofString "sorter") (d := .int (nm k)) (ds := (List.replicate (C l k).toNat (nm l)).map .int) (by k_extra "mem") Sm.inst Sm.dict rfl (mi_add w.params) (bi_add w.params) (nv hk (by k_extra "mem") (by k_extra "mem") (by decide) (by decide))
        (Ev.of_eq (EvG.list_mul (k := C l k) (Ev.list (EvAll.cons (nv (i := l) (by lia) (by k_extra "mem") (by k_extra "mem") (by decide) (by decide)) EvAll.nil) (by show 1 ≤ _; decide)) (Ev.item_list (xs := (List.range 4).map fun i => .int (C l i)) (k := (k : Nat)) (Ev.item_list (xs := (matI C).map .list) (k := (l : Nat)) (by k_extra "ev") (by k_extra "ev") (by lia) (by lia) (matD_at (by lia))) (by k_extra "ev") (by lia) (by lia) (mrow_at hk)) (by simp) (by simp; lia) (by lia) (by lia)).ev (by rw [er])) (by rw [List.length_map, List.length_replicate]; lia)
        (con_add w base Sm T.ready (nm k) (List.replicate (C l k).toNat (nm l)) (by rw [List.length_replicate]; lia) (by rw [T.nodes]; decide) (fun j => by have := T.lens j; rw [List.length_append] at this; lia)) ?_))
      rintro _ ⟨L', m', rfl, S'⟩
      refine ⟨_, by k_extra "upd", Ex.nil ⟨m', ⟨L', _, S', ?_⟩, by k_extra "fgt"⟩⟩
      rw [stI_succ, ← List.append_assoc]
      exact T.addN (nm_in N (by lia)) (nm_in N hk) _
    · rintro m ⟨L, σ, Sm, T⟩
      rw [rangeD_len, Int.toNat_natCast] at T
      refine Ex.nil (Ex.nil ⟨m, ⟨L, σ, Sm, by rw [stU_succ]; exact T⟩, by k_extra "fgt"⟩)
  · rintro m ⟨L, σ, Sm, T⟩
    have T : Told (stU nm C 4) σ := T
    refine Ex.nil ?_
    exact Ex.cons (Ex1.retO (EvV.rooted (m := m) (by k_extra "mem")) ⟨m, by k_extra "mem", L, σ, Sm, T⟩)
noncomputable def newKv (nm : Nat → Int) (kd Nw : Nat → Nat) (Gp : List Nat) : List (Int × PyData) := Gp.map fun p => (nm p, .str (rowStr (kd p) (Nw p : Nat)))
noncomputable def bitsKv (nm : Nat → Int) (Nw : Nat → Nat) (Gp : List Nat) : List (Int × PyData) := Gp.map fun p => (nm p, .list ((bitsL (Nw p)).map .int))
theorem kv_look {β : Type} {nm : Nat → Int} (N : Nm nm) (f : Nat → β) {p : Nat} (hp : p < 4) {Gp : List Nat} (hG : ∀ q ∈ Gp, q < 4) (h : p ∈ Gp) : (Gp.map fun q => (nm q, f q)).lookup (nm p) = some (f p) := by
  induction Gp with
  | nil => contradiction
  | cons a l ih =>
    rw [List.map_cons, List.lookup_cons]
    by_cases e : p = a
    · subst e; simp
    · have : (nm p == nm a) = false := beq_eq_false_iff_ne.mpr fun q => e (N.inj p a hp (hG a List.mem_cons_self) q)
      rw [this]
      exact ih (fun q hq => hG q (List.mem_cons_of_mem _ hq)) ((List.mem_cons.mp h).resolve_left e)
theorem newKv_keys (nm : Nat → Int) (kd Nw : Nat → Nat) (Gp : List Nat) : (newKv nm kd Nw Gp).map (·.1) = Gp.map nm := by unfold newKv; rw [List.map_map]; rfl
theorem bitsKv_keys (nm : Nat → Int) (Nw : Nat → Nat) (Gp : List Nat) : (bitsKv nm Nw Gp).map (·.1) = Gp.map nm := by unfold bitsKv; rw [List.map_map]; rfl
theorem newKv_snoc (nm : Nat → Int) (kd Nw : Nat → Nat) (Gp : List Nat) (p : Nat) : newKv nm kd Nw (Gp ++ [p]) = newKv nm kd Nw Gp ++ [(nm p, .str (rowStr (kd p) (Nw p : Nat)))] := by unfold newKv; rw [List.map_append]; rfl
theorem bitsKv_snoc (nm : Nat → Int) (Nw : Nat → Nat) (Gp : List Nat) (p : Nat) : bitsKv nm Nw (Gp ++ [p]) = bitsKv nm Nw Gp ++ [(nm p, .list ((bitsL (Nw p)).map .int))] := by unfold bitsKv; rw [List.map_append]; rfl
theorem namesL_get {nm : Nat → Int} {i : Nat} (h : i < 4) : (namesL nm)[i]? = some (nm i) := by simp [h]
structure Plc (Gp : List Nat) : Prop where
  nd : Gp.Nodup
  lt : ∀ p ∈ Gp, p < 4
theorem Plc.keys {nm : Nat → Int} (N : Nm nm) {Gp : List Nat} (P : Plc Gp) : (Gp.map nm).Nodup := by
  unfold List.Nodup
  rw [List.pairwise_map]
  exact P.nd.imp_of_mem fun ha hb h e => h (N.inj _ _ (P.lt _ ha) (P.lt _ hb) e)
theorem Plc.mem {nm : Nat → Int} (N : Nm nm) {Gp : List Nat} (P : Plc Gp) {p : Nat} (hp : p < 4) : nm p ∈ Gp.map nm ↔ p ∈ Gp := by
  rw [List.mem_map]
  exact ⟨fun ⟨q, hq, e⟩ => N.inj q p (P.lt q hq) hp e ▸ hq, fun h => ⟨p, h, rfl⟩⟩
noncomputable def RunOk (nm : Nat → Int) (kd Nw : Nat → Nat) (d : PyData) : Prop := ∃ Gp : List Nat, Plc Gp ∧ Gp.length = 4 ∧ d = .dict (kvData (newKv nm kd Nw Gp))
section
variable {W : Wrld} {ht : Nat} {sc : Scope} {ρ ρ' : Vars} {obs : Obs} {x : Str} {e : Expr} {d : PyData} {c : Bool}
theorem EvT.borrowL {xs : List PyData} (hx : (x, .l1 xs) ∈ ρ) (u : Upd ρ x (.sh (.list xs)) ρ') (he : EvT W ht sc ρ' obs e c) : EvT W ht sc ρ obs e c := EvT.borrow (b := .l1 xs) hx u he
theorem Ev.borrowL {xs : List PyData} (hx : (x, .l1 xs) ∈ ρ) (u : Upd ρ x (.sh (.list xs)) ρ') (he : Ev W ht sc ρ' obs e d) (hf : flat d = true) : Ev W ht sc ρ obs e d := Ev.borrow (b := .l1 xs) hx u he hf
theorem Ev.borrowD {kvs : List (Int × PyData)} (hx : (x, .d1 kvs) ∈ ρ) (u : Upd ρ x (.sh (.dict (kvData kvs))) ρ') (he : Ev W ht sc ρ' obs e d) (hf : flat d = true) : Ev W ht sc ρ obs e d := Ev.borrow (b := .d1 kvs) hx u he hf
end
theorem erase_map {α β : Type} (f : α → β) : ∀ (l : List α) (i : Nat), (l.map f).eraseIdx i = (l.eraseIdx i).map f
  | [], _ => by simp
  | _ :: _, 0 => rfl
  | a :: l, i + 1 => congrArg (f a :: ·) (erase_map f l i)
theorem pick_out {W : List Int} (h : W.Nodup) {i : Nat} {a : Int} (e : W[i]? = some a) : (W.eraseIdx i).Nodup ∧ (∀ k, k ∈ W.eraseIdx i ↔ k ∈ W ∧ k ≠ a) ∧ (W.eraseIdx i).length + 1 = W.length := by
  obtain ⟨hi, rfl⟩ := List.getElem?_eq_some_iff.mp e
  refine ⟨h.sublist (List.eraseIdx_sublist _ _), fun k => ?_, ?_⟩
  · rw [List.mem_eraseIdx_iff_getElem?]
    constructor
    · rintro ⟨j, hj, ej⟩
      refine ⟨List.mem_of_getElem? ej, ?_⟩
      rintro rfl
      exact hj ((List.getElem?_inj hi h).mp (e.trans ej.symm)).symm
    · rintro ⟨hm, hne⟩
      obtain ⟨j, hj⟩ := List.getElem?_of_mem hm
      refine ⟨j, ?_, hj⟩
      rintro rfl
      exact hne (Option.some.inj (hj.symm.trans e))
  · rw [List.length_eraseIdx, if_pos hi]; lia
structure RT where
  m : HM
  L : Lay
  Gp : List Nat
  W : List Int
  r : List Int
  σ : SS
noncomputable abbrev ruV (nm : Nat → Int) (C : MI) (rk : List (Int × PyData)) (pk : Int) (s wa ov bi ne tu na : B) : Vars := [(Str.ofString "names", .sh (.list ((namesL nm).map .int))), (Str.ofString "counts", .sh (matD C)), (Str.ofString "rows", .sh (.dict (kvData rk))), (Str.ofString "picks", .sh (.int pk)), (Str.ofString "sorter", s), (Str.ofString "waiting", wa), (Str.ofString "over", ov), (Str.ofString "bits", bi), (Str.ofString "new", ne), (Str.ofString "turn", tu), (Str.ofString "name", na)]
set_option maxHeartbeats 8000000 in
theorem con_run (w : World) (base : Heap) (nm : Nat → Int) (N : Nm nm) (C : MI) (hC : Cnt C) (kd rt Nw : Nat → Nat) (pk : Int) (rk : List (Int × PyData)) (hk : ∀ p, p < 4 → kd p < 7) (hr : ∀ p, p < 4 → rt p < 4096) (hN4 : ∀ p, p < 4 → Nw p < 4096) (hN : ∀ p, p < 4 → nv C Nw (rt p) p p = Nw p)
    (nr : (rk.map (·.1)).Nodup) (hrow : ∀ p, p < 4 → rk.lookup (nm p) = some (.str (rowStr (kd p) (rt p : Nat)))) : ConP (W1 w base) 7 (.ref 262) [.list ((namesL nm).map .int), matD C, .dict (kvData rk), .int pk] (RunOk nm kd Nw) := by
  have hns := namesL_len nm
  refine ConP.of (fn_l_run w base) rfl ?_
  dsimp only [List.zip, List.zipWith, List.map, List.append_nil, List.cons_append, List.nil_append]
  refine Ex.cons (Ex1.makeN (y := Str.ofString "sorter") (MP := IsTold nm C) locOk (fn_l_sorter w base) (by kernel_rfl) (g_l_sorter w base) (EvAll.cons (d := .list ((namesL nm).map .int)) (Ev.name (by k_extra "mem")) (EvAll.cons (d := matD C) (Ev.name (by k_extra "mem")) EvAll.nil)) (con_sorter w base nm N C hC) (Nat.le_refl _) ?_)
  rintro root m0 ⟨L0, σ0, S0, T⟩
  refine ⟨_, by k_extra "upd", ?_⟩
  have hst := st_nodes (C := C) N
  have hlen := stU_len (nm := nm) hC (Nat.le_refl 4)
  have suOk : ∀ {σ : SS}, σ.nodes = nodes4 → (∀ k, σ.su k = if k ∈ nodes4 then sucs (stU nm C 4) k else []) → (∀ k ∈ σ.nodes, ∀ j ∈ σ.su k, j ∈ σ.nodes) ∧ ∀ k, (σ.su k).length ≤ 100 := fun h1 h2 => by
    refine ⟨fun k _ j hj => ?_, fun k => ?_⟩
    · rw [h2] at hj
      rw [h1]
      split at hj
      · exact (hst _ (sucs_mem.mp hj)).2
      · contradiction
    · rw [h2]
      split
      · unfold sucs
        rw [List.length_map]
        exact Nat.le_trans (List.length_filter_le _ _) (by lia)
      · exact Nat.zero_le _
  refine Ex.cons (Ex1.mono (Post := fun o => ∃ m L, o = .nx (ruV nm C rk pk (.ow (RM root m)) .un .un .un .un .un .un) ∧ Sor root L σ0.prep m) ?_ ?_)
  · refine Ex1.ifTM (EvTM.cmp (d₂ := .none) (EvM.meth0 (y := Str.ofString "sorter") (by k_extra "mem") S0.inst S0.dict rfl (mi_prepare w.params) (con_prepare w base S0 T.ready (by rw [T.nodes]; decide) (suOk T.nodes T.su).1) ?_) (by with_unfolding_all rfl))
    rintro _ ⟨L', m', S', (⟨rfl, _⟩ | ⟨l, rfl, hR, _⟩)⟩
    · refine ⟨_, by k_extra "upd", .none, _, false, rfl, Ev.const_none, ?_, fun _ r₁ r₂ hQ => by cases r₁; cases r₂; exact wpAny_pure (hQ _ (Ext.refl _))⟩
      rw [if_neg (by decide)]
      exact Ex.nil ⟨m', L', rfl, S'⟩
    · exact (no_ring N T.su hR).elim
  rintro _ ⟨m1, L1, rfl, S1⟩
  obtain ⟨r0, K0⟩ := T.begin
  refine Ex.cons (Ex1.assign_nil locOk (by k_extra "upd") ?_)
  refine Ex.cons (Ex1.assign_nil locOk (by k_extra "upd") ?_)
  refine Ex.cons (Ex1.assign_dict0 locOk (by k_extra "upd") ?_)
  refine Ex.cons (Ex1.assign_dict0 locOk (by k_extra "upd") ?_)
  refine Ex.cons (Ex1.forS (σ := RT) (It.range1 (by kernel_rfl) (gn_range w base) (by kernel_rfl) Ev.const_int (by decide) (by decide)).s
    (fun t => ruV nm C rk pk (.ow (RM root t.m)) (.l1 (t.W.map .int)) (.l1 ((t.Gp.map nm).map .int)) (.d1 (bitsKv nm Nw t.Gp)) (.d1 (newKv nm kd Nw t.Gp)) .un .un)
    (fun i t => Sor root t.L t.σ t.m ∧ Wst (stU nm C 4) (t.Gp.map nm) t.W t.r t.σ ∧ t.Gp.length = i ∧ Plc t.Gp) ⟨m1, L1, [], [], r0, σ0.prep⟩ ⟨S1, K0, rfl, .nil, fun _ h => nomatch h⟩ (.same (.same (.same (.same (.same (.same (.same (.same (.same (.same (.same .nil))))))))))) ?_ ?_)
  · rintro i d ⟨m, L, Gp, W, r, σ⟩ hd ⟨Sm, K, hi', P⟩
    dsimp only at Sm K hi' P ⊢
    obtain ⟨rfl, hi⟩ := rangeD_at hd
    have hi : i < 4 := by lia
    have hW4 : ∀ {G V r : List Int} {σ : SS}, Wst (stU nm C 4) G V r σ → V.length ≤ 4 ∧ r.length ≤ 4 := fun K => ⟨nodup_len K.wnd fun k hk => (K.wsub k hk).1, nodup_len K.rnd fun k hk => ((K.rmem k).mp hk).1⟩
    have hG4 : (Gp.map nm).length = i := by rw [List.length_map]; exact hi'
    have K2 := K.out
    have h2 := hW4 K2
    have h1 := hW4 K
    refine ⟨_, Asg.name locOk (by k_extra "upd"), ?_⟩
    refine Ex.freeze (x := Str.ofString "waiting") (by k_extra "mem") (by k_extra "upd") ?_
    dsimp only [B.frozen]
    refine Ex.cons (Ex1.assign_addM (xs := W.map .int) locOk (Ev.name (by k_extra "mem")) (EvM.callT (id := "list") (by kernel_rfl) (gn_list w base) (by kernel_rfl) (EvM.meth0 (y := Str.ofString "sorter") (by k_extra "mem") Sm.inst Sm.dict rfl (mi_get_ready w.params) (con_get_ready w base Sm K.ready (by lia) (fun k hk => by rw [K.nodes]; exact ((K.rmem k).mp hk).1)) ?_)))
    rintro _ ⟨m', rfl, S'⟩
    refine ⟨_, by k_extra "upd", .tuple (r.map .int), _, .list (r.map .int), rfl, Con.list_tuple (by rw [List.length_map]; lia), r.map .int, _, _, rfl, by rw [List.length_map, List.length_map]; lia, by k_extra "upd", ?_⟩
    rw [← List.map_append]
    generalize hV : W ++ r = V at K2 h2 ⊢
    refine Ex.cons (Ex1.ifs (b := false) (EvT.borrowL (x := Str.ofString "waiting") (xs := V.map .int) (by k_extra "mem") (by k_extra "upd") (EvT.borrowL (x := Str.ofString "over") (xs := (Gp.map nm).map .int) (by k_extra "mem") (by k_extra "upd")
      (EvT.ne_same (xs := must nm C (Gp.map nm)) (Ev.sorted (xs := V) (by kernel_rfl) (gn_sorted w base) (by kernel_rfl) (Ev.name (by k_extra "mem")) (K2.must N) (by lia)) (Ev.callF (fn_l_must_wait w base) (by kernel_rfl) (g_l_must_wait w base) (EvAll.cons (d := .list ((namesL nm).map .int)) (Ev.name (by k_extra "mem")) (EvAll.cons (d := matD C) (Ev.name (by k_extra "mem")) (EvAll.cons (d := .list ((Gp.map nm).map .int)) (Ev.name (by k_extra "mem")) EvAll.nil))) (con_must w base nm C (Gp.map nm)))))) (fun e => nomatch e) fun _ => Ex.nil ?_)
    have hpos := K2.some N (by lia)
    have h5 : (0 : Int) < 5 ^ (i : Int).toNat := Int.pow_pos (by decide)
    have h5' : (5 : Int) ^ (i : Int).toNat < 1073741824 := by
      rw [Int.toNat_natCast]
      rcases four hi with rfl | rfl | rfl | rfl <;> decide
    obtain ⟨ix, hix⟩ : ∃ ix : Nat, pk / (5 : Int) ^ (i : Int).toNat % (V.length : Int) = (ix : Nat) := ⟨_, (Int.toNat_of_nonneg (Int.emod_nonneg _ (by lia))).symm⟩
    have hixl : ix < V.length := by
      have := Int.emod_lt_of_pos (pk / (5 : Int) ^ (i : Int).toNat) (b := (V.length : Int)) (by lia)
      lia
    have ea : V[ix]? = some V[ix] := List.getElem?_eq_getElem hixl
    generalize V[ix] = a at ea
    have haV : a ∈ V := List.mem_of_getElem? ea
    obtain ⟨a1, a2, a3⟩ := K2.wsub a haV
    obtain ⟨p, hp, rfl⟩ := place N a1
    have hpG : p ∉ Gp := fun h => a2 ((P.mem N hp).mpr h)
    have hfree := (indeg_free N hp).mp a3
    obtain ⟨w1, w2, w3⟩ := pick_out K2.wnd ea
    obtain ⟨r', K3⟩ := K2.fin hst haV w1 w2 w3
    refine Ex.cons (Ex1.assign_popi (xs := V.map .int) (k := ix) (d := .int (nm p)) locOk (by k_extra "mem") (Ev.borrowL (x := Str.ofString "waiting") (xs := V.map .int) (by k_extra "mem") (by k_extra "upd")
      (Ev.of_eq (Ev.modP (a := pk / (5 : Int) ^ (i : Int).toNat) (b := (V.length : Nat)) (Ev.fdivP (Ev.name (by k_extra "mem")) (Ev.pow Ev.const_int (Ev.name (by k_extra "mem")) (by lia) (by lia) (by decide)) h5 h5') (Ev.of_eq (Ev.callB (by kernel_rfl) (gn_len w base) (by kernel_rfl) (EvAll.cons (d := .list (V.map .int)) (Ev.name (by k_extra "mem")) EvAll.nil) (Con.len_list (ht := 0) (by rw [List.length_map]; lia))) (by rw [List.length_map])) (by lia)) (by rw [hix])) rfl) (by rw [List.getElem?_map, ea]; rfl) rfl (by rw [List.length_map]; lia) (by k_extra "upd") (by k_extra "upd") ?_)
    rw [erase_map]
    have n1 : nm p ∉ (newKv nm kd Nw Gp).map (·.1) := by rw [newKv_keys]; exact a2
    have n2 : nm p ∉ (bitsKv nm Nw Gp).map (·.1) := by rw [bitsKv_keys]; exact a2
    have ln : Gp.length ≤ 1000 := by lia
    have hnames : ∀ i, i < p → (namesL nm)[i]? ≠ some (nm p) := fun i hip e => by
      have := namesL_get (nm := nm) (i := i) (by lia)
      rw [this] at e
      have := N.inj i p (by lia) hp (Option.some.inj e)
      lia
    refine Ex.cons (Ex1.setdict (kvs := newKv nm kd Nw Gp) (k := nm p) (d := .str (rowStr (kd p) (Nw p : Nat))) (by k_extra "mem") (Ev.borrowD (x := Str.ofString "bits") (kvs := bitsKv nm Nw Gp) (by k_extra "mem") (by k_extra "upd") (Ev.of_eq (Ev.callF (fn_l_new_row w base) (by kernel_rfl) (g_l_new_row w base) (EvAll.cons (d := .list ((namesL nm).map .int)) (Ev.name (by k_extra "mem")) (EvAll.cons (d := matD C) (Ev.name (by k_extra "mem")) (EvAll.cons (d := .dict (kvData rk)) (Ev.name (by k_extra "mem")) (EvAll.cons (d := .dict (kvData (bitsKv nm Nw Gp))) (Ev.name (by k_extra "mem")) (EvAll.cons (d := .int (p : Nat)) (Ev.index_list (ns := namesL nm) (Ev.name (by k_extra "mem")) (Ev.name (by k_extra "mem")) (namesL_get hp) hnames (by lia)) EvAll.nil)))))
      (con_new_row w base nm C hC Nw rk (bitsKv nm Nw Gp) nr (by rw [bitsKv_keys]; exact P.keys N) p (kd p) (rt p) hp (hk p hp) (hr p hp) (hrow p hp) (fun q hq => hN4 q (by lia)) (fun q hq hc => kv_look N _ (by lia) P.lt ((P.mem N (by lia)).mp (hfree q hq hc))))) (by rw [hN p hp])) rfl) (Ev.name (by k_extra "mem")) n1 (by unfold newKv; rw [List.length_map]; exact Nat.le_trans ln ksz) (by k_extra "upd") ?_)
    have Pp : Plc (Gp ++ [p]) := ⟨by
      rw [List.nodup_append]
      exact ⟨P.nd, by simp, fun x hx y hy e => by rw [List.mem_singleton] at hy; subst hy; exact hpG (e ▸ hx)⟩, fun q hq => by
      rcases List.mem_append.mp hq with h | h
      · exact P.lt q h
      · rw [List.mem_singleton] at h; exact h ▸ hp⟩
    rw [← newKv_snoc]
    refine Ex.cons (Ex1.setdict (kvs := bitsKv nm Nw Gp) (k := nm p) (d := .list ((bitsL (Nw p)).map .int)) (by k_extra "mem") (Ev.callF (fn_l_bits w base) (by kernel_rfl) (g_l_bits w base) (EvAll.cons (d := .str (rowStr (kd p) (Nw p : Nat))) (Ev.item_d1 (kvs := newKv nm kd Nw (Gp ++ [p])) (k := nm p) (by k_extra "mem") (Ev.name (by k_extra "mem")) (kv_look N _ hp Pp.lt (List.mem_append_right _ List.mem_cons_self))) EvAll.nil) (con_bits w base (kd p) (Nw p))) (Ev.name (by k_extra "mem")) n2 (by unfold bitsKv; rw [List.length_map]; exact Nat.le_trans ln ksz) (by k_extra "upd") ?_)
    rw [← bitsKv_snoc]
    obtain ⟨s1, s2⟩ := suOk K2.nodes K2.su
    refine Ex.cons (Ex1.exprM (EvM.meth (y := Str.ofString "sorter") (ds := [.int (nm p)]) (by k_extra "mem") S'.inst S'.dict rfl (mi_done w.params) (EvAll.cons (Ev.name (by k_extra "mem")) EvAll.nil) (con_done w base S' (r := []) K2.ready [nm p] (by show 1 ≤ 6; decide) (fun k hk => by rw [K2.nodes]; rw [List.mem_singleton] at hk; exact hk ▸ a1) s1 (fun j k hj => ?_) s2 (by simp)) ?_))
    · cases j with
      | zero =>
        have : nm p = k := Option.some.inj hj
        subst this
        show (σ.out r).np (nm p) = -1
        rw [K2.np _ a1, if_neg a2, if_pos haV]
      | succ j => rw [List.getElem?_cons_succ, List.getElem?_nil] at hj; cases hj
    rintro _ ⟨m'', rfl, S''⟩
    refine ⟨_, by k_extra "upd", ?_⟩
    refine Ex.cons (Ex1.append (d := .int (nm p)) (by k_extra "mem") (Ev.name (by k_extra "mem")) (by rw [List.length_map]; exact Nat.le_trans (by lia) ksz) (by k_extra "upd") (Ex.nil ⟨⟨m'', L, Gp ++ [p], V.eraseIdx ix, r', (σ.out r).fin (nm p)⟩, ⟨S'', ?_, ?_, Pp⟩, ?_⟩))
    · dsimp only
      rw [List.map_append]
      exact K3
    · dsimp only
      rw [List.length_append, hi']; rfl
    · dsimp only [ruV]
      rw [List.map_append, List.map_append]
      exact .same (.same (.same (.same (.same (.same (.same (.same (.same (.un (.un .nil))))))))))
  rintro ⟨m, L, Gp, W, r, σ⟩ ⟨Sm, K, hi', P⟩
  dsimp only at Sm K hi' P ⊢
  have hi' : Gp.length = 4 := hi'
  obtain ⟨rfl, rfl⟩ := K.last (by rw [List.length_map]; exact hi')
  refine Ex.nil ?_
  refine Ex.cons (Ex1.mono (Post := fun o => ∃ m, o = .nx (ruV nm C rk pk (.ow (RM root m)) (.l1 []) (.l1 ((Gp.map nm).map .int)) (.d1 (bitsKv nm Nw Gp)) (.d1 (newKv nm kd Nw Gp)) .un .un)) ?_ ?_)
  · refine Ex1.ifTM (EvTM.or2 (EvTM.cmp (d₂ := .tuple []) (EvM.meth0 (y := Str.ofString "sorter") (by k_extra "mem") Sm.inst Sm.dict rfl (mi_get_ready w.params) (con_get_ready w base Sm K.ready (by decide) (fun k hk => nomatch hk)) ?_) (by with_unfolding_all rfl)))
    rintro _ ⟨m', rfl, S'⟩
    refine ⟨_, by k_extra "upd", .tuple [], _, false, rfl, Ev.tuple EvAll.nil (by decide), ⟨rfl, ?_⟩, fun M r₁ r₂ hQ => ?_⟩
    · refine EvTM.plain (EvM.meth0 (y := Str.ofString "sorter") (by k_extra "mem") S'.inst S'.dict rfl (mi_is_active w.params) (con_is_active w base S' (l := []) rfl (by decide)) ?_)
      rintro _ rfl
      refine ⟨_, by k_extra "upd", _, _, rfl, ?_⟩
      have e1 : (σ.out []).nfi = σ.nfi := rfl
      have e2 : (σ.out []).npo = σ.npo + 0 := rfl
      have eb : (decide ((σ.out []).nfi < (σ.out []).npo) || !([] : List Int).isEmpty) = false := by
        rw [e1, e2, K.nfi, K.npo]
        simp
      rw [eb, if_neg (by decide)]
      exact Ex.nil ⟨m', rfl⟩
    · obtain ⟨_, q₁, _⟩ := r₁.reads
      obtain ⟨_, q₂, _⟩ := r₂.reads
      exact SeqAt.compareNe_shaped q₁ q₂ rfl rfl (by have := M.units; lia) (hQ _ (Ext.refl _))
  rintro _ ⟨m', rfl⟩
  refine Ex.freeze (x := Str.ofString "new") (by k_extra "mem") (by k_extra "upd") ?_
  dsimp only [B.frozen]
  exact Ex.cons (Ex1.ret (d := .dict (kvData (newKv nm kd Nw Gp))) (Ev.name (by k_extra "mem")) ⟨Gp, P, hi', rfl⟩)
noncomputable def par (x : Int) : Bool := x % 2 == 1
noncomputable def cx (b : Bool) (u v : Nat) : Nat := if b then v ^^^ u else v
theorem par_add (a b : Int) : par (a + b) = (par a ^^ par b) := by
  unfold par
  rcases Int.emod_two_eq a with h | h <;> rcases Int.emod_two_eq b with h' | h' <;> rw [Int.add_emod, h, h'] <;> rfl
theorem par_mul (a b : Int) : par (a * b) = (par a && par b) := by
  unfold par
  rcases Int.emod_two_eq a with h | h <;> rcases Int.emod_two_eq b with h' | h' <;> rw [Int.mul_emod, h, h'] <;> rfl
theorem par_mod (a : Int) : par (a % 2) = par a := by
  unfold par
  rw [Int.emod_emod]
theorem rep_cx (c b v : Nat) : rep c b v = cx (c % 2 == 1) b v := by
  induction c with
  | zero => rfl
  | succ c ih =>
    show rep c b v ^^^ b = _
    rw [ih]
    unfold cx
    rcases Nat.mod_two_eq_zero_or_one c with h | h
    · have : (c + 1) % 2 = 1 := by lia
      rw [h, this]; rfl
    · have : (c + 1) % 2 = 0 := by lia
      rw [h, this]
      show (v ^^^ b) ^^^ b = v
      rw [Nat.xor_assoc, Nat.xor_self, Nat.xor_zero]
theorem rep_par {c : Int} (h : 0 ≤ c) (b v : Nat) : rep c.toNat b v = cx (par c) b v := by
  rw [rep_cx]
  unfold par
  have : (c.toNat % 2 == 1) = (c % 2 == 1) := by
    rw [Bool.eq_iff_iff, beq_iff_eq, beq_iff_eq]
    lia
  rw [this]
theorem cx_bit (b : Bool) (u v i : Nat) : (cx b u v).testBit i = (v.testBit i ^^ (b && u.testBit i)) := by
  unfold cx
  cases b
  · simp
  · rw [if_pos rfl, Nat.testBit_xor, Bool.true_and]
theorem ft_cx (M : MI) (R : Nat → Nat) (p j : Nat) : ft M R p (j + 1) = cx (par (M j p)) (R j) (ft M R p j) := rfl
theorem nv_cx {C : MI} (hC : Cnt C) (B : Nat → Nat) (r p j : Nat) : nv C B r p (j + 1) = cx (par (C j p)) (B j) (nv C B r p j) := rep_par (hC.lo j p) _ _
theorem wy01 (C : MI) (i : Nat) : wy C i (i + 1) = C i (i + 1) := by unfold wy; rw [if_neg (by lia), if_neg (by lia), if_pos rfl]
theorem wy02 (C : MI) (i : Nat) : wy C i (i + 2) = C i (i + 2) + C i (i + 1) * C (i + 1) (i + 2) := by unfold wy; rw [if_neg (by lia), if_neg (by lia), if_neg (by lia), if_pos rfl]
theorem wy03 (C : MI) (i : Nat) : wy C i (i + 3) = C i (i + 3) + C i (i + 1) * C (i + 1) (i + 3) + (C i (i + 2) + C i (i + 1) * C (i + 1) (i + 2)) * C (i + 2) (i + 3) := by unfold wy; rw [if_neg (by lia), if_neg (by lia), if_neg (by lia), if_neg (by lia)]
theorem ft_lt {M : MI} {R : Nat → Nat} (hR : ∀ p, p < 4 → R p < 4096) {p : Nat} (hp : p < 4) (j : Nat) (hj : j ≤ p) : ft M R p j < 4096 := by
  induction j with
  | zero => exact hR p hp
  | succ j ih =>
    rw [ft_cx]
    unfold cx
    split
    · exact Nat.xor_lt_two_pow (n := 12) (ih (by lia)) (hR j (by lia))
    · exact ih (by lia)
theorem first_run {C : MI} (hC : Cnt C) (R : Nat → Nat) {p : Nat} (hp : p < 4) : nv C (fun q => ft (wy C) R q q) (R p) p p = ft (wy C) R p p := by
  rcases four hp with rfl | rfl | rfl | rfl
  · rfl
  · rw [nv_cx hC, ft_cx, wy01 C 0]; rfl
  · rw [nv_cx hC, nv_cx hC, ft_cx, ft_cx]
    show cx (par (C 1 2)) (ft (wy C) R 1 1) (cx (par (C 0 2)) (R 0) (R 2)) = cx (par (wy C 1 2)) (R 1) (cx (par (wy C 0 2)) (R 0) (R 2))
    rw [ft_cx, wy01 C 0, wy01 C 1, wy02 C 0]
    show cx (par (C 1 2)) (cx (par (C 0 1)) (R 0) (R 1)) (cx (par (C 0 2)) (R 0) (R 2)) = cx (par (C 1 2)) (R 1) (cx (par (C 0 2 + C 0 1 * C 1 2)) (R 0) (R 2))
    apply Nat.eq_of_testBit_eq
    intro i
    simp only [cx_bit, par_add, par_mul]
    cases par (C 1 2) <;> cases par (C 0 1) <;> cases par (C 0 2) <;> cases (R 0).testBit i <;> cases (R 1).testBit i <;> cases (R 2).testBit i <;> rfl
  · rw [nv_cx hC, nv_cx hC, nv_cx hC, ft_cx, ft_cx, ft_cx]
    show cx (par (C 2 3)) (ft (wy C) R 2 2) (cx (par (C 1 3)) (ft (wy C) R 1 1) (cx (par (C 0 3)) (R 0) (R 3))) = cx (par (wy C 2 3)) (R 2) (cx (par (wy C 1 3)) (R 1) (cx (par (wy C 0 3)) (R 0) (R 3)))
    rw [ft_cx, ft_cx, ft_cx, wy01 C 0, wy01 C 1, wy01 C 2, wy02 C 0, wy02 C 1, wy03 C 0]
    show cx (par (C 2 3)) (cx (par (C 1 2)) (R 1) (cx (par (C 0 2 + C 0 1 * C 1 2)) (R 0) (R 2))) (cx (par (C 1 3)) (cx (par (C 0 1)) (R 0) (R 1)) (cx (par (C 0 3)) (R 0) (R 3))) = cx (par (C 2 3)) (R 2) (cx (par (C 1 3 + C 1 2 * C 2 3)) (R 1) (cx (par (C 0 3 + C 0 1 * C 1 3 + (C 0 2 + C 0 1 * C 1 2) * C 2 3)) (R 0) (R 3)))
    apply Nat.eq_of_testBit_eq
    intro i
    simp only [cx_bit, par_add, par_mul]
    generalize par (C 2 3) = a; generalize par (C 1 2) = b; generalize par (C 0 2) = c; generalize par (C 0 1) = d; generalize par (C 1 3) = e; generalize par (C 0 3) = f
    generalize (R 0).testBit i = x; generalize (R 1).testBit i = y; generalize (R 2).testBit i = z; generalize (R 3).testBit i = t
    revert a b c d e f x y z t
    decide +kernel
noncomputable def odd (C : MI) : MI := fun i j => wy C i j % 2
theorem odd_cnt (C : MI) : Cnt (odd C) := ⟨fun i j => by unfold odd; lia, fun i j => by unfold odd; lia⟩
theorem second_run (C : MI) (R : Nat → Nat) {p : Nat} (hp : p < 4) : nv (odd C) R (ft (wy C) R p p) p p = R p := by
  have key : ∀ j r, j ≤ p → nv (odd C) R r p j ^^^ (ft (wy C) R p j) = r ^^^ R p := fun j => by
    induction j with
    | zero => intro r _; rfl
    | succ j ih =>
      intro r hj
      rw [nv_cx (odd_cnt C), ft_cx, show par (odd C j p) = par (wy C j p) from par_mod _]
      have := ih r (by lia)
      generalize par (wy C j p) = b
      cases b
      · exact this
      · show (nv (odd C) R r p j ^^^ R j) ^^^ (ft (wy C) R p j ^^^ R j) = _
        rw [← this, Nat.xor_assoc, Nat.xor_comm (ft (wy C) R p j) (R j), ← Nat.xor_assoc (R j) (R j), Nat.xor_self, Nat.zero_xor]
  have h := key p (ft (wy C) R p p) (Nat.le_refl _)
  have := congrArg (· ^^^ ft (wy C) R p p) h
  simp only [Nat.xor_assoc, Nat.xor_self, Nat.xor_zero] at this
  rw [this, Nat.xor_comm (R p), ← Nat.xor_assoc, Nat.xor_self, Nat.zero_xor]
theorem same_dicts {W : Wrld} {ht : Nat} {A : Around} {s : Shared} {Q : Value → Shared → Prop} {E : Value → Shared → Prop} {P D : Addr → Prop} {v₁ v₂ : Value} {kvs kvs' : List (Int × PyData)} (m : AmbC W ht A s.heap) (r₁ : Rl s.heap P (.dict (kvData kvs)) v₁) (r₂ : Rl s.heap P (.dict (kvData kvs')) v₂) (nd : (kvs.map (·.1)).Nodup) (nd' : (kvs'.map (·.1)).Nodup) (hlen : kvs.length = kvs'.length)
    (k : ∀ p ∈ kvs, ∃ d', kvs'.lookup p.1 = some d' ∧ PyData.eqv p.2 d' = true ∧ SeqAt.shaped p.2 = true ∧ SeqAt.shaped d' = true) (hQ : ∀ s', Ext D s s' → Q (.bool true) s') : wpAny W.M A (compareOp .Eq v₁ v₂) Q E s := by
  obtain ⟨a, es, n, rfl, p, na, g, q⟩ := r₁
  obtain ⟨a', es', n', rfl, p', na', g', q'⟩ := r₂
  obtain ⟨us, hl, D, rv⟩ := dict_of (prog := W.prog) (w := W.w) g nd q
  obtain ⟨us', hl', D', rv'⟩ := dict_of (prog := W.prog) (w := W.w) g' nd' q'
  refine keq_eq (r := true) (ne_sysm na) (ne_sysm na') D D' (by have := m.units; lia) (fun _ => hits_same rfl hl' rv' (by have := m.units; simp only [Around.in1]; lia) hl rv k) ?_
  have e : ((kvs.map (·.1)).zip us).length = ((kvs'.map (·.1)).zip us').length := by simp [hl, hl', hlen]
  rw [e, beq_self_eq_true, Bool.true_and]
  exact hQ _ (Ext.refl _)
theorem kindC_lt (k : Nat) : kindC k < 128 := by unfold kindC; split <;> decide
theorem row_ok (k n : Nat) : PyData.strOk (rowStr k n) = true := by
  have h0 := kindC_lt k
  have pc : ∀ b : Bool, (if b then 114 else 45) < 128 := fun b => by cases b <;> decide
  have pw : ∀ b : Bool, (if b then 119 else 45) < 128 := fun b => by cases b <;> decide
  have h3 := sg_lt 0 (n.testBit 6) (n.testBit 11); have h6 := sg_lt 1 (n.testBit 3) (n.testBit 10); have h9 := sg_lt 2 (n.testBit 0) (n.testBit 9)
  have h1 := pc (n.testBit 8); have h4 := pc (n.testBit 5); have h7 := pc (n.testBit 2)
  have h2 := pw (n.testBit 7); have h5 := pw (n.testBit 4); have h8 := pw (n.testBit 1)
  rw [rowStr_eq]
  generalize (if n.testBit 8 = true then 114 else 45) = x1 at h1 ⊢
  generalize (if n.testBit 5 = true then 114 else 45) = x4 at h4 ⊢
  generalize (if n.testBit 2 = true then 114 else 45) = x7 at h7 ⊢
  generalize (if n.testBit 7 = true then 119 else 45) = x2 at h2 ⊢
  generalize (if n.testBit 4 = true then 119 else 45) = x5 at h5 ⊢
  generalize (if n.testBit 1 = true then 119 else 45) = x8 at h8 ⊢
  unfold PyData.strOk
  rw [← Array.all_toList]
  simp only [List.all_cons, List.all_nil, Bool.and_true, Bool.and_eq_true, decide_eq_true_eq]
  lia
theorem row_shaped (k n : Nat) : SeqAt.shaped (.str (rowStr k n)) = true := (ShD.str (n := 0) (row_ok k n)).shaped (by decide)
theorem row_eqv (k n : Nat) : PyData.eqv (.str (rowStr k n)) (.str (rowStr k n)) = true := eqv_refl _ rfl
theorem rowsKv_len (nm : Nat → Int) (kd rt : Nat → Nat) (n : Nat) : (rowsKv nm kd rt n).length = n := by unfold rowsKv; rw [List.length_map, List.length_range]
theorem rows_same {nm : Nat → Int} (N : Nm nm) (kd rt : Nat → Nat) : ∀ p ∈ rowsKv nm kd rt 4, ∃ d', (rowsKv nm kd rt 4).lookup p.1 = some d' ∧ PyData.eqv p.2 d' = true ∧ SeqAt.shaped p.2 = true ∧ SeqAt.shaped d' = true := fun p hp => by
  obtain ⟨q, hq, rfl⟩ := List.mem_map.mp hp
  exact ⟨_, rowsKv_look N (List.mem_range.mp hq), row_eqv _ _, row_shaped _ _, row_shaped _ _⟩
theorem new_same {nm : Nat → Int} (N : Nm nm) (kd rt : Nat → Nat) {Gp : List Nat} (P : Plc Gp) : ∀ p ∈ newKv nm kd rt Gp, ∃ d', (rowsKv nm kd rt 4).lookup p.1 = some d' ∧ PyData.eqv p.2 d' = true ∧ SeqAt.shaped p.2 = true ∧ SeqAt.shaped d' = true := fun p hp => by
  obtain ⟨q, hq, rfl⟩ := List.mem_map.mp hp
  exact ⟨_, rowsKv_look N (P.lt q hq), row_eqv _ _, row_shaped _ _, row_shaped _ _⟩
theorem newKv_len (nm : Nat → Int) (kd rt : Nat → Nat) (Gp : List Nat) : (newKv nm kd rt Gp).length = Gp.length := by unfold newKv; rw [List.length_map]
noncomputable def nmC (c : Int) (p : Nat) : Int := ((1 + 2 * (c % 2)) * p + c / 2) % 4
theorem nmC_ok (c : Int) : Nm (nmC c) := by
  refine ⟨fun i _ => Int.emod_nonneg _ (by decide), fun i _ => Int.emod_lt_of_pos _ (by decide), fun i j hi hj h => ?_⟩
  unfold nmC at h
  generalize c / 2 = t at h
  rcases Int.emod_two_eq c with e | e <;> rw [e] at h
  · lia
  · lia
noncomputable def kdC (cs : List Int) (p : Nat) : Nat := (cs.getD (6 + p) 0 / 4096 % 7).toNat
noncomputable def rtC (cs : List Int) (p : Nat) : Nat := (cs.getD (6 + p) 0 % 4096).toNat
theorem kdC_lt (cs : List Int) (p : Nat) : kdC cs p < 7 := by unfold kdC; lia
theorem rtC_lt (cs : List Int) (p : Nat) : rtC cs p < 4096 := by unfold rtC; lia
theorem cnt_ok (cs : List Int) : Cnt (cnt cs) := by
  refine ⟨fun i j => ?_, fun i j => ?_⟩ <;> unfold cnt <;> split <;> lia
theorem files_eq (cs : List Int) : PyData.list (((List.range 4).map fun i : Nat => (6 : Int) + (i : Int)).map fun i : Int => .tuple [.int (cs.getD i.toNat 0 / 4096 % 7), .int (cs.getD i.toNat 0 % 4096)]) = .list (filesD (kdC cs) (rtC cs) 4) := by
  unfold filesD kdC rtC
  rw [List.map_map]
  congr 1
  refine List.map_congr_left fun p _ => ?_
  show PyData.tuple [.int (cs.getD ((6 : Int) + (p : Int)).toNat 0 / 4096 % 7), .int (cs.getD ((6 : Int) + (p : Int)).toNat 0 % 4096)] = _
  rw [show ((6 : Int) + (p : Int)).toNat = 6 + p by lia, Int.toNat_of_nonneg (Int.emod_nonneg _ (by decide)), Int.toNat_of_nonneg (Int.emod_nonneg _ (by decide))]
noncomputable def modD : PyData → PyData
  | .int i => .int (i % 2)
  | d => d
noncomputable def modRow : PyData → PyData
  | .list xs => .list (xs.map modD)
  | d => d
theorem odd_eq (C : MI) : PyData.list ((((matI (wy C)).map PyData.list).filter fun _ => true).map modRow) = matD (odd C) := by
  rw [fl_true]
  unfold matD matI odd
  rw [List.map_map, List.map_map, List.map_map]
  congr 1
noncomputable abbrev hoV (cs : List Int) (c n f p w pl r pc t o : B) : Vars := [(Str.ofString "cells", .sh (.list (cs.map .int))), (Str.ofString "counts", c), (Str.ofString "names", n), (Str.ofString "files", f), (Str.ofString "picks", p), (Str.ofString "ways", w), (Str.ofString "plain", pl), (Str.ofString "rows", r), (Str.ofString "place", pc), (Str.ofString "told", t), (Str.ofString "odd", o)]
set_option maxHeartbeats 8000000 in
theorem con_holds (w : World) (base : Heap) (cs : List Int) (hl : cs.length = 11) : Con (W1 w base) 8 (.ref 281) [.list (cs.map .int)] (.bool true) := by
  have hC := cnt_ok cs
  have N := nmC_ok (cs.getD 10 0)
  have hkd := fun p (_ : p < 4) => kdC_lt cs p
  have hrt := fun p (_ : p < 4) => rtC_lt cs p
  refine Con.of (fn_l_holds w base) rfl ?_
  dsimp only [List.zip, List.zipWith, List.map, List.append_nil, List.cons_append, List.nil_append]
  have cv : ∀ {sc' : Scope} {ρ' : Vars} {e : Expr} {i : Nat} {p1 p2 : Pos}, i < 11 → (Str.ofString "cells", B.sh (.list (cs.map .int))) ∈ ρ' → Ev (W1 w base) 7 sc' ρ' (fun _ => False) e (.int (i : Nat)) → NoSlice e → Ev (W1 w base) 7 sc' ρ' (fun _ => False) (.Subscript (.Name (Str.ofString "cells") p1) e p2) (.int (cs.getD i 0)) := fun hi h1 h2 hs =>
    Ev.item_list (Ev.name h1) h2 (by lia) (by lia) (by rw [Int.toNat_natCast]; exact getD_at (by lia)) hs
  have c10 : ∀ {sc' : Scope} {ρ' : Vars} {n : Nat} {p1 p2 p3 : Pos}, (Str.ofString "cells", B.sh (.list (cs.map .int))) ∈ ρ' → Ev (W1 w base) 7 sc' ρ' (fun _ => False) (.Subscript (.Name (Str.ofString "cells") p1) (.Constant (.int 10) n p2) p3) (.int (cs.getD 10 0)) := fun h1 =>
    cv (i := 10) (by decide) h1 Ev.const_int (by intro _ _; rfl)
  refine Ex.cons (Ex1.assign (d := matD (cnt cs)) locOk (Ev.callF (fn_l_counts w base) (by kernel_rfl) (g_l_counts w base) (EvAll.cons (d := .list (cs.map .int)) (Ev.name (by k_extra "mem")) EvAll.nil) (con_counts w base cs hl)) (by k_extra "upd") ?_)
  refine Ex.cons (Ex1.assign_mapD (ns := natI (List.range 4)) (f := fun p => .int (nmC (cs.getD 10 0) p.toNat)) (It.ofEq (It.range1 (by kernel_rfl) (gn_range w base) (by kernel_rfl) Ev.const_int (by decide) (by decide)) (rangeD_nat 4)) (by decide +kernel) (Pick.of (fs' := [Str.ofString "cells"]) (by kernel_rfl) (.cons (by k_extra "mem") .nil)) (fun p hp => ?_) (by decide) locOk (d := .list ((namesL (nmC (cs.getD 10 0))).map .int)) (by unfold natI namesL; rw [List.map_map, List.map_map]; rfl) (by k_extra "upd") ?_ (swaps_ok (by decide +kernel)))
  · obtain ⟨q, hq, rfl⟩ := List.mem_map.mp hp
    have hq := List.mem_range.mp hq
    rw [Int.toNat_natCast]
    refine Ev.modP (Ev.add (Ev.mul (Ev.add Ev.const_int (Ev.mul Ev.const_int (Ev.modP (c10 (by k_extra "mem")) Ev.const_int) (IntMulOk.of_left (by decide)))) (Ev.name (by k_extra "mem")) (IntMulOk.of_right ?_)) (Ev.fdivP (c10 (by k_extra "mem")) Ev.const_int)) Ev.const_int
    rcases four hq with rfl | rfl | rfl | rfl <;> decide
  refine Ex.cons (Ex1.assign_mapD (ns := (List.range 4).map fun i : Nat => (6 : Int) + (i : Int)) (f := fun i => .tuple [.int (cs.getD i.toNat 0 / 4096 % 7), .int (cs.getD i.toNat 0 % 4096)]) (It.ofEq (It.range2 (a := 6) (b := 10) (by kernel_rfl) (gn_range w base) (by kernel_rfl) Ev.const_int Ev.const_int (by decide) (by decide) (by decide) (by decide)) (rangeD_ints 6 4)) (by decide +kernel) (Pick.of (fs' := [Str.ofString "cells"]) (by kernel_rfl) (.cons (by k_extra "mem") .nil)) (fun p hp => ?_) (by decide) locOk (files_eq cs) (by k_extra "upd") ?_ (swaps_ok (by decide +kernel)))
  · obtain ⟨q, hq, rfl⟩ := List.mem_map.mp hp
    have hq := List.mem_range.mp hq
    rw [show (6 : Int) + (q : Int) = ((6 + q : Nat) : Int) by lia, Int.toNat_natCast]
    exact Ev.tuple (EvAll.cons (Ev.modP (Ev.fdivP (cv (i := 6 + q) (by lia) (by k_extra "mem") (Ev.name (by k_extra "mem")) (by intro _ _; rfl)) Ev.const_int) Ev.const_int) (EvAll.cons (Ev.modP (cv (i := 6 + q) (by lia) (by k_extra "mem") (Ev.name (by k_extra "mem")) (by intro _ _; rfl)) Ev.const_int) EvAll.nil)) (by show 2 ≤ _; decide)
  refine Ex.cons (Ex1.assign (d := .int (cs.getD 10 0 / 8)) locOk (Ev.fdivP (c10 (by k_extra "mem")) Ev.const_int) (by k_extra "upd") ?_)
  generalize cs.getD 10 0 / 8 = pk
  generalize nmC (cs.getD 10 0) = nm at N ⊢
  generalize kdC cs = kd at hkd ⊢
  generalize rtC cs = rt at hrt ⊢
  generalize cnt cs = C at hC ⊢
  have hf1 := fun p (hp : p < 4) => first_run hC rt hp
  have hf2 := fun p (hp : p < 4) => second_run C rt hp
  have hlt := fun p (hp : p < 4) => ft_lt (M := wy C) hrt hp p (Nat.le_refl p)
  refine Ex.cons (Ex1.assign (d := matD (wy C)) locOk (Ev.callF (fn_l_ways w base) (by kernel_rfl) (g_l_ways w base) (EvAll.cons (d := matD C) (Ev.name (by k_extra "mem")) EvAll.nil) (con_ways w base C hC)) (by k_extra "upd") ?_)
  refine Ex.cons (Ex1.assign (d := .dict (kvData (rowsKv nm kd rt 4))) locOk (Ev.callF (fn_l_rows w base) (by kernel_rfl) (g_l_rows w base) (EvAll.cons (d := .list ((namesL nm).map .int)) (Ev.name (by k_extra "mem")) (EvAll.cons (d := .list (filesD kd rt 4)) (Ev.name (by k_extra "mem")) EvAll.nil)) (con_rows w base nm N kd rt hkd)) (by k_extra "upd") ?_)
  refine Ex.cons (Ex1.assign_dict0 locOk (by k_extra "upd") ?_)
  refine Ex.cons (Ex1.forS (σ := Nat) (It.range1 (by kernel_rfl) (gn_range w base) (by kernel_rfl) Ev.const_int (by decide) (by decide)).s
    (fun k => hoV cs (.sh (matD C)) (.sh (.list ((namesL nm).map .int))) (.sh (.list (filesD kd rt 4))) (.sh (.int pk)) (.sh (matD (wy C))) (.sh (.dict (kvData (rowsKv nm kd rt 4)))) (.d1 (rowsKv nm kd rt k)) .un .un .un) (fun i k => k = i) 0 rfl (.same (.same (.same (.same (.same (.same (.same (.same (.same (.same (.same .nil))))))))))) ?_ ?_)
  · rintro i d k hd rfl
    obtain ⟨rfl, hk4⟩ := rangeD_at hd
    have hk4 : k < 4 := by lia
    have fv : ∀ {ρ' : Vars} {c : Int} {d : PyData} {p1 p2 p3 p4 p5 : Pos} {n : Nat}, (Str.ofString "files", B.sh (.list (filesD kd rt 4))) ∈ ρ' → (Str.ofString "place", B.sh (.int (k : Nat))) ∈ ρ' → 0 ≤ c → c < 2 ^ 63 → [PyData.int (kd k : Nat), .int (rt k : Nat)][c.toNat]? = some d → Ev (W1 w base) 7 (fnScope PW 46) ρ' (fun _ => False) (.Subscript (.Subscript (.Name (Str.ofString "files") p1) (.Name (Str.ofString "place") p2) p3) (.Constant (.int c) n p4) p5) d := fun h1 h2 c0 c1 h3 =>
      Ev.item_tuple (Ev.item_list (k := (k : Nat)) (Ev.name h1) (Ev.name h2) (by lia) (by lia) (by rw [Int.toNat_natCast]; exact filesD_at hk4)) Ev.const_int c0 c1 h3
    refine ⟨_, Asg.name locOk (by k_extra "upd"), ?_⟩
    refine Ex.cons (Ex1.setdict (kvs := rowsKv nm kd rt k) (k := nm k) (d := .str (rowStr (kd k) (rt k : Nat))) (by k_extra "mem") (Ev.callF (fn_filemode w base) (by kernel_rfl) (g_filemode w base) (EvAll.cons (d := .int ((kindV (kd k) : Nat) * 4096 + (rt k : Nat))) (Ev.callF (fn_l_mode w base) (by kernel_rfl) (g_l_mode w base) (EvAll.cons (d := .int (kd k : Nat)) (fv (by k_extra "mem") (by k_extra "mem") (by decide) (by decide) rfl) (EvAll.cons (d := .int (rt k : Nat)) (fv (by k_extra "mem") (by k_extra "mem") (by decide) (by decide) rfl) EvAll.nil)) (con_mode w base (kd k) (rt k : Nat) (hkd k hk4))) EvAll.nil) (con_filerow w base (kd k) (rt k) (hkd k hk4) (hrt k hk4))) (Ev.item_list (k := (k : Nat)) (Ev.name (d := .list ((namesL nm).map .int)) (by k_extra "mem")) (Ev.name (by k_extra "mem")) (by lia) (by lia) (by rw [Int.toNat_natCast]; exact namesL_at hk4)) (by rw [rowsKv_keys]; exact nm_new N hk4) (by rw [rowsKv_len]; exact Nat.le_trans (by lia : k ≤ 1000) ksz) (by k_extra "upd") (Ex.nil ⟨k + 1, rfl, ?_⟩))
    dsimp only [hoV]
    rw [show rowsKv nm kd rt (k + 1) = _ from rowsKv_succ nm kd rt k]
    exact .same (.same (.same (.same (.same (.same (.same (.same (.un (.same (.same .nil))))))))))
  rintro k hk
  have hk : k = 4 := hk
  subst hk
  refine Ex.nil ?_
  refine Ex.freeze (x := Str.ofString "rows") (by k_extra "mem") (by k_extra "upd") ?_
  dsimp only [B.frozen]
  have ndr : ∀ rt : Nat → Nat, ((rowsKv nm kd rt 4).map (·.1)).Nodup := fun rt => by rw [rowsKv_keys]; exact nm_nodup N
  refine Ex.cons (Ex1.ifs (b := false) (EvT.cmp (Ev.ne_dict (kvs := rowsKv nm kd rt 4) (kvs' := rowsKv nm kd rt 4) (Ev.name (by k_extra "mem")) (Ev.name (by k_extra "mem")) (ndr rt) (ndr rt) rfl (rows_same N kd rt))) (fun e => nomatch e) fun _ => Ex.nil ?_)
  refine Ex.cons (Ex1.assignP locOk (EvP.callF (fn_l_run w base) (by kernel_rfl) (g_l_run w base) (EvAll.cons (d := .list ((namesL nm).map .int)) (Ev.name (by k_extra "mem")) (EvAll.cons (d := matD C) (Ev.name (by k_extra "mem")) (EvAll.cons (d := .dict (kvData (rowsKv nm kd rt 4))) (Ev.name (by k_extra "mem")) (EvAll.cons (d := .int pk) (Ev.name (by k_extra "mem")) EvAll.nil)))) (con_run w base nm N C hC kd rt (fun q => ft (wy C) rt q q) pk (rowsKv nm kd rt 4) hkd hrt hlt hf1 (ndr rt) fun p hp => rowsKv_look N hp)) ?_)
  rintro _ ⟨Gp, P, h4, rfl⟩
  refine ⟨_, by k_extra "upd", ?_⟩
  have ndn : ∀ (rt : Nat → Nat) {Gp : List Nat}, Plc Gp → ((newKv nm kd rt Gp).map (·.1)).Nodup := fun rt _ P => by rw [newKv_keys]; exact P.keys N
  refine Ex.cons (Ex1.ifs (b := false) (EvT.cmp (Ev.ne_dict (kvs := newKv nm kd (fun q => ft (wy C) rt q q) Gp) (kvs' := rowsKv nm kd (fun q => ft (wy C) rt q q) 4) (Ev.name (by k_extra "mem"))
    (Ev.callF (fn_l_rows w base) (by kernel_rfl) (g_l_rows w base) (EvAll.cons (d := .list ((namesL nm).map .int)) (Ev.name (by k_extra "mem")) (EvAll.cons (d := .list (filesD kd (fun q => ft (wy C) rt q q) 4)) (Ev.callF (fn_l_files_turned w base) (by kernel_rfl) (g_l_files_turned w base) (EvAll.cons (d := .list (filesD kd rt 4)) (Ev.name (by k_extra "mem")) (EvAll.cons (d := matD (wy C)) (Ev.name (by k_extra "mem")) EvAll.nil)) (con_files_turned w base kd rt (wy C))) EvAll.nil)) (con_rows w base nm N kd _ hkd)) (ndn _ P) (ndr _) (by rw [newKv_len, rowsKv_len, h4]) (new_same N kd _ P))) (fun e => nomatch e) fun _ => Ex.nil ?_)
  refine Ex.cons (Ex1.assign_comp (f := modRow) (p := fun _ => true) (It.list (ds := (matI (wy C)).map .list) (Ev.name (by k_extra "mem"))) (by decide +kernel) (Pick.of (fs' := []) (by kernel_rfl) .nil) (fun _ _ => EvIfs.nil) (fun d hd _ => ?_) (by unfold matI; rw [List.length_map, List.length_map, List.length_range]; decide) locOk (odd_eq C) (by k_extra "upd") ?_ (swaps_ok (by decide +kernel)))
  · obtain ⟨l, hl', rfl⟩ := List.mem_map.mp hd
    obtain ⟨i, _, rfl⟩ := List.mem_map.mp hl'
    refine Ev.of_eq (EvG.mapD (ns := (List.range 4).map (wy C i)) (f := fun x => .int (x % 2)) (It.list (Ev.of_eq (Ev.name (d := .list ((List.range 4).map fun j => .int (wy C i j))) (by k_extra "mem")) (by rw [List.map_map]; rfl))) (by decide +kernel) (Pick.of (fs' := []) (by kernel_rfl) .nil) (fun x _ => Ev.modP (Ev.name (by k_extra "mem")) Ev.const_int) (by rw [List.length_map, List.length_range]; decide)).ev ?_
    show _ = PyData.list (((List.range 4).map fun j => PyData.int (wy C i j)).map modD)
    rw [List.map_map, List.map_map]; rfl
  refine Ex.cons (Ex1.ret (d := .bool true) (Ev.cmpP (d₂ := .dict (kvData (rowsKv nm kd rt 4))) (EvP.callF (fn_l_run w base) (by kernel_rfl) (g_l_run w base) (EvAll.cons (d := .list ((namesL nm).map .int)) (Ev.name (by k_extra "mem")) (EvAll.cons (d := matD (odd C)) (Ev.name (by k_extra "mem")) (EvAll.cons (d := .dict (kvData (newKv nm kd (fun q => ft (wy C) rt q q) Gp))) (Ev.name (by k_extra "mem")) (EvAll.cons (d := .int (pk + 7)) (Ev.add (Ev.name (by k_extra "mem")) Ev.const_int) EvAll.nil))))
    (con_run w base nm N (odd C) (odd_cnt C) kd (fun q => ft (wy C) rt q q) rt (pk + 7) (newKv nm kd (fun q => ft (wy C) rt q q) Gp) hkd hlt hrt hf2 (ndn _ P) fun p hp => kv_look N _ hp P.lt (by
      have := all4 (P.keys N) (by rw [List.length_map, h4]; exact Nat.le_refl 4) (fun k hk => by
        obtain ⟨q, hq, rfl⟩ := List.mem_map.mp hk
        exact nm_in N (P.lt q hq)) (nm_in N hp)
      exact (P.mem N hp).mp this))) (Ev.name (by k_extra "mem")) (fun hR m r₁ r₂ hQ => ?_) (by with_unfolding_all rfl)) rfl)
  obtain ⟨Gp', P', h4', rfl⟩ := hR
  exact same_dicts m r₁ r₂ (ndn _ P') (ndr _) (by rw [newKv_len, rowsKv_len, h4']) (new_same N kd _ P') hQ
theorem con_law (w : World) (base : Heap) (ns : List Int) (hn : ns.length ≤ 63) : Con (W1 w base) 9 (.ref 288) [.list (ns.map .int)] (.bool true) := by
  refine Con.of (fn_law w base) rfl ?_
  dsimp only [List.zip, List.zipWith, List.map, List.append_nil, List.cons_append, List.nil_append]
  exact Ex.cons (Ex1.ret (d := .bool true) (Ev.callF (fn_l_holds w base) (by kernel_rfl) (g_l_holds w base) (EvAll.cons (d := .list ((cellsAt ns ns.length).map .int)) (Ev.callF (fn_l_cells w base) (by kernel_rfl) (g_l_cells w base) (EvAll.cons (d := .list (ns.map .int)) (Ev.name (by k_extra "mem")) EvAll.nil) (con_cells w base ns hn)) EvAll.nil) (con_holds w base _ (cellsAt_len ns _))) rfl)
theorem ns_unique {h : Heap} {a : Addr} {m m' : Str → Option Value} (x : h.Ns a m) (y : h.Ns a m') : m = m' := by
  obtain ⟨o, es, ep, g, d, k, r⟩ := x
  obtain ⟨o', es', ep', g', d', k', r'⟩ := y
  rw [g] at g'; cases g'
  rw [d] at d'; cases d'
  exact funext fun n => (r n).symm.trans (r' n)
theorem laid_list {P : Params} {h : Heap} {ns : List Int} {vs : List Value} (w : WellAll P h vs (ofPys (ns.map .int))) : RlAll h (fun _ => True) (ns.map .int) vs := by
  induction ns generalizing vs with
  | nil => cases w; rfl
  | cons n ns ih =>
    cases w with
    | cons w1 w2 =>
      cases w1 with
      | int _ t => exact ⟨_, _, rfl, ⟨t, rfl⟩, ih w2⟩
theorem laid_arg {P : Params} {h : Heap} {v : Value} {ns : List Int} (w : Well P h v (ofPy (.list (ns.map .int)))) : RlAll h (fun _ => True) [.list (ns.map .int)] [v] := by
  cases w with
  | list g r => exact ⟨_, [], rfl, ⟨_, _, _, rfl, trivial, g, by simpa using laid_list r⟩, rfl⟩
theorem glob1 (P : Params) : nsOk (KK P) 3 = true := by kernel_rfl
theorem left_of_run {p q : Program} {loose : List Str} {Xt : Shared → Bool} {α : Type} {Yf : Shared → α} {Ya : World → α} {N : Nat}
    (e : opening p = plainProg p.main.scope.names) (hN : Nat.ble 600 N = true) (f : ∀ s, fenceModules? p s = some s)
    (h : ∀ (w : World) (os : OsState), (topFrom treeTable p w N ⟨boot_heap w.params, Array.mk [], boot_drawn, boot_toks, os⟩).map (fun s => (openSeen q loose (importedModules p.main.body) Xt true s, Yf s)) = some (openGood q loose, Ya w)) : LeftO p q loose Xt Yf Ya N := fun w => by
  obtain ⟨⟨hp, gs, d, k, os⟩, e1, e2⟩ := Option.map_eq_some_iff.mp (boot_open e hN f w)
  obtain ⟨rfl, rfl, rfl, rfl⟩ : hp = boot_heap w.params ∧ gs = Array.mk [] ∧ d = boot_drawn ∧ k = boot_toks := by simpa using e2
  unfold openEnds
  rw [e1]
  exact h w os
noncomputable def view1 : Program := view PW [47]
noncomputable def loose1 : List Str := (PW.main.scope.names.filter fun x => x.2 == .local && x.1 != Str.ofString "law" && x.1 != Str.ofString "__name__").map (·.1)
noncomputable def as1 : List Addr := [3, 27, 28, 34, 35, 36, 37, 38, 39, 40, 41, 42, 43, 44, 45, 46, 47, 48, 49, 50, 51, 52, 53, 54, 55, 56, 57, 58, 59, 60, 61, 62, 63, 64, 65, 66, 67, 68, 74, 75, 89, 90, 91, 93, 94, 95, 96, 97, 108, 109, 110, 120, 126, 127, 133, 134, 140, 141, 145, 146, 152, 153, 159, 160, 173, 174, 180, 181, 189, 190, 191, 192, 193, 201, 202, 206, 207, 211, 212, 218, 219, 225, 226, 232, 233, 237, 238, 244, 245, 249, 250, 254, 255, 261, 262, 268, 269, 275, 276, 280, 281, 287, 288]
theorem as1_K : ∀ P, as1 = (K1 P).map (·.1) := fun P => by kernel_rfl
theorem t2 : ∀ (w : World) (os : OsState), (topFrom treeTable PW w 2300 ⟨boot_heap w.params, Array.mk [], boot_drawn, boot_toks, os⟩).map (fun s => (openSeen view1 loose1 (importedModules PW.main.body) (fun s => xlAt view1 [] s && recOk [] s) true s, as1.map s.heap.get?)) = some (openGood view1 loose1, (K1 w.params).map fun p => some p.2) := by
  intro w os; kernel_rfl
theorem left1 : LeftO PW view1 loose1 (fun s => xlAt view1 [] s && recOk [] s) (Hook.obs (kHook K1 as1 as1_K)) (Hook.val (kHook K1 as1 as1_K)) 2300 := left_of_run (by kernel_rfl) rfl (fun s => by kernel_rfl) t2
set_option maxHeartbeats 8000000 in
theorem all_holds : PySem.Challenge.rw_ny0336_02.Holds := by
  refine holds_law (by kernel_rfl) fun said => ?_
  refine holds_open (q := view1) (loose := loose1) (Xt := fun s => xlAt view1 [] s && recOk [] s) (XP := XL view1 []) (Yf := Hook.obs (kHook K1 as1 as1_K)) (Ya := Hook.val (kHook K1 as1 as1_K)) (YP := Hook.says (kHook K1 as1 as1_K)) (N := 2300) left1 (Hook.of _) (Hook.keeps _) (fun s e => xl_of s (Bool.and_eq_true_iff.mp e).1) XL.keeps (by rfl) (by rfl) (by rfl) (fun s e => recFacts_of (Bool.and_eq_true_iff.mp e).2) (by rfl) (by first | assumption | decide +kernel) (by decide +kernel) ⟨rfl, rfl, rfl, rfl, rfl, by decide +kernel⟩ ?hw ?hc
  case hw => w_witness2
  intro w s₀ s₁ mg mb G Y fa o pm cd doc dV kV ho hd hcd hD hmg hg args vals as hpre hlay hrd hwl hlo
  have KX := kIn_of Y
  refine Ground.open G ?_
  intro T B D TE TW
  clear hd hcd hD B D TE TW Y G
  wrow_args hpre hlay hrd hwl hlo
  rename_i ns hs _ hL1 _ _ _ _ a _ _ _ _ w1 _ _ _ hlen _
  have hns : ns.length ≤ 63 := by omega
  have eg : mg = gmapOf (KK w.params) := ns_unique (Top.g T) (ns_ok KX (glob1 w.params))
  have efa : fa = 288 := by
    have := hmg
    rw [eg] at this
    have h2 : (gmapOf (KK w.params)) (Str.ofString "law") = some (.ref 288) := g_law w s₁.heap
    have := h2.symm.trans this
    cases this; rfl
  subst efa
  have good : (W1 w s₁.heap).Good := ⟨KX, ns_ok KX (glob1 w.params), ⟨mb, Top.b T, Top.builtins T⟩, Top.nolimit T, Top.nodigits T⟩
  have amb : AmbC (W1 w s₁.heap) 9 callerA s₁.heap := ⟨⟨good, fun _ _ e => e⟩, fun _ => rfl, by decide +kernel, by decide +kernel, [], rfl, trivial⟩
  refine con_law w s₁.heap ns hns amb (P := fun _ => True) (fun _ _ => trivial) (fun b hb => ?_) (laid_arg w1) fun s' v x r => ?_
  · obtain ⟨l, e, hm⟩ := hb
    cases e
    simp at hm
  · obtain ⟨h', tk, rfl, k⟩ := x
    have keep : ∀ b o, s₁.heap.get? b = some o → h'.get? b = some o := fun b o e => k.exact (fun hb => by
      obtain ⟨l, e, hm⟩ := hb
      cases e
      simp at hm) e
    cases r
    refine GoodW.toG ⟨.inl ⟨_, .bool true, [], rfl, fun _ => rfl, .bool true, ?_, fun _ => ⟨.nil, fun _ h => nomatch h⟩⟩, keep, rfl, hg⟩
    exact postW_of (by wrow_shape) (by wtm_val) (by rfl)
end Mine
end
theorem PySem.Challenge.cw_ny0336_02_holds : PySem.Challenge.rw_ny0336_02.Holds :=
  Mine.all_holds
