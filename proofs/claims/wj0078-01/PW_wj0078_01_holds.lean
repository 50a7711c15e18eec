import PyProof.Rows.All
import Wide.All
import OpenK.AllK
import Wide.FinOn
import KE.KxDecode
import PySem.Challenge.RW_wj0078_01
open PySem PySem.W PyProof.Rows PySem.Calls
set_option Elab.async false
set_option maxRecDepth 100000
set_option maxHeartbeats 0
set_option linter.unusedVariables false
set_option linter.unusedSimpArgs false
namespace Mine

/-- what stands and stays: the written part of the heap, the globals, the built-ins -/
structure Cx where
  prog : Program
  w : World
  K : Frag
  mg : Str → Option Value
  mb : Str → Option Value
  h0 : Heap

structure Cx.Ok (C : Cx) (h : Heap) : Prop where
  k : C.K.In h
  g : h.Ns mainGlobals C.mg
  b : h.Ns builtinsNs C.mb
  boot : ∀ x : Str, x ≠ "__name__" → C.mb x = bootBuiltins x
  nolimit : h.NoLimit

noncomputable def Kp (h h' : Heap) : Prop := ∀ b o, h.get? b = some o → h'.get? b = some o
theorem Kp.refl (h : Heap) : Kp h h := fun _ _ e => e
theorem Kp.trans {h h' h'' : Heap} (a : Kp h h') (b : Kp h' h'') : Kp h h'' := fun x o e => b x o (a x o e)
theorem Kp.push (h : Heap) (o : Obj) : Kp h (h.push o) := fun _ _ e => Heap.get?_push_of_some _ e
theorem Cx.Ok.keep {C : Cx} {h h' : Heap} (x : C.Ok h) (k : Kp h h') : C.Ok h' :=
  ⟨x.k.keeps k, x.g.keeps k, x.b.keeps k, x.boot, x.nolimit.keeps k⟩

/-- abstract values, by content -/
inductive AV where
  | none
  | bool (b : Bool)
  | int (i : Int)
  | str (s : List Nat)
  | bytes (s : List UInt8)
  | glob (v : Value)
  | list (l : List AV)
  | tuple (l : List AV)
  | inst (c : Nat) (ns : List Str) (fs : List AV)
  | dict (ks : List (List Nat)) (vs : List AV)
  | mut (i : Nat)
  | mutl (i : Nat)
  | any
  deriving Inhabited

noncomputable def Keyed : List Str → List Value → List DictEntry → Prop
  | [], vs, es => vs = [] ∧ es = []
  | n :: ns, vs, es => ∃ v r e r', vs = v :: r ∧ es = e :: r' ∧ (∃ t, e.key = .str n t) ∧ e.val = v ∧ Keyed ns r r'
noncomputable def InstIs (h : Heap) (x dx : Addr) (c : Nat) (ns : List Str) (vs : List Value) : Prop :=
  h.get? x = some (instObj c dx) ∧ ∃ es n, h.get? dx = some (dictOf es n) ∧ Keyed ns vs es
noncomputable def atKey : List (List Nat) → List Value → Str → Option Value
  | k :: ks, v :: vs, x => if x = ⟨k.toArray⟩ then some v else atKey ks vs x
  | _, _, _ => none

mutual
noncomputable def Rep (C : Cx) (h : Heap) (W : List Addr) (ρ : List (List Addr)) : AV → Value → Prop
  | .none, v => v = .none
  | .bool b, v => v = .bool b
  | .int i, v => ∃ t, v = .int i t
  | .str s, v => ∃ t, v = .str ⟨s.toArray⟩ t
  | .bytes s, v => ∃ t, v = .bytes s.toArray t
  | .glob g, v => v = g
  | .list l, v => ∃ a vs, v = .ref a ∧ a ∉ W ∧ h.PlainList a (List.toArray vs) ∧ Reps C h W ρ l vs
  | .tuple l, v => ∃ a vs, v = .ref a ∧ a ∉ W ∧ (∃ n, IsT h a (List.toArray vs) n) ∧ Reps C h W ρ l vs
  | .inst c ns fs, v => ∃ x dx vs, v = .ref x ∧ x ∉ W ∧ dx ∉ W ∧ InstIs h x dx c ns vs ∧ Reps C h W ρ fs vs
  | .dict ks fs, v => ∃ a vs, v = .ref a ∧ a ∉ W ∧ h.MapOf (strKind C.prog C.w) a (atKey ks vs) ∧ Reps C h W ρ fs vs
  | .mut i, v => ∃ a r, v = .ref a ∧ ρ[i]? = some (a :: r)
  | .mutl i, v => ∃ x dx lx, v = .ref lx ∧ ρ[i]? = some [x, dx, lx]
  | .any, _ => True
noncomputable def Reps (C : Cx) (h : Heap) (W : List Addr) (ρ : List (List Addr)) : List AV → List Value → Prop
  | [], vs => vs = []
  | a :: l, vs => ∃ v r, vs = v :: r ∧ Rep C h W ρ a v ∧ Reps C h W ρ l r
end

section
variable {C : Cx} {h h' : Heap} {W W' : List Addr} {ρ ρ' : List (List Addr)}

theorem InstIs.mono {x dx : Addr} {c : Nat} {ns : List Str} {vs : List Value} (hk : ∀ b o, b ∉ W → h.get? b = some o → h'.get? b = some o) (hx : x ∉ W) (hd : dx ∉ W)
    (i : InstIs h x dx c ns vs) : InstIs h' x dx c ns vs :=
  let ⟨a, es, n, b, k⟩ := i; ⟨hk _ _ hx a, es, n, hk _ _ hd b, k⟩
mutual
theorem Rep.mono (hk : ∀ b o, b ∉ W → h.get? b = some o → h'.get? b = some o) (hW : ∀ a, a ∈ W' → a ∈ W ∨ h.get? a = none) (hρ : ∀ (i : Nat) (r : List Addr), ρ[i]? = some r → ρ'[i]? = some r) :
    ∀ (av : AV) (v : Value), Rep C h W ρ av v → Rep C h' W' ρ' av v
  | .none, _, x => x
  | .bool _, _, x => x
  | .int _, _, x => x
  | .str _, _, x => x
  | .bytes _, _, x => x
  | .glob _, _, x => x
  | .list l, _, ⟨a, vs, e, hn, ⟨n, ho⟩, r⟩ => ⟨a, vs, e, fun q => (hW a q).elim hn fun z => (nomatch z.symm.trans ho), ⟨n, hk _ _ hn ho⟩, Reps.mono hk hW hρ l vs r⟩
  | .tuple l, _, ⟨a, vs, e, hn, ⟨n, ho⟩, r⟩ => ⟨a, vs, e, fun q => (hW a q).elim hn fun z => (nomatch z.symm.trans ho), ⟨n, hk _ _ hn ho⟩, Reps.mono hk hW hρ l vs r⟩
  | .inst _ _ fs, _, ⟨x, dx, vs, e, hx, hd, i, r⟩ => ⟨x, dx, vs, e, fun q => (hW x q).elim hx fun z => (nomatch z.symm.trans i.1),
      fun q => (hW dx q).elim hd fun z => let ⟨_, _, b, _⟩ := i.2; (nomatch z.symm.trans b), i.mono hk hx hd, Reps.mono hk hW hρ fs vs r⟩
  | .dict _ fs, _, ⟨a, vs, e, hn, ⟨o, es, ep, ho, m⟩, r⟩ => ⟨a, vs, e, fun q => (hW a q).elim hn fun z => (nomatch z.symm.trans ho), ⟨o, es, ep, hk _ _ hn ho, m⟩, Reps.mono hk hW hρ fs vs r⟩
  | .mut i, _, ⟨a, r, e, q⟩ => ⟨a, r, e, hρ _ _ q⟩
  | .mutl i, _, ⟨a, b, c, e, q⟩ => ⟨a, b, c, e, hρ _ _ q⟩
  | .any, _, _ => True.intro
theorem Reps.mono (hk : ∀ b o, b ∉ W → h.get? b = some o → h'.get? b = some o) (hW : ∀ a, a ∈ W' → a ∈ W ∨ h.get? a = none) (hρ : ∀ (i : Nat) (r : List Addr), ρ[i]? = some r → ρ'[i]? = some r) :
    ∀ (l : List AV) (vs : List Value), Reps C h W ρ l vs → Reps C h' W' ρ' l vs
  | [], _, e => e
  | a :: l, _, ⟨v, r, e, x, y⟩ => ⟨v, r, e, Rep.mono hk hW hρ a v x, Reps.mono hk hW hρ l r y⟩
end
theorem Rep.keep {av : AV} {v : Value} (k : Kp h h') (x : Rep C h W ρ av v) : Rep C h' W ρ av v := Rep.mono (fun b o _ e => k b o e) (fun _ q => .inl q) (fun _ _ e => e) _ _ x
theorem Reps.keep {l : List AV} {vs : List Value} (k : Kp h h') (x : Reps C h W ρ l vs) : Reps C h' W ρ l vs := Reps.mono (fun b o _ e => k b o e) (fun _ q => .inl q) (fun _ _ e => e) _ _ x
theorem Reps.length : ∀ {l : List AV} {vs : List Value}, Reps C h W ρ l vs → vs.length = l.length
  | [], _, e => by rw [show _ = [] from e]; rfl
  | _ :: l, _, ⟨v, r, e, _, y⟩ => by subst e; simp [Reps.length y]
theorem Reps.nil : Reps C h W ρ [] [] := rfl
theorem Reps.cons {a : AV} {l : List AV} {v : Value} {r : List Value} (x : Rep C h W ρ a v) (y : Reps C h W ρ l r) : Reps C h W ρ (a :: l) (v :: r) := ⟨v, r, rfl, x, y⟩
theorem Reps.get : ∀ {l : List AV} {vs : List Value} {i : Nat} {a : AV}, Reps C h W ρ l vs → l[i]? = some a → ∃ v, vs[i]? = some v ∧ Rep C h W ρ a v
  | [], _, _, _, _, e => by simp at e
  | _ :: l, _, 0, _, ⟨v, r, e, x, y⟩, q => by subst e; simp at q; subst q; exact ⟨v, rfl, x⟩
  | _ :: l, _, i + 1, _, ⟨v, r, e, x, y⟩, q => by subst e; simp at q; simpa using Reps.get y q
theorem Reps.append : ∀ {l : List AV} {vs : List Value} {l' : List AV} {vs' : List Value}, Reps C h W ρ l vs → Reps C h W ρ l' vs' → Reps C h W ρ (l ++ l') (vs ++ vs')
  | [], _, _, _, e, z => by rw [show _ = [] from e]; exact z
  | _ :: l, _, _, _, ⟨v, r, e, x, y⟩, z => by subst e; exact ⟨v, _, rfl, x, Reps.append y z⟩
end

/-- mutable objects of the activation -/
inductive MO where
  | list (l : List AV)
  | inst (c : Nat) (ns : List Str) (fs : List AV)
  | hdr (c : Nat) (n : Str) (l : List AV)
abbrev Sto := List MO
abbrev Fm := List (Option AV)
inductive VK where | loc | own | fre
  deriving DecidableEq
abbrev VT := List (Str × VK)

noncomputable def MoRep (C : Cx) (h : Heap) (W : List Addr) (ρ : List (List Addr)) : MO → List Addr → Prop
  | .list l, as => ∃ a vs, as = [a] ∧ h.PlainList a (List.toArray vs) ∧ Reps C h W ρ l vs
  | .inst c ns fs, as => ∃ x dx vs, as = [x, dx] ∧ InstIs h x dx c ns vs ∧ Reps C h W ρ fs vs
  | .hdr c n l, as => ∃ x dx lx vs, as = [x, dx, lx] ∧ InstIs h x dx c [n] [.ref lx] ∧ h.PlainList lx (List.toArray vs) ∧ Reps C h W ρ l vs
noncomputable def StoRep (C : Cx) (h : Heap) (W : List Addr) (ρ : List (List Addr)) (sto : Sto) : Prop :=
  ∀ (i : Nat) (m : MO), sto[i]? = some m → ∃ as, ρ[i]? = some as ∧ MoRep C h W ρ m as

structure FrR (C : Cx) (vt : VT) (env : Env) (own W : List Addr) (ρ : List (List Addr)) (fm : Fm) (h : Heap) : Prop where
  loc : ∃ m, h.Ns env.locals m ∧ ∀ (k : Nat) (x : Str) (av : AV), vt[k]? = some (x, VK.loc) → fm[k]? = some (some av) → ∃ v, m x = some v ∧ Rep C h W ρ av v
  cel : ∀ (k : Nat) (x : Str) (vk : VK), vt[k]? = some (x, vk) → vk ≠ VK.loc → ∃ a v, env.cells.lookup x = some a ∧ h.IsCell a v ∧ (vk = .own → a ∈ own) ∧
    ∀ av, fm[k]? = some (some av) → ∃ u, v = some u ∧ Rep C h W ρ av u
  apart : ∀ (k k' : Nat) (x x' : Str) (vk vk' : VK) (a a' : Addr), vt[k]? = some (x, vk) → vt[k']? = some (x', vk') → vk ≠ VK.loc → vk' ≠ VK.loc → k ≠ k' →
    env.cells.lookup x = some a → env.cells.lookup x' = some a' → a ≠ a'
  names : (vt.map (·.1)).Nodup
  len : fm.length = vt.length

structure Inv (C : Cx) (vt : VT) (env : Env) (own W : List Addr) (ρ : List (List Addr)) (fm : Fm) (sto : Sto) (h : Heap) : Prop where
  base : C.Ok C.h0 ∧ Kp C.h0 h ∧ (∀ a ∈ own ++ ρ.flatten, C.h0.get? a = none)
  fr : FrR C vt env own W ρ fm h
  st : StoRep C h W ρ sto
  ownW : ∀ a ∈ own, a ∈ W
  rhoW : ∀ r ∈ ρ, ∀ a ∈ r, a ∈ W
  locO : env.locals ∈ own
  live : ∀ a ∈ W, ∃ o, h.get? a = some o
  nod : (own ++ ρ.flatten).Nodup
  rlen : ρ.length = sto.length

section
variable {C : Cx} {vt : VT} {env : Env} {own W : List Addr} {ρ : List (List Addr)} {fm : Fm} {sto : Sto} {h h' : Heap}
theorem MoRep.mono {W' : List Addr} {ρ' : List (List Addr)} (hk : ∀ b o, b ∉ W → h.get? b = some o → h'.get? b = some o) (hW : ∀ a, a ∈ W' → a ∈ W ∨ h.get? a = none) (hρ : ∀ (i : Nat) (r : List Addr), ρ[i]? = some r → ρ'[i]? = some r)
    {m : MO} {as : List Addr} (ha : ∀ a ∈ as, ∀ o, h.get? a = some o → h'.get? a = some o) (x : MoRep C h W ρ m as) : MoRep C h' W' ρ' m as := by
  cases m with
  | list l => obtain ⟨a, vs, rfl, ⟨n, ho⟩, r⟩ := x; exact ⟨a, vs, rfl, ⟨n, ha _ (by simp) _ ho⟩, Reps.mono hk hW hρ _ _ r⟩
  | hdr c nm l => obtain ⟨x, dx, lx, vs, rfl, ⟨i1, es, n, i2, i3⟩, ⟨n', ho⟩, r⟩ := x; exact ⟨x, dx, lx, vs, rfl, ⟨ha _ (by simp) _ i1, es, n, ha _ (by simp) _ i2, i3⟩, ⟨n', ha _ (by simp) _ ho⟩, Reps.mono hk hW hρ _ _ r⟩
  | inst c ns fs => obtain ⟨x, dx, vs, rfl, ⟨i1, es, n, i2, i3⟩, r⟩ := x; exact ⟨x, dx, vs, rfl, ⟨ha _ (by simp) _ i1, es, n, ha _ (by simp) _ i2, i3⟩, Reps.mono hk hW hρ _ _ r⟩
theorem FrR.keep (k : Kp h h') (x : FrR C vt env own W ρ fm h) : FrR C vt env own W ρ fm h' where
  loc := let ⟨m, hn, q⟩ := x.loc; ⟨m, hn.keeps k, fun i y av e e' => let ⟨v, a, b⟩ := q i y av e e'; ⟨v, a, b.keep k⟩⟩
  cel := fun i y vk e e' => let ⟨a, v, p, q, r, z⟩ := x.cel i y vk e e'; ⟨a, v, p, q.keeps k, r, fun av f => let ⟨u, g, b⟩ := z av f; ⟨u, g, b.keep k⟩⟩
  apart := x.apart
  names := x.names
  len := x.len
theorem StoRep.keep (k : Kp h h') (x : StoRep C h W ρ sto) : StoRep C h' W ρ sto :=
  fun i m e => let ⟨as, a, b⟩ := x i m e; ⟨as, a, b.mono (fun b o _ e => k b o e) (fun _ q => .inl q) (fun _ _ e => e) fun _ _ _ e => k _ _ e⟩
theorem Inv.keep (k : Kp h h') (x : Inv C vt env own W ρ fm sto h) : Inv C vt env own W ρ fm sto h' where
  base := let ⟨a, b, c⟩ := x.base; ⟨a, b.trans k, c⟩
  fr := x.fr.keep k
  st := x.st.keep k
  ownW := x.ownW
  rhoW := x.rhoW
  locO := x.locO
  live := fun a q => let ⟨o, e⟩ := x.live a q; ⟨o, k _ _ e⟩
  nod := x.nod
  rlen := x.rlen
theorem Inv.ok (x : Inv C vt env own W ρ fm sto h) : C.Ok h := let ⟨a, b, _⟩ := x.base; a.keep b
theorem Inv.newW (x : Inv C vt env own W ρ fm sto h) : h.objs.size ∉ W := fun q => let ⟨_, e⟩ := x.live _ q; absurd (Heap.lt_size e) (Nat.lt_irrefl _)
end

structure Good (d : Nat) (A : Around) : Prop where
  h : A.handled = none
  dep : A.depth + 4 * d + 4 ≤ 900
  un : A.units + 40 * d + 60 ≤ 9000
structure Stat (sc : List (Str × NameKind)) (env : Env) : Prop where
  kind : env.scope.kind = .function
  names : env.scope.names = sc
  glob : env.globals = mainGlobals
  bui : env.builtins = builtinsNs
theorem Stat.kindOf {sc : List (Str × NameKind)} {env : Env} (S : Stat sc env) {x : Str} {k : NameKind} (e : sc.lookup x = some k) : env.kindOf x = some k := by
  unfold Env.kindOf; rw [S.names]; exact e
theorem Stat.plain {sc : List (Str × NameKind)} {env : Env} (S : Stat sc env) : (env.scope.kind == .class || (env.scope.kind == .module && env.locals != env.globals)) = false := by rw [S.kind]; rfl

abbrev SE := Fm → Sto → Option AV
abbrev ST := Fm → Sto → Option Bool
abbrev SEs := Fm → Sto → Option (List AV)
noncomputable def fget : Fm → Nat → Option AV
  | [], _ => none
  | a :: _, 0 => a
  | _ :: l, k + 1 => fget l k
noncomputable def fset : Fm → Nat → AV → Fm
  | [], _, _ => []
  | _ :: l, 0, v => some v :: l
  | a :: l, k + 1, v => a :: fset l k v
theorem fget_some : ∀ {fm : Fm} {k : Nat} {av : AV}, fget fm k = some av → fm[k]? = some (some av)
  | [], _, _, e => by cases e
  | a :: _, 0, _, e => by simpa [fget] using e
  | _ :: l, k + 1, _, e => by simpa using fget_some (fm := l) e
theorem fset_get : ∀ (fm : Fm) (k : Nat) (v : AV) (j : Nat) (u : AV), (fset fm k v)[j]? = some (some u) → (j = k ∧ u = v) ∨ (j ≠ k ∧ fm[j]? = some (some u))
  | [], _, _, _, _, e => by simp [fset] at e
  | a :: l, 0, v, 0, u, e => by simp [fset] at e; exact .inl ⟨rfl, e.symm⟩
  | a :: l, 0, v, j + 1, u, e => by simp [fset] at e; exact .inr ⟨by simp, by simpa using e⟩
  | a :: l, k + 1, v, 0, u, e => by simp [fset] at e; exact .inr ⟨by simp, by simpa using e⟩
  | a :: l, k + 1, v, j + 1, u, e => by
    simp only [fset, List.getElem?_cons_succ] at e ⊢
    rcases fset_get l k v j u e with ⟨h1, h2⟩ | ⟨h1, h2⟩
    · exact .inl ⟨by rw [h1], h2⟩
    · exact .inr ⟨by omega, h2⟩
theorem fset_len : ∀ (fm : Fm) (k : Nat) (v : AV), (fset fm k v).length = fm.length
  | [], _, _ => rfl
  | _ :: _, 0, _ => rfl
  | _ :: l, k + 1, v => by simp [fset, fset_len l k v]

noncomputable def EvT (C : Cx) (d : Nat) (sc : List (Str × NameKind)) (vt : VT) (e : Expr) (f : SE) : Prop :=
  ∀ {A : Around} {env : Env} {own W : List Addr} {ρ : List (List Addr)} {fm : Fm} {sto : Sto} {s : Shared} {av : AV} {Q : Value → Shared → Prop} {E : Value → Shared → Prop},
    Good d A → Stat sc env → Inv C vt env own W ρ fm sto s.heap → f fm sto = some av →
    (∀ v h' tk, Kp s.heap h' → Rep C h' W ρ av v → Q v { s with heap := h', toks := tk }) → wpAny (model C.prog C.w) A (eval e env) Q E s
noncomputable def TsT (C : Cx) (d : Nat) (sc : List (Str × NameKind)) (vt : VT) (e : Expr) (f : ST) : Prop :=
  ∀ {A : Around} {env : Env} {own W : List Addr} {ρ : List (List Addr)} {fm : Fm} {sto : Sto} {s : Shared} {b : Bool} {Q : Bool → Shared → Prop} {E : Value → Shared → Prop},
    Good d A → Stat sc env → Inv C vt env own W ρ fm sto s.heap → f fm sto = some b →
    (∀ h' tk, Kp s.heap h' → Q b { s with heap := h', toks := tk }) → wpAny (model C.prog C.w) A (isTrue e env (eval e env)) Q E s
noncomputable def EvsT (C : Cx) (d : Nat) (sc : List (Str × NameKind)) (vt : VT) (es : List Expr) (f : SEs) : Prop :=
  ∀ {A : Around} {env : Env} {own W : List Addr} {ρ : List (List Addr)} {fm : Fm} {sto : Sto} {s : Shared} {avs : List AV} {pos : Pos} {Q : List Value → Shared → Prop} {E : Value → Shared → Prop},
    Good d A → Stat sc env → Inv C vt env own W ρ fm sto s.heap → f fm sto = some avs →
    (∀ vs h' tk, Kp s.heap h' → Reps C h' W ρ avs vs → Q vs { s with heap := h', toks := tk }) → wpAny (model C.prog C.w) A (spliced (backTo pos (starEach es env))) Q E s

section
variable {C : Cx} {d : Nat} {sc : List (Str × NameKind)} {vt : VT}

theorem ev_int {i : Int} {k : Nat} {pos : Pos} : EvT C d sc vt (.Constant (.int i) k pos) (fun _ _ => some (.int i)) := by
  intro A env own W ρ fm sto s av Q E G S I hf hQ; cases hf
  exact wpAny_Constant_int (hQ _ _ _ (Kp.refl _) ⟨_, rfl⟩)
theorem ev_none {k : Nat} {pos : Pos} : EvT C d sc vt (.Constant .none k pos) (fun _ _ => some .none) := by
  intro A env own W ρ fm sto s av Q E G S I hf hQ; cases hf
  exact wpAny_Constant_none (hQ _ s.heap s.toks (Kp.refl _) rfl)
theorem ev_bool {b : Bool} {k : Nat} {pos : Pos} : EvT C d sc vt (.Constant (.bool b) k pos) (fun _ _ => some (.bool b)) := by
  intro A env own W ρ fm sto s av Q E G S I hf hQ; cases hf
  exact wpAny_Constant_bool (hQ _ s.heap s.toks (Kp.refl _) rfl)
theorem ev_str (l : List Nat) {x : Str} {k : Nat} {pos : Pos} (hx : x = ⟨l.toArray⟩) : EvT C d sc vt (.Constant (.str x) k pos) (fun _ _ => some (.str l)) := by
  intro A env own W ρ fm sto s av Q E G S I hf hQ; cases hf
  exact wpAny_Constant_str (hQ _ _ _ (Kp.refl _) ⟨_, by rw [hx]⟩)
theorem ev_bytes {l : List UInt8} {k : Nat} {pos : Pos} : EvT C d sc vt (.Constant (.bytes l) k pos) (fun _ _ => some (.bytes l)) := by
  intro A env own W ρ fm sto s av Q E G S I hf hQ; cases hf
  rw [eval_Constant]
  exact wpAny_mkTextBytes (hQ _ _ _ (Kp.refl _) ⟨_, rfl⟩)

theorem ev_loc (k : Nat) {x : Str} {pos : Pos} (hv : vt[k]? = some (x, VK.loc)) (hk : sc.lookup x = some .local) (hd : (x == ("__debug__" : Str)) = false) :
    EvT C d sc vt (.Name x pos) (fun fm _ => fget fm k) := by
  intro A env own W ρ fm sto s av Q E G S I hf hQ
  obtain ⟨m, hn, q⟩ := I.fr.loc
  obtain ⟨v, hm, r⟩ := q k x av hv (fget_some hf)
  exact wpAny_Name (wpAny_loadName_local S.kind (S.kindOf hk) hn hm (hQ v s.heap s.toks (Kp.refl _) r)) hd
theorem ev_cell (k : Nat) {x : Str} {vk : VK} {pos : Pos} (hv : vt[k]? = some (x, vk)) (hvk : vk ≠ VK.loc) (hk : sc.lookup x = some .cell) (hd : (x == ("__debug__" : Str)) = false) :
    EvT C d sc vt (.Name x pos) (fun fm _ => fget fm k) := by
  intro A env own W ρ fm sto s av Q E G S I hf hQ
  obtain ⟨a, v, hc, hi, _, z⟩ := I.fr.cel k x vk hv hvk
  obtain ⟨u, rfl, r⟩ := z av (fget_some hf)
  exact wpAny_Name (wpAny_loadName_cell S.kind (S.kindOf hk) hc hi (hQ u s.heap s.toks (Kp.refl _) r)) hd
theorem ev_glob {x : Str} {v : Value} {pos : Pos} (hn : nsIn C.K mainGlobals x = some (some v)) (hk : sc.lookup x = some .globalImplicit) (hd : (x == ("__debug__" : Str)) = false) :
    EvT C d sc vt (.Name x pos) (fun _ _ => some (.glob v)) := by
  intro A env own W ρ fm sto s av Q E G S I hf hQ; cases hf
  exact Name_function_global S.kind (S.kindOf hk) (loadGlobal_global (by rw [S.glob]; exact I.ok.g) (mg_of I.ok.k I.ok.g hn) (hQ v s.heap s.toks (Kp.refl _) rfl)) hd
theorem ev_builtin {x : Str} {v : Value} {pos : Pos} (hn : nsIn C.K mainGlobals x = some none) (hv : bootBuiltins x = some v) (hx : x ≠ "__name__") (hk : sc.lookup x = some .globalImplicit) (hd : (x == ("__debug__" : Str)) = false) :
    EvT C d sc vt (.Name x pos) (fun _ _ => some (.glob v)) := by
  intro A env own W ρ fm sto s av Q E G S I hf hQ; cases hf
  exact Name_function_global S.kind (S.kindOf hk) (loadGlobal_builtin (by rw [S.glob]; exact I.ok.g) (mg_none_of I.ok.k I.ok.g hn) (by rw [S.bui]; exact I.ok.b) ((I.ok.boot x hx).trans hv) (hQ v s.heap s.toks (Kp.refl _) rfl)) hd

theorem evs_nil : EvsT C d sc vt [] (fun _ _ => some []) := by
  intro A env own W ρ fm sto s avs pos Q E G S I hf hQ; cases hf
  exact wpAny_items_nil (hQ [] s.heap s.toks (Kp.refl _) rfl)
theorem evs_cons {e : Expr} {es : List Expr} {f : SE} {g : SEs} (he : EvT C d sc vt e f) (hes : EvsT C d sc vt es g) (hst : ∀ env, starEach (e :: es) env = (false, eval e env) :: starEach es env) :
    EvsT C d sc vt (e :: es) (fun fm st => (f fm st).bind fun a => (g fm st).bind fun l => some (a :: l)) := by
  intro A env own W ρ fm sto s avs pos Q E G S I hf hQ
  obtain ⟨a, ha, hf⟩ := Option.bind_eq_some_iff.mp hf
  obtain ⟨l, hl, hf⟩ := Option.bind_eq_some_iff.mp hf
  cases hf
  refine wpAny_items_cons (he G S I ha fun v h₁ t₁ k₁ r₁ => ?_) (hst env)
  refine hes G S (s := { s with heap := h₁, toks := t₁ }) (I.keep k₁) hl fun vs h₂ t₂ k₂ r₂ => ?_
  exact hQ (v :: vs) h₂ t₂ (k₁.trans k₂) (Reps.cons (r₁.keep k₂) r₂)

theorem ev_list {es : List Expr} {pos : Pos} {g : SEs} (h : EvsT C d sc vt es g) : EvT C d sc vt (.List es pos) (fun fm st => (g fm st).bind fun l => if l.length ≤ 4096 then some (.list l) else none) := by
  intro A env own W ρ fm sto s av Q E G S I hf hQ
  obtain ⟨l, hl, hf⟩ := Option.bind_eq_some_iff.mp hf
  split at hf <;> cases hf
  rename_i hlen
  refine wpAny_List (h G S I hl fun vs h₁ t₁ k₁ r₁ => ?_)
  have hl' := r₁.length
  refine ⟨by rw [sizeLine_eq]; omega, hQ _ _ t₁ (k₁.trans (Kp.push _ _)) ⟨_, vs, rfl, (I.keep k₁).newW, ⟨_, Heap.get?_push_size _ rfl⟩, r₁.keep (Kp.push _ _)⟩⟩
theorem ev_tuple {es : List Expr} {k : Nat} {pos : Pos} {g : SEs} (h : EvsT C d sc vt es g) : EvT C d sc vt (.Tuple es k pos) (fun fm st => (g fm st).bind fun l => if l.length ≤ 4096 then some (.tuple l) else none) := by
  intro A env own W ρ fm sto s av Q E G S I hf hQ
  obtain ⟨l, hl, hf⟩ := Option.bind_eq_some_iff.mp hf
  split at hf <;> cases hf
  rename_i hlen
  refine wpAny_Tuple (h G S I hl fun vs h₁ t₁ k₁ r₁ => ?_)
  have hl' := r₁.length
  refine ⟨by rw [sizeLine_eq]; omega, hQ _ _ t₁ (k₁.trans (Kp.push _ _)) ⟨_, vs, rfl, (I.keep k₁).newW, ⟨_, Heap.get?_push_size _ rfl⟩, r₁.keep (Kp.push _ _)⟩⟩
theorem ev_ifexp {t b o : Expr} {pos : Pos} {ft : ST} {fb fo : SE} (ht : TsT C d sc vt t ft) (hb : EvT C d sc vt b fb) (ho : EvT C d sc vt o fo) :
    EvT C d sc vt (.IfExp t b o pos) (fun fm st => (ft fm st).bind fun c => if c then fb fm st else fo fm st) := by
  intro A env own W ρ fm sto s av Q E G S I hf hQ
  obtain ⟨c, hc, hf⟩ := Option.bind_eq_some_iff.mp hf
  refine wpAny_IfExp (ht G S I hc fun h₁ t₁ k₁ => ?_)
  cases c with
  | true => exact hb (s := { s with heap := h₁, toks := t₁ }) G S (I.keep k₁) hf fun v h₂ t₂ k₂ r => hQ v h₂ t₂ (k₁.trans k₂) r
  | false => exact ho (s := { s with heap := h₁, toks := t₁ }) G S (I.keep k₁) hf fun v h₂ t₂ k₂ r => hQ v h₂ t₂ (k₁.trans k₂) r
end

noncomputable def sget : Sto → Nat → Option MO
  | [], _ => none
  | m :: _, 0 => some m
  | _ :: l, k + 1 => sget l k
theorem sget_eq : ∀ (l : Sto) (k : Nat), sget l k = l[k]?
  | [], k => by simp [sget]
  | m :: l, 0 => by simp [sget]
  | m :: l, k + 1 => by simpa [sget] using sget_eq l k
noncomputable def listOf? (st : Sto) : AV → Option (List AV)
  | .list l => some l
  | .mut i => match sget st i with
    | some (.list l) => some l
    | _ => none
  | .mutl i => match sget st i with
    | some (.hdr _ _ l) => some l
    | _ => none
  | _ => none
section
variable {C : Cx} {h : Heap} {W : List Addr} {ρ : List (List Addr)} {st : Sto}
theorem listOf_sound {a : AV} {l : List AV} {v : Value} (e : listOf? st a = some l) (x : Rep C h W ρ a v) (hs : StoRep C h W ρ st) :
    ∃ ad vs, v = .ref ad ∧ h.PlainList ad (List.toArray vs) ∧ Reps C h W ρ l vs := by
  unfold listOf? at e
  split at e
  · cases e; obtain ⟨ad, vs, h1, _, h2, h3⟩ := x; exact ⟨ad, vs, h1, h2, h3⟩
  · split at e <;> cases e
    rename_i i _ q
    rw [sget_eq] at q
    obtain ⟨as, h1, a, vs, rfl, h2, h3⟩ := hs _ _ q
    obtain ⟨a', r, rfl, h4⟩ := x
    rw [h1] at h4; cases h4
    exact ⟨_, vs, rfl, h2, h3⟩
  · split at e <;> cases e
    rename_i i _ _ _ q
    rw [sget_eq] at q
    obtain ⟨as, h1, a, b, c, vs, rfl, _, h2, h3⟩ := hs _ _ q
    obtain ⟨a', b', c', rfl, h4⟩ := x
    rw [h1] at h4; cases h4
    exact ⟨_, vs, rfl, h2, h3⟩
  · cases e
end

noncomputable def small (i : Int) : Bool := decide (-1000000000 < i) && decide (i < 1000000000)
theorem small_iff {i : Int} (h : small i = true) : -1000000000 < i ∧ i < 1000000000 := by
  unfold small at h; simp only [Bool.and_eq_true, decide_eq_true_eq] at h; exact h

noncomputable def rep (l : List AV) : Nat → List AV
  | 0 => []
  | n + 1 => l ++ rep l n
noncomputable def repN (l : List Nat) : Nat → List Nat
  | 0 => []
  | n + 1 => l ++ repN l n

noncomputable def asInt : AV → Option Int
  | .int i => some i
  | _ => none
noncomputable def asStr : AV → Option (List Nat)
  | .str x => some x
  | _ => none
noncomputable def asBytes : AV → Option (List UInt8)
  | .bytes x => some x
  | _ => none
theorem asInt_eq {a : AV} {x : Int} (h : asInt a = some x) : a = .int x := by unfold asInt at h; split at h <;> cases h; rfl
theorem asStr_eq {a : AV} {x : List Nat} (h : asStr a = some x) : a = .str x := by unfold asStr at h; split at h <;> cases h; rfl
theorem asBytes_eq {a : AV} {x : List UInt8} (h : asBytes a = some x) : a = .bytes x := by unfold asBytes at h; split at h <;> cases h; rfl
noncomputable def int2 (g : Int → Int → Option AV) (a b : AV) : Option AV := (asInt a).bind fun x => (asInt b).bind fun y => g x y
/-- binary operators -/
noncomputable def binAV (st : Sto) (op : Operator) (a b : AV) : Option AV :=
  match op with
  | .Add => (int2 (fun a b => some (.int (a + b))) a b).or (((asStr a).bind fun x => (asStr b).bind fun y => if x.length + y.length ≤ 4096 then some (.str (x ++ y)) else none).or
      (((asBytes a).bind fun x => (asBytes b).bind fun y => if x.length + y.length ≤ 4096 then some (.bytes (x ++ y)) else none).or
        ((listOf? st a).bind fun l => (listOf? st b).bind fun m => if l.length + m.length ≤ 4096 then some (.list (l ++ m)) else none)))
  | .Sub => int2 (fun a b => some (.int (a - b))) a b
  | .Mult => (int2 (fun a b => if small a && small b then some (.int (a * b)) else none) a b).or ((asInt b).bind fun n =>
      ((asStr a).bind fun a => if a.length ≤ 16 && decide (n ≤ 200) && decide (-200 ≤ n) then some (.str (repN a n.toNat)) else none).or
        ((listOf? st a).bind fun l => if l.length == 1 && decide (n ≤ 200) && decide (-200 ≤ n) then some (.list (rep l n.toNat)) else none))
  | .FloorDiv => int2 (fun a b => if small b && b != 0 then some (.int (a.fdiv b)) else none) a b
  | .Mod => int2 (fun a b => if b != 0 then some (.int (a.fmod b)) else none) a b
  | .BitAnd => int2 (fun a b => some (.int (Builtin.bitAnd a b))) a b
  | .LShift => int2 (fun a b => if small a && decide (0 ≤ b) && decide (b ≤ 1000) then some (.int (a * 2 ^ b.toNat)) else none) a b
  | .Pow => int2 (fun a b => if small a && decide (0 ≤ b) && decide (b ≤ 1000) then some (.int (a ^ b.toNat)) else none) a b
  | _ => none

section
variable {C : Cx} {W : List Addr} {ρ : List (List Addr)} {st : Sto} {A : Around} {s : Shared} {Q : Value → Shared → Prop} {E : Value → Shared → Prop}
theorem PlainList.isList {h : Heap} {a : Addr} {vs : Array Value} (x : h.PlainList a vs) : h.IsList a vs := let ⟨n, e⟩ := x; ⟨_, e, rfl, n, rfl⟩
theorem repN_mul (a : List Nat) (n : Int) : (Txt.mul ⟨a.toArray⟩ n) = (⟨(repN a n.toNat).toArray⟩ : Str) := by
  have key : ∀ k : Nat, (List.replicate k a.toArray).foldl (· ++ ·) (#[] : Array Nat) = (repN a k).toArray := by
    have gen : ∀ (k : Nat) (acc : Array Nat), (List.replicate k a.toArray).foldl (· ++ ·) acc = acc ++ (repN a k).toArray := by
      intro k
      induction k with
      | zero => intro acc; simp [repN]
      | succ k ih => intro acc; rw [List.replicate_succ, List.foldl_cons, ih]; simp [repN]
    intro k; rw [gen]; simp
  unfold Txt.mul
  by_cases h1 : n < 1
  · rw [if_pos h1]
    have : n.toNat = 0 := by omega
    rw [this]; rfl
  · rw [if_neg h1]
    split
    · rename_i q
      simp only [Bool.or_eq_true, beq_iff_eq] at q
      rcases q with q | q
      · subst q; simp [repN]
      · have : a = [] := by
          have : a.toArray.size = 0 := q
          simpa using this
        subst this
        have : ∀ k, repN [] k = [] := by intro k; induction k with | zero => rfl | succ k ih => simp [repN, ih]
        rw [this]
    · show (⟨(List.replicate n.toNat a.toArray).foldl (· ++ ·) #[]⟩ : Str) = _
      rw [key]
theorem rep_flat {h : Heap} {l : List AV} {vs : List Value} (x : Reps C h W ρ l vs) : ∀ n, Reps C h W ρ (rep l n) (List.replicate n vs).flatten
  | 0 => rfl
  | n + 1 => by rw [List.replicate_succ, List.flatten_cons]; exact Reps.append x (rep_flat x n)
theorem listMul_flat (vs : List Value) : ∀ n, List.foldl (fun x1 x2 => x1 ++ x2) #[] (List.replicate n vs.toArray) = (List.replicate n vs).flatten.toArray := by
  have gen : ∀ (k : Nat) (acc : Array Value), (List.replicate k vs.toArray).foldl (· ++ ·) acc = acc ++ (List.replicate k vs).flatten.toArray := by
    intro k
    induction k with
    | zero => intro acc; simp
    | succ k ih => intro acc; rw [List.replicate_succ, List.foldl_cons, ih]; simp [List.replicate_succ]
  intro n
  have := gen n #[]
  simpa using this

theorem str_app (a b : List Nat) : (⟨a.toArray⟩ : Str) ++ ⟨b.toArray⟩ = ⟨(a ++ b).toArray⟩ := by
  show (⟨a.toArray ++ b.toArray⟩ : Str) = _
  rw [List.append_toArray]
theorem mulOk {x : List Nat} {n : Int} (h1 : x.length ≤ 16) (h2 : n ≤ 200) (h3 : -200 ≤ n) : MulOk ⟨x.toArray⟩ n := by
  refine ⟨by simp; omega, fun h4 _ => ?_, fun h4 _ => ?_⟩
  · have : (2 ^ 63 - 1) / 200 ≤ (2 ^ 63 - 1) / n := by
      apply Int.le_ediv_of_mul_le (by omega)
      have : (2 ^ 63 - 1) / 200 * n ≤ (2 ^ 63 - 1) / 200 * 200 := Int.mul_le_mul_of_nonneg_left h2 (by decide)
      omega
    have hl : ((⟨x.toArray⟩ : Str).length : Int) = x.length := rfl
    rw [hl]; omega
  · have hl : (⟨x.toArray⟩ : Str).length = x.length := rfl
    rw [hl]
    unfold Builtin.Str.tooLong
    have : x.length * n.toNat ≤ 16 * 200 := Nat.mul_le_mul h1 (by omega)
    simp [sizeLine_eq]; omega
theorem mul_list_raw {l : Addr} {items : Array Value} {k : Nat} {x : Int} {u : Tok}
    (hl : s.heap.get? l = some { cls := .type "list", dict := none, data := .seq items k, slots := #[] })
    (hlo : -(2 ^ 63 : Int) ≤ x) (hhi : x < 2 ^ 63) (hsz : items.size * x.toNat ≤ 2 ^ 24)
    (h : Q (.ref s.heap.objs.size) { s with heap := s.heap.push { cls := .type "list", data := .seq (List.foldl (fun x1 x2 => x1 ++ x2) #[] (List.replicate (if items.isEmpty = true then 0 else x.toNat) items)) } }) :
    wpAny (model C.prog C.w) A (binaryOp .Mult (.ref l) (.int x u)) Q E s :=
  wpAny_binaryOp_repeat_ref (T := "list") (U := "int") (by decide) ⟨_, hl, rfl⟩ (fun s' => typeIs_int s' x u) noFill_list_mul PySem.F.fills_int_mul PySem.F.slot_int_rmul repeat_list PySem.F.slot_int_index.lookup
    (call_meets PySem.F.slot_int_rmul (typeIs_int s x u) PySem.F.entry_int_rmul (PySem.F.args_int_rmul_2 _ _) (int___rmul___int_list x u l items k)
      ⟨hl, rfl, ⟨_, hl, rfl⟩, call_meets PySem.F.slot_list_mul ⟨_, hl, rfl⟩ PySem.F.entry_list_mul (PySem.F.args_list_mul_2 _ _)
        (AutoListH.list___mul___list_int_3 l items k x u (by simp [Builtin.List.listFitsIndex]; omega) (by omega) (by simp [Builtin.List.listTooLong, sizeLine]; omega))
        ⟨hl, h⟩⟩)
theorem add_lists_raw {l b : Addr} {vs ws : List Value} (hl : s.heap.IsList l vs.toArray) (hb : s.heap.IsList b ws.toArray)
    (h : Q (.ref s.heap.objs.size) { s with heap := s.heap.push { cls := .type "list", data := .seq (vs ++ ws).toArray } }) (hsz : vs.length + ws.length ≤ sizeLine) :
    wpAny (model C.prog C.w) A (binaryOp .Add (.ref l) (.ref b)) Q E s := by
  obtain ⟨⟨cls, dd, data, sl⟩, ho, hc, n, hd⟩ := id hl
  obtain ⟨⟨cls2, dd2, data2, sl2⟩, ho2, hc2, n2, hd2⟩ := id hb
  simp only at hc hd hc2 hd2
  subst hc hd hc2 hd2
  have e : vs.toArray ++ ws.toArray = (vs ++ ws).toArray := by simp
  refine concat_meets ⟨_, ho, rfl⟩ ⟨_, ho2, rfl⟩ noFill_list_add seq_list_add PySem.F.slot_list_add PySem.F.entry_list_add (PySem.F.args_list_add_2 _ _)
    (list_addW l b vs.toArray ws.toArray n n2 dd dd2 sl sl2 (by simpa using hsz)) ⟨ho, ho2, ?_⟩
  rw [e]; exact h
theorem bin_sound {op : Operator} {a b c : AV} {va vb : Value} (hs : StoRep C s.heap W ρ st) (hnew : s.heap.objs.size ∉ W) (hf : binAV st op a b = some c) (ra : Rep C s.heap W ρ a va) (rb : Rep C s.heap W ρ b vb)
    (hQ : ∀ v h' tk, Kp s.heap h' → Rep C h' W ρ c v → Q v { s with heap := h', toks := tk }) : wpAny (model C.prog C.w) A (binaryOp op va vb) Q E s := by
  have hInt : ∀ {g : Int → Int → Option AV}, int2 g a b = some c → ∃ x y t u, va = .int x t ∧ vb = .int y u ∧ g x y = some c := fun h => by
    obtain ⟨x, hx, h⟩ := Option.bind_eq_some_iff.mp h
    obtain ⟨y, hy, h⟩ := Option.bind_eq_some_iff.mp h
    rw [asInt_eq hx] at ra; rw [asInt_eq hy] at rb
    obtain ⟨t, rfl⟩ := ra; obtain ⟨u, rfl⟩ := rb
    exact ⟨x, y, t, u, rfl, rfl, h⟩
  have hGi : ∀ {p : Bool} {v : AV}, (if p = true then some v else none) = some c → p = true ∧ v = c := fun {p v} h => by
    cases p with
    | true => cases h; exact ⟨rfl, rfl⟩
    | false => cases h
  cases op <;> first | cases hf | skip
  · rcases Option.or_eq_some_iff.mp hf with h | ⟨_, hf⟩
    · obtain ⟨x, y, t, u, rfl, rfl, h⟩ := hInt h; cases h; exact P.add_int (hQ _ s.heap _ (Kp.refl _) ⟨_, rfl⟩)
    rcases Option.or_eq_some_iff.mp hf with h | ⟨_, hf⟩
    · obtain ⟨x, hx, h⟩ := Option.bind_eq_some_iff.mp h
      obtain ⟨y, hy, h⟩ := Option.bind_eq_some_iff.mp h
      rw [asStr_eq hx] at ra; rw [asStr_eq hy] at rb
      split at h <;> cases h
      rename_i q
      obtain ⟨t, rfl⟩ := ra; obtain ⟨u, rfl⟩ := rb
      refine SB.add (fun t' k => ?_) (by rw [sizeLine_eq]; show x.length + y.length ≤ _; omega)
      rw [str_app]
      exact hQ _ s.heap _ (Kp.refl _) ⟨_, rfl⟩
    rcases Option.or_eq_some_iff.mp hf with h | ⟨_, hf⟩
    · obtain ⟨x, hx, h⟩ := Option.bind_eq_some_iff.mp h
      obtain ⟨y, hy, h⟩ := Option.bind_eq_some_iff.mp h
      rw [asBytes_eq hx] at ra; rw [asBytes_eq hy] at rb
      split at h <;> cases h
      rename_i q
      obtain ⟨t, rfl⟩ := ra; obtain ⟨u, rfl⟩ := rb
      exact bytes_add_K (by simp; omega) rfl fun t' k => hQ _ s.heap _ (Kp.refl _) ⟨_, rfl⟩
    obtain ⟨l, hl, hf⟩ := Option.bind_eq_some_iff.mp hf
    obtain ⟨m, hm, hf⟩ := Option.bind_eq_some_iff.mp hf
    split at hf <;> cases hf
    rename_i q
    obtain ⟨a1, vs, rfl, l1, r1⟩ := listOf_sound hl ra hs
    obtain ⟨a2, ws, rfl, l2, r2⟩ := listOf_sound hm rb hs
    refine add_lists_raw l1.isList l2.isList ?_ (by rw [r1.length, r2.length, sizeLine_eq]; omega)
    exact hQ _ _ s.toks (Kp.push _ _) ⟨_, _, rfl, hnew, ⟨_, Heap.get?_push_size _ rfl⟩, (Reps.append r1 r2).keep (Kp.push _ _)⟩
  · obtain ⟨x, y, t, u, rfl, rfl, h⟩ := hInt hf; cases h; exact P.sub_int (hQ _ s.heap _ (Kp.refl _) ⟨_, rfl⟩)
  · rcases Option.or_eq_some_iff.mp hf with h | ⟨_, hf⟩
    · obtain ⟨x, y, t, u, rfl, rfl, h⟩ := hInt h
      obtain ⟨q, rfl⟩ := hGi h
      rw [Bool.and_eq_true] at q
      have q1 := small_iff q.1
      exact P.mul_int (hm := IntMulOk.of_left (intBits_le_64 (by omega) (by omega))) (hQ _ s.heap _ (Kp.refl _) ⟨_, rfl⟩)
    obtain ⟨n, hn, hf⟩ := Option.bind_eq_some_iff.mp hf
    rw [asInt_eq hn] at rb
    obtain ⟨u, rfl⟩ := rb
    rcases Option.or_eq_some_iff.mp hf with h | ⟨_, hf⟩
    · obtain ⟨x, hx, h⟩ := Option.bind_eq_some_iff.mp h
      rw [asStr_eq hx] at ra
      obtain ⟨q, rfl⟩ := hGi h
      simp only [Bool.and_eq_true, decide_eq_true_eq] at q
      obtain ⟨t, rfl⟩ := ra
      refine SB.mul (mulOk (by omega) (by omega) (by omega)) fun t' k => ?_
      rw [repN_mul]
      exact hQ _ s.heap _ (Kp.refl _) ⟨_, rfl⟩
    obtain ⟨l, hl, hf⟩ := Option.bind_eq_some_iff.mp hf
    obtain ⟨q, rfl⟩ := hGi hf
    simp only [Bool.and_eq_true, decide_eq_true_eq, beq_iff_eq] at q
    obtain ⟨a1, vs, rfl, ⟨n1, l1⟩, r1⟩ := listOf_sound hl ra hs
    have hlen := r1.length
    have hv1 : vs.length = 1 := by omega
    refine mul_list_raw l1 (by omega) (by omega) (by rw [List.size_toArray, hv1]; omega) ?_
    have hne : (List.toArray vs).isEmpty = false := by
      cases vs with
      | nil => simp at hv1
      | cons x y => rfl
    rw [hne]
    simp only [Bool.false_eq_true, if_false, listMul_flat]
    exact hQ _ _ s.toks (Kp.push _ _) ⟨_, _, rfl, hnew, ⟨_, Heap.get?_push_size _ rfl⟩, (rep_flat r1 _).keep (Kp.push _ _)⟩
  all_goals obtain ⟨x, y, t, u, rfl, rfl, h⟩ := hInt hf
  · obtain ⟨q, rfl⟩ := hGi h
    exact mod_int' (by simpa using q) (hQ _ s.heap _ (Kp.refl _) ⟨_, rfl⟩)
  · obtain ⟨q, rfl⟩ := hGi h
    simp only [Bool.and_eq_true, decide_eq_true_eq] at q
    have q1 := small_iff q.1.1
    have hb : Builtin.Int.intBits x ≤ 64 := intBits_le_64 (by omega) (by omega)
    refine pow_int q.1.2 ?_ (hQ _ s.heap _ (Kp.refl _) ⟨_, rfl⟩)
    have h1 : (Builtin.Int.intBits x : Int) * y ≤ 64 * y := Int.mul_le_mul_of_nonneg_right (by omega) q.1.2
    have h2 : (64 : Int) * y ≤ 64 * 1000 := by omega
    omega
  · obtain ⟨q, rfl⟩ := hGi h
    simp only [Bool.and_eq_true, decide_eq_true_eq] at q
    have q1 := small_iff q.1.1
    exact lshift_int_small q.1.2 (by omega) (by omega) (hQ _ s.heap _ (Kp.refl _) ⟨_, rfl⟩)
  · cases h; exact and_int (hQ _ s.heap _ (Kp.refl _) ⟨_, rfl⟩)
  · obtain ⟨q, rfl⟩ := hGi h
    simp only [Bool.and_eq_true, bne_iff_ne, ne_eq] at q
    have q1 := small_iff q.1
    exact floordiv_int q.2 (hp := Or.inl (PyProof.noPylong_small (by omega))) (hQ _ s.heap _ (Kp.refl _) ⟨_, rfl⟩)
end

noncomputable def isIn (x : List Nat) : List AV → Option Bool
  | [] => some false
  | .str y :: l => (isIn x l).map fun b => y == x || b
  | _ => none

noncomputable def asBool : AV → Option Bool
  | .bool x => some x
  | _ => none
noncomputable def asTy : AV → Option String
  | .glob (.type x) => some x
  | _ => none
noncomputable def isNil : AV → Bool
  | .list [] => true
  | _ => false
noncomputable def isNone : AV → Bool
  | .none => true
  | _ => false
noncomputable def asList : AV → Option (List AV)
  | .list l => some l
  | _ => none
theorem asBool_eq {a : AV} {x : Bool} (h : asBool a = some x) : a = .bool x := by unfold asBool at h; split at h <;> cases h; rfl
theorem asTy_eq {a : AV} {x : String} (h : asTy a = some x) : a = .glob (.type x) := by unfold asTy at h; split at h <;> cases h; rfl
theorem isNil_eq {a : AV} (h : isNil a = true) : a = .list [] := by unfold isNil at h; split at h; rfl; cases h
theorem isNone_eq {a : AV} (h : isNone a = true) : a = .none := by unfold isNone at h; split at h; rfl; cases h
theorem asList_eq {a : AV} {x : List AV} (h : asList a = some x) : a = .list x := by unfold asList at h; split at h <;> cases h; rfl
noncomputable def intR (f : Int → Int → Bool) (a b : AV) : Option Bool := (asInt a).bind fun x => (asInt b).map fun y => f x y
noncomputable def isR (a b : AV) : Option Bool := ((asTy a).bind fun x => (asTy b).map fun y => x == y).or (if isNone b then (if isNone a then some true else none).or (((asStr a).map fun _ => false).or ((asList a).map fun _ => false)) else none)
/-- comparisons that give a bool -/
noncomputable def cmpAV (st : Sto) (op : CmpOp) (a b : AV) : Option Bool :=
  match op with
  | .Lt => intR (fun a b => decide (a < b)) a b
  | .LtE => intR (fun a b => decide (a ≤ b)) a b
  | .GtE => intR (fun a b => decide (a ≥ b)) a b
  | .Gt => (intR (fun a b => decide (a > b)) a b).or ((asStr a).bind fun x => (asStr b).map fun y => decide (y < x))
  | .Eq => (intR (fun a b => a == b) a b).or (((asStr a).bind fun x => (asStr b).map fun y => x == y).or (((asBool a).bind fun x => (asBool b).map fun y => x == y).or (if isNil b then (listOf? st a).map fun l => l.isEmpty else none)))
  | .In => (asStr a).bind fun y => ((asStr b).map fun x => Txt.contains ⟨x.toArray⟩ ⟨y.toArray⟩).or ((listOf? st b).bind fun l => isIn y l)
  | .NotIn => (asStr a).bind fun y => (asStr b).map fun x => !Txt.contains ⟨x.toArray⟩ ⟨y.toArray⟩
  | .Is => isR a b
  | .IsNot => (isR a b).map fun c => !c
  | _ => none

theorem isIn_sound {C : Cx} {h : Heap} {W : List Addr} {ρ : List (List Addr)} (x : List Nat) : ∀ {l : List AV} {vs : List Value} {b : Bool}, isIn x l = some b → Reps C h W ρ l vs →
    ∃ ys : List Str, StrsAre vs ys ∧ ys.any (· == ⟨x.toArray⟩) = b
  | [], _, _, e, r => by cases e; rw [show _ = [] from r]; exact ⟨[], .nil, rfl⟩
  | .str y :: l, _, _, e, ⟨v, r, e1, ⟨t, e2⟩, e3⟩ => by
    unfold isIn at e
    obtain ⟨b, h1, h2⟩ := Option.map_eq_some_iff.mp e
    obtain ⟨ys, h3, h4⟩ := isIn_sound x h1 e3
    subst e1 e2
    refine ⟨⟨y.toArray⟩ :: ys, .cons _ _ h3, ?_⟩
    rw [List.any_cons, h4, ← h2]
    congr 1
    rw [Bool.eq_iff_iff, beq_iff_eq, beq_iff_eq]
    constructor
    · intro q; cases q; rfl
    · intro q; rw [q]

section
variable {C : Cx} {W : List Addr} {ρ : List (List Addr)} {st : Sto} {A : Around} {s : Shared} {Q : Value → Shared → Prop} {E : Value → Shared → Prop}
theorem cmp_sound {op : CmpOp} {a b : AV} {c : Bool} {va vb : Value} (hu : A.units < cLine) (hs : StoRep C s.heap W ρ st) (hf : cmpAV st op a b = some c) (ra : Rep C s.heap W ρ a va) (rb : Rep C s.heap W ρ b vb)
    (hQ : Q (.bool c) s) : wpAny (model C.prog C.w) A (compareOp op va vb) Q E s := by
  have hInt : ∀ {f : Int → Int → Bool}, intR f a b = some c → ∃ x y t u, va = .int x t ∧ vb = .int y u ∧ f x y = c := fun h => by
    obtain ⟨x, hx, h⟩ := Option.bind_eq_some_iff.mp h
    obtain ⟨y, hy, h⟩ := Option.map_eq_some_iff.mp h
    rw [asInt_eq hx] at ra; rw [asInt_eq hy] at rb
    obtain ⟨t, rfl⟩ := ra; obtain ⟨u, rfl⟩ := rb
    exact ⟨x, y, t, u, rfl, rfl, h⟩
  have hStr : ∀ {f : List Nat → List Nat → Bool}, ((asStr a).bind fun x => (asStr b).map fun y => f x y) = some c → ∃ x y t u, va = .str ⟨x.toArray⟩ t ∧ vb = .str ⟨y.toArray⟩ u ∧ f x y = c := fun h => by
    obtain ⟨x, hx, h⟩ := Option.bind_eq_some_iff.mp h
    obtain ⟨y, hy, h⟩ := Option.map_eq_some_iff.mp h
    rw [asStr_eq hx] at ra; rw [asStr_eq hy] at rb
    obtain ⟨t, rfl⟩ := ra; obtain ⟨u, rfl⟩ := rb
    exact ⟨x, y, t, u, rfl, rfl, h⟩
  have is_ : ∀ {c : Bool}, isR a b = some c → ((∃ x y : String, va = .type x ∧ vb = .type y ∧ (Value.type x == Value.type y) = c) ∨ (vb = .none ∧ ((va = .none ∧ c = true) ∨ ((∃ x t, va = .str x t) ∧ c = false) ∨ ((∃ x, va = .ref x) ∧ c = false)))) := fun {c} h => by
    rcases Option.or_eq_some_iff.mp h with h | ⟨_, h⟩
    · obtain ⟨x, hx, h⟩ := Option.bind_eq_some_iff.mp h
      obtain ⟨y, hy, h⟩ := Option.map_eq_some_iff.mp h
      rw [asTy_eq hx] at ra; rw [asTy_eq hy] at rb
      refine .inl ⟨x, y, ra, rb, ?_⟩
      rw [← h, Bool.eq_iff_iff, beq_iff_eq, beq_iff_eq]
      exact ⟨fun q => by cases q; rfl, fun q => by rw [q]⟩
    · split at h
      case isFalse => cases h
      rename_i hb
      rw [isNone_eq hb] at rb
      refine .inr ⟨rb, ?_⟩
      rcases Option.or_eq_some_iff.mp h with h | ⟨_, h⟩
      · split at h
        case isFalse => cases h
        rename_i ha
        rw [isNone_eq ha] at ra
        cases h
        exact .inl ⟨ra, rfl⟩
      rcases Option.or_eq_some_iff.mp h with h | ⟨_, h⟩
      · obtain ⟨x, hx, rfl⟩ := Option.map_eq_some_iff.mp h
        rw [asStr_eq hx] at ra
        obtain ⟨t, e⟩ := ra; exact .inr (.inl ⟨⟨_, t, e⟩, rfl⟩)
      · obtain ⟨x, hx, rfl⟩ := Option.map_eq_some_iff.mp h
        rw [asList_eq hx] at ra
        obtain ⟨x, _, e, _⟩ := ra; exact .inr (.inr ⟨⟨x, e⟩, rfl⟩)
  cases op <;> first | cases hf | skip
  · rcases Option.or_eq_some_iff.mp hf with h | ⟨_, hf⟩
    · obtain ⟨x, y, t, u, rfl, rfl, rfl⟩ := hInt h; exact P.eq_int hQ
    rcases Option.or_eq_some_iff.mp hf with h | ⟨_, hf⟩
    · obtain ⟨x, y, t, u, rfl, rfl, rfl⟩ := hStr h; exact P.eq_str hQ
    rcases Option.or_eq_some_iff.mp hf with h | ⟨_, hf⟩
    · obtain ⟨x, hx, h⟩ := Option.bind_eq_some_iff.mp h
      obtain ⟨y, hy, h⟩ := Option.map_eq_some_iff.mp h
      rw [asBool_eq hx] at ra; rw [asBool_eq hy] at rb
      cases ra; cases rb; cases h; exact eq_bool hQ
    split at hf
    case isFalse => cases hf
    rename_i hb
    rw [isNil_eq hb] at rb
    obtain ⟨l, hl, hf⟩ := Option.map_eq_some_iff.mp hf
    obtain ⟨a1, vs, rfl, l1, r1⟩ := listOf_sound hl ra hs
    obtain ⟨a2, ws, rfl, _, l2, r2⟩ := rb
    cases r2
    have hlen := r1.length
    cases l with
    | nil =>
      cases r1
      cases hf
      exact SeqAt.eq_listAt l1.isList l2.isList rfl hu (e := fun _ => true) (fun j h1 _ => absurd h1 (Nat.not_lt_zero _)) hQ
    | cons x y =>
      cases hf
      refine SeqAt.eq_list_lengthsAt l1.isList l2.isList ?_ hu hQ
      rw [List.length_cons] at hlen
      simp [hlen]
  · obtain ⟨x, y, t, u, rfl, rfl, rfl⟩ := hInt hf; exact P.lt_int hQ
  · obtain ⟨x, y, t, u, rfl, rfl, rfl⟩ := hInt hf; exact P.le_int hQ
  · rcases Option.or_eq_some_iff.mp hf with h | ⟨_, h⟩
    · obtain ⟨x, y, t, u, rfl, rfl, rfl⟩ := hInt h; exact P.gt_int hQ
    · obtain ⟨x, y, t, u, rfl, rfl, rfl⟩ := hStr h; exact P.gt_str hQ
  · obtain ⟨x, y, t, u, rfl, rfl, rfl⟩ := hInt hf; exact P.ge_int hQ
  · rcases is_ hf with ⟨x, y, rfl, rfl, rfl⟩ | ⟨rfl, ⟨rfl, rfl⟩ | ⟨⟨x, t, rfl⟩, rfl⟩ | ⟨⟨x, rfl⟩, rfl⟩⟩
    · exact wpAny_is_plain rfl hQ
    · exact is_none hQ
    · exact is_none hQ
    · exact is_none hQ
  · obtain ⟨c', hc, rfl⟩ := Option.map_eq_some_iff.mp hf
    rcases is_ hc with ⟨x, y, rfl, rfl, rfl⟩ | ⟨rfl, ⟨rfl, rfl⟩ | ⟨⟨x, t, rfl⟩, rfl⟩ | ⟨⟨x, rfl⟩, rfl⟩⟩
    · exact wpAny_isNot_plain rfl hQ
    · exact isNot_none hQ
    · exact isNot_none hQ
    · exact isNot_none hQ
  · obtain ⟨y, hy, hf⟩ := Option.bind_eq_some_iff.mp hf
    rw [asStr_eq hy] at ra
    obtain ⟨t, rfl⟩ := ra
    rcases Option.or_eq_some_iff.mp hf with hf | ⟨_, hf⟩
    · obtain ⟨x, hx, rfl⟩ := Option.map_eq_some_iff.mp hf
      rw [asStr_eq hx] at rb
      obtain ⟨u, rfl⟩ := rb; exact SB.contains hQ
    · obtain ⟨l, hl, hf⟩ := Option.bind_eq_some_iff.mp hf
      obtain ⟨a1, vs, rfl, l1, r1⟩ := listOf_sound hl rb hs
      obtain ⟨ys, h1, rfl⟩ := isIn_sound _ hf r1
      exact in_list_strs l1.isList h1 hQ
  · obtain ⟨y, hy, hf⟩ := Option.bind_eq_some_iff.mp hf
    obtain ⟨x, hx, hf⟩ := Option.map_eq_some_iff.mp hf
    rw [asStr_eq hy] at ra; rw [asStr_eq hx] at rb
    obtain ⟨t, rfl⟩ := ra; obtain ⟨u, rfl⟩ := rb; cases hf; exact SB.notContains hQ

noncomputable def truthAV : AV → Option Bool
  | .none => some false
  | .bool b => some b
  | .int i => some (i != 0)
  | _ => none
theorem truth_sound {a : AV} {b : Bool} {v : Value} {R : Bool → Shared → Prop} {h : Heap} (hf : truthAV a = some b) (ra : Rep C h W ρ a v) (hQ : R b s) : wpAny (model C.prog C.w) A (truthy v) R E s := by
  unfold truthAV at hf
  split at hf
  · cases hf; cases ra; exact truthy_none hQ
  · cases hf; cases ra; exact wpAny_truthy_bool hQ
  · cases hf; obtain ⟨t, rfl⟩ := ra; exact P.truthy_int hQ
  · cases hf
end

theorem Good.room {d : Nat} {A : Around} (G : Good d A) : A.units < cLine := by have := G.un; show A.units < 9900; omega

section
variable {C : Cx} {d : Nat} {sc : List (Str × NameKind)} {vt : VT}
theorem ev_bin {l r : Expr} {op : Operator} {pos : Pos} {f g : SE} (hl : EvT C d sc vt l f) (hr : EvT C d sc vt r g) :
    EvT C d sc vt (.BinOp l op r pos) (fun fm st => (f fm st).bind fun a => (g fm st).bind fun b => binAV st op a b) := by
  intro A env own W ρ fm sto s av Q E G S I hf hQ
  obtain ⟨a, ha, hf⟩ := Option.bind_eq_some_iff.mp hf
  obtain ⟨b, hb, hf⟩ := Option.bind_eq_some_iff.mp hf
  refine wpAny_BinOp (hl G S I ha fun va h₁ t₁ k₁ r₁ => ?_)
  refine hr G S (s := { s with heap := h₁, toks := t₁ }) (I.keep k₁) hb fun vb h₂ t₂ k₂ r₂ => ?_
  refine bin_sound (s := { s with heap := h₂, toks := t₂ }) ((I.keep k₁).keep k₂).st ((I.keep k₁).keep k₂).newW hf (r₁.keep k₂) r₂ fun v h₃ t₃ k₃ r₃ => ?_
  exact hQ v h₃ t₃ ((k₁.trans k₂).trans k₃) r₃
theorem ev_cmp {l r : Expr} {op : CmpOp} {pos : Pos} {f g : SE} (hl : EvT C d sc vt l f) (hr : EvT C d sc vt r g) (hm : behindInMarks op r = false) :
    EvT C d sc vt (.Compare l [op] [r] pos) (fun fm st => (f fm st).bind fun a => (g fm st).bind fun b => (cmpAV st op a b).map .bool) := by
  intro A env own W ρ fm sto s av Q E G S I hf hQ
  obtain ⟨a, ha, hf⟩ := Option.bind_eq_some_iff.mp hf
  obtain ⟨b, hb, hf⟩ := Option.bind_eq_some_iff.mp hf
  obtain ⟨c, hc, rfl⟩ := Option.map_eq_some_iff.mp hf
  refine wpAny_Compare1 (hl G S I ha fun va h₁ t₁ k₁ r₁ => ?_) hm
  refine hr G S (s := { s with heap := h₁, toks := t₁ }) (I.keep k₁) hb fun vb h₂ t₂ k₂ r₂ => ?_
  exact cmp_sound (s := { s with heap := h₂, toks := t₂ }) G.room ((I.keep k₁).keep k₂).st hc (r₁.keep k₂) r₂ (hQ _ h₂ t₂ (k₁.trans k₂) rfl)
theorem ts_cmp {l r : Expr} {op : CmpOp} {pos : Pos} {f g : SE} (hl : EvT C d sc vt l f) (hr : EvT C d sc vt r g) (hm : behindInMarks op r = false) :
    TsT C d sc vt (.Compare l [op] [r] pos) (fun fm st => (f fm st).bind fun a => (g fm st).bind fun b => cmpAV st op a b) := by
  intro A env own W ρ fm sto s av Q E G S I hf hQ
  obtain ⟨a, ha, hf⟩ := Option.bind_eq_some_iff.mp hf
  obtain ⟨b, hb, hf⟩ := Option.bind_eq_some_iff.mp hf
  refine wpAny_isTrue_Compare1 (hl G S I ha fun va h₁ t₁ k₁ r₁ => ?_) hm
  refine hr G S (s := { s with heap := h₁, toks := t₁ }) (I.keep k₁) hb fun vb h₂ t₂ k₂ r₂ => ?_
  exact cmp_sound (s := { s with heap := h₂, toks := t₂ }) G.room ((I.keep k₁).keep k₂).st hf (r₁.keep k₂) r₂ (wpAny_truthy_bool (hQ h₂ t₂ (k₁.trans k₂)))
theorem ts_val {e : Expr} {f : SE} (h : EvT C d sc vt e f) (he : ∀ env, isTrue e env (eval e env) = (do let v ← eval e env; standAt e.pos; holding [v] (truthy v))) :
    TsT C d sc vt e (fun fm st => (f fm st).bind truthAV) := by
  intro A env own W ρ fm sto s av Q E G S I hf hQ
  obtain ⟨a, ha, hf⟩ := Option.bind_eq_some_iff.mp hf
  refine wpAny_isTrue_value (h G S I ha fun va h₁ t₁ k₁ r₁ => ?_) (he env)
  exact truth_sound (s := { s with heap := h₁, toks := t₁ }) hf r₁ (hQ h₁ t₁ k₁)
theorem ts_and2 {x y : Expr} {pos : Pos} {f g : ST} (hx : TsT C d sc vt x f) (hy : TsT C d sc vt y g) :
    TsT C d sc vt (.BoolOp .And [x, y] pos) (fun fm st => (f fm st).bind fun a => if a then g fm st else some false) := by
  intro A env own W ρ fm sto s av Q E G S I hf hQ
  obtain ⟨a, ha, hf⟩ := Option.bind_eq_some_iff.mp hf
  refine wpAny_isTrue_BoolOp (wpAny_allTrue_And_cons (hx G S I ha fun h₁ t₁ k₁ => ?_))
  cases a with
  | false => cases hf; exact hQ h₁ t₁ k₁
  | true =>
    refine wpAny_allTrue_And_cons (hy (s := { s with heap := h₁, toks := t₁ }) G S (I.keep k₁) hf fun h₂ t₂ k₂ => ?_)
    cases av with
    | false => exact hQ h₂ t₂ (k₁.trans k₂)
    | true => exact wpAny_allTrue_And_nil (hQ h₂ t₂ (k₁.trans k₂))
theorem ev_and2 {x y : Expr} {pos : Pos} {f g : SE} (hx : EvT C d sc vt x f) (hy : EvT C d sc vt y g) :
    EvT C d sc vt (.BoolOp .And [x, y] pos) (fun fm st => (f fm st).bind fun a => (truthAV a).bind fun b => if b then g fm st else some a) := by
  intro A env own W ρ fm sto s av Q E G S I hf hQ
  obtain ⟨a, ha, hf⟩ := Option.bind_eq_some_iff.mp hf
  obtain ⟨b, hb, hf⟩ := Option.bind_eq_some_iff.mp hf
  refine wpAny_And2 (hx G S I ha fun va h₁ t₁ k₁ r₁ => ?_)
  refine truth_sound (s := { s with heap := h₁, toks := t₁ }) hb r₁ ?_
  cases b with
  | false => cases hf; exact hQ va h₁ t₁ k₁ r₁
  | true => exact hy (s := { s with heap := h₁, toks := t₁ }) G S (I.keep k₁) hf fun v h₂ t₂ k₂ r₂ => hQ v h₂ t₂ (k₁.trans k₂) r₂
end

noncomputable def lget : List AV → Nat → Option AV
  | [], _ => none
  | a :: _, 0 => some a
  | _ :: l, k + 1 => lget l k
theorem lget_eq : ∀ (l : List AV) (k : Nat), lget l k = l[k]?
  | [], k => by simp [lget]
  | m :: l, 0 => by simp [lget]
  | m :: l, k + 1 => by simpa [lget] using lget_eq l k
noncomputable def nget : List Nat → Nat → Option Nat
  | [], _ => none
  | a :: _, 0 => some a
  | _ :: l, k + 1 => nget l k
theorem nget_eq : ∀ (l : List Nat) (k : Nat), nget l k = l[k]?
  | [], k => by simp [nget]
  | m :: l, 0 => by simp [nget]
  | m :: l, k + 1 => by simpa [nget] using nget_eq l k
noncomputable def dget : List (List Nat) → List AV → List Nat → Option AV
  | k :: ks, v :: vs, x => if x == k then some v else dget ks vs x
  | _, _, _ => none
theorem dget_sound {C : Cx} {h : Heap} {W : List Addr} {ρ : List (List Addr)} : ∀ {ks : List (List Nat)} {fs : List AV} {vs : List Value} {x : List Nat} {a : AV}, Reps C h W ρ fs vs → dget ks fs x = some a →
    ∃ v, atKey ks vs ⟨x.toArray⟩ = some v ∧ Rep C h W ρ a v
  | [], _, _, _, _, _, e => by simp [dget] at e
  | k :: ks, [], _, _, _, _, e => by simp [dget] at e
  | k :: ks, f :: fs, _, x, a, ⟨v, r, e1, e2, e3⟩, e => by
    subst e1
    unfold dget at e
    unfold atKey
    by_cases q : x = k
    · subst q; simp at e; subst e; exact ⟨v, by simp, e2⟩
    · have q1 : ¬ (x == k) = true := by simpa using q
      rw [if_neg q1] at e
      have q2 : ¬ ((⟨x.toArray⟩ : Str) = ⟨k.toArray⟩) := fun z => q (by injection z with z; simpa using z)
      rw [if_neg q2]
      exact dget_sound e3 e

/-- items -/
noncomputable def itemAV (st : Sto) (a b : AV) : Option AV :=
  match a, b with
  | .str s, .int i => if decide (-4096 ≤ i) && decide (i ≤ 4096) then ((seqIndex? i s.length).bind (nget s)).map fun c => .str [c] else none
  | .tuple l, .int i => if decide (0 ≤ i) && decide (i ≤ 4096) then lget l i.toNat else none
  | .dict ks vs, .str k => dget ks vs k
  | a, .int i => if decide (0 ≤ i) && decide (i ≤ 4096) then (listOf? st a).bind fun l => lget l i.toNat else none
  | _, _ => none

section
variable {C : Cx} {W : List Addr} {ρ : List (List Addr)} {st : Sto} {A : Around} {s : Shared} {Q : Value → Shared → Prop} {E : Value → Shared → Prop}
theorem charAt_of {x : List Nat} {i : Int} {c : Nat} (h : (seqIndex? i x.length).bind (nget x) = some c) : Txt.charAt ⟨x.toArray⟩ i = some c := by
  unfold Txt.charAt
  have hlen : (⟨x.toArray⟩ : Str).length = x.length := rfl
  rw [hlen]
  obtain ⟨k, h1, h2⟩ := Option.bind_eq_some_iff.mp h
  rw [h1]
  rw [nget_eq] at h2
  simpa using h2
theorem item_sound {a b c : AV} {va vb : Value} {value slice : Expr} (hs : StoRep C s.heap W ρ st) (hf : itemAV st a b = some c) (ra : Rep C s.heap W ρ a va) (rb : Rep C s.heap W ρ b vb)
    (hsub : ∀ o i, subscripted slice false o i = operate [o, i] (getItem o i))
    (hQ : ∀ v tk, Rep C s.heap W ρ c v → Q v { s with toks := tk }) : wpAny (model C.prog C.w) A (subscriptTail value slice va vb) Q E s := by
  unfold itemAV at hf
  split at hf
  · split at hf
    · rename_i x i q
      simp only [Bool.and_eq_true, decide_eq_true_eq] at q
      obtain ⟨ch, hc, rfl⟩ := Option.map_eq_some_iff.mp hf
      obtain ⟨t, rfl⟩ := ra; obtain ⟨u, rfl⟩ := rb
      have hch := charAt_of hc
      refine tail_any (typeIs_str s _ _) PySem.F.slot_str_getitem.lookup (SB.getItem ?_ (by rw [hch]; rfl) ?_) (hsub _ _)
      · unfold fitsSsize; simp; omega
      · have : Txt.item ⟨x.toArray⟩ i = ⟨#[ch]⟩ := by unfold Txt.item; rw [hch]; rfl
        rw [this]
        exact hQ _ _ ⟨_, rfl⟩
    · cases hf
  · split at hf
    · rename_i l i q
      simp only [Bool.and_eq_true, decide_eq_true_eq] at q
      obtain ⟨a1, vs, rfl, hW, ⟨n, l1⟩, r1⟩ := ra
      obtain ⟨u, rfl⟩ := rb
      rw [lget_eq] at hf
      obtain ⟨v, hv, r2⟩ := r1.get hf
      have hl := (List.getElem?_eq_some_iff.mp hv).1
      refine tail_any (T := "tuple") ⟨_, l1, rfl⟩ PySem.F.slot_tuple_getitem.lookup (P.getItem_tuple (k := i.toNat) (y := v) l1 (by omega) (by omega) ?_ (by simpa using hv) (hQ v s.toks r2)) (hsub _ _)
      unfold seqIndex?
      rw [List.size_toArray]
      have h1 : ¬ i < 0 := by omega
      simp only [h1, if_false]
      have h2 : i < vs.length := by omega
      simp [q.1, h2]
    · cases hf
  · rename_i ks fs k
    obtain ⟨a1, vs, rfl, hW, m, r1⟩ := ra
    obtain ⟨u, rfl⟩ := rb
    obtain ⟨v, hv, r2⟩ := dget_sound r1 hf
    exact tail_any m.typeIs slot_dict_getitem.lookup (wpAny_getItem_of (strKind_is C.prog C.w _ _) m hv (hQ v _ r2)) (hsub _ _)
  · split at hf
    · rename_i i _ _ q
      simp only [Bool.and_eq_true, decide_eq_true_eq] at q
      obtain ⟨l, hl, hf⟩ := Option.bind_eq_some_iff.mp hf
      obtain ⟨a1, vs, rfl, l1, r1⟩ := listOf_sound hl ra hs
      obtain ⟨u, rfl⟩ := rb
      rw [lget_eq] at hf
      obtain ⟨v, hv, r2⟩ := r1.get hf
      exact tail_any l1.isList.typeIs slot_list_getitem.lookup (wpAny_getItem_list l1.isList q.1 (by omega) (by simpa using hv) (hQ v s.toks r2)) (hsub _ _)
    · cases hf
  · cases hf
end
section
variable {C : Cx} {d : Nat} {sc : List (Str × NameKind)} {vt : VT}
theorem ev_sub {value slice : Expr} {pos : Pos} {f g : SE} (hl : EvT C d sc vt value f) (hr : EvT C d sc vt slice g) (hsub : ∀ o i, subscripted slice false o i = operate [o, i] (getItem o i)) :
    EvT C d sc vt (.Subscript value slice pos) (fun fm st => (f fm st).bind fun a => (g fm st).bind fun b => itemAV st a b) := by
  intro A env own W ρ fm sto s av Q E G S I hf hQ
  obtain ⟨a, ha, hf⟩ := Option.bind_eq_some_iff.mp hf
  obtain ⟨b, hb, hf⟩ := Option.bind_eq_some_iff.mp hf
  refine Subscript_ (hl G S I ha fun va h₁ t₁ k₁ r₁ => ?_)
  refine hr G S (s := { s with heap := h₁, toks := t₁ }) (I.keep k₁) hb fun vb h₂ t₂ k₂ r₂ => ?_
  exact item_sound (s := { s with heap := h₂, toks := t₂ }) ((I.keep k₁).keep k₂).st hf (r₁.keep k₂) r₂ hsub fun v tk r => hQ v h₂ tk (k₁.trans k₂) r
end

abbrev SP := Fm → Sto → Option (Option Int)
noncomputable def PaT (C : Cx) (d : Nat) (sc : List (Str × NameKind)) (vt : VT) (p : Option Expr) (f : SP) : Prop :=
  ∀ {A : Around} {env : Env} {own W : List Addr} {ρ : List (List Addr)} {fm : Fm} {sto : Sto} {s : Shared} {o : Option Int} {Q : Value → Shared → Prop} {E : Value → Shared → Prop},
    Good d A → Stat sc env → Inv C vt env own W ρ fm sto s.heap → f fm sto = some o →
    (∀ v h' tk, Kp s.heap h' → IsPart v o → Q v { s with heap := h', toks := tk }) → wpAny (model C.prog C.w) A (evalPart p env) Q E s

noncomputable def bsl (b : List UInt8) (lo hi : Option Int) : List UInt8 := (b.drop (lo.elim 0 (clipAt b.length))).take (hi.elim b.length (clipAt b.length) - lo.elim 0 (clipAt b.length))
/-- slices -/
noncomputable def sliceAV (st : Sto) (a : AV) (lo hi stp : Option Int) : Option AV :=
  match a with
  | .str s => if s.length ≤ 4096 && !(stp.getD 1 == 0) then some (.str (if stp.getD 1 == 1 && (Builtin.Str.strSliceIndices lo hi (stp.getD 1) s.length).length == s.length then s else (Builtin.Str.strSliceIndices lo hi (stp.getD 1) s.length).filterMap (s[·]?))) else none
  | .bytes s => match stp with
    | none => if s.length ≤ 4096 then some (.bytes (bsl s lo hi)) else none
    | _ => none
  | a => (listOf? st a).bind fun l => if l.length ≤ 4096 && !(stp == some 0) then
      some (.list ((sliceRange (sliceBounds lo hi stp l.length).1 (sliceBounds lo hi stp l.length).2.1 (sliceBounds lo hi stp l.length).2.2).filterMap (l[·]?))) else none
section
variable {C : Cx} {W : List Addr} {ρ : List (List Addr)} {st : Sto} {A : Around} {s : Shared} {Q : Value → Shared → Prop} {E : Value → Shared → Prop}
theorem Reps.pick {h : Heap} {l : List AV} {vs : List Value} (x : Reps C h W ρ l vs) : ∀ is : List Nat, Reps C h W ρ (is.filterMap (l[·]?)) (is.filterMap (vs[·]?))
  | [] => rfl
  | i :: is => by
    rw [List.filterMap_cons, List.filterMap_cons]
    cases q : l[i]? with
    | none =>
      have : vs[i]? = none := by rw [List.getElem?_eq_none_iff] at q ⊢; rw [x.length]; exact q
      rw [this]; exact Reps.pick x is
    | some a =>
      obtain ⟨v, h1, h2⟩ := x.get q
      rw [h1]; exact ⟨v, _, rfl, h2, Reps.pick x is⟩
theorem isPart_tok {v : Value} {o : Option Int} (x : IsPart v o) : ∃ p : Option (Int × Tok), v = partValue p ∧ p.map (·.1) = o := by
  cases x with
  | none => exact ⟨none, rfl, rfl⟩
  | int i t => exact ⟨some (i, t), rfl, rfl⟩
theorem slice_sound {a c : AV} {va vl vu vs : Value} {lo hi stp : Option Int} {value slice : Expr} (hs : StoRep C s.heap W ρ st) (hnew : s.heap.objs.size ∉ W) (hnew2 : s.heap.objs.size + 1 ∉ W) (hf : sliceAV st a lo hi stp = some c) (ra : Rep C s.heap W ρ a va)
    (pl : IsPart vl lo) (pu : IsPart vu hi) (ps : IsPart vs stp)
    (hsub : ∀ o i, subscripted slice false o i = operate [i, o] (getItem o i) ∨ subscripted slice false o i = operate [o, i] (getItem o i))
    (hQ : ∀ v h' tk, Kp s.heap h' → Rep C h' W ρ c v → Q v { s with heap := h', toks := tk }) :
    wpAny (model C.prog C.w) A (subscriptTail value slice va (.ref s.heap.objs.size)) Q E { s with heap := s.heap.push { cls := .type "slice", data := .fields #[vl, vu, vs] } } := by
  have tail : ∀ {o i : Value} {T id : String} {s' : Shared}, s'.TypeIs o T → typeLookup (.type T) "__getitem__" = pure (some (.builtin id)) → wpAny (model C.prog C.w) A (getItem o i) Q E s' →
      wpAny (model C.prog C.w) A (subscriptTail value slice o i) Q E s' := fun {o i T id s'} h1 h2 h3 => by
    rcases hsub o i with q | q
    · exact tail_any h1 h2 h3 q
    · exact tail_any h1 h2 h3 q
  have kp := Kp.push s.heap { cls := .type "slice", data := .fields #[vl, vu, vs] }
  unfold sliceAV at hf
  split at hf
  · split at hf <;> cases hf
    rename_i x q
    simp only [Bool.and_eq_true, Bool.not_eq_true'] at q
    have q1 : x.length ≤ 4096 := by simpa using q.1
    obtain ⟨t, rfl⟩ := ra
    obtain ⟨l', rfl, rfl⟩ := isPart_tok pl
    obtain ⟨u', rfl, rfl⟩ := isPart_tok pu
    obtain ⟨s', rfl, rfl⟩ := isPart_tok ps
    refine tail (typeIs_str _ _ _) PySem.F.slot_str_getitem.lookup (wpAny_getItem_str_slice (l := l') (u := u') (st := s') ⟨_, Heap.get?_push_size _ rfl, rfl, rfl⟩ q.2 ?_)
    have hlen : (⟨x.toArray⟩ : Str).length = x.length := rfl
    have le : (Builtin.Str.strSliceIndices (l'.map (·.1)) (u'.map (·.1)) ((s'.map (·.1)).getD 1) x.length).length ≤ x.length := sliceIndicesBy_le _ _ _ (by simpa using q.2) _
    unfold sliceMade slicePicked
    rw [hlen]
    refine post_val_or_str ⟨?_, fun t' k => ?_⟩
    · rw [sizeLine_eq]
      split
      · rw [hlen]; omega
      · show List.length _ ≤ _
        exact Nat.le_trans (List.length_filterMap_le _ _) (by omega)
    · refine hQ _ _ k kp ⟨t', ?_⟩
      split
      · rfl
      · congr 3
        rw [show (fun i : Nat => (⟨x.toArray⟩ : Str).cps[i]?) = fun i : Nat => x[i]? from funext fun i => by simp]
  · split at hf
    · split at hf <;> cases hf
      rename List UInt8 => x
      rename x.length ≤ 4096 => q
      obtain ⟨t, rfl⟩ := ra
      cases ps
      refine tail (typeIs_bytes _ _ _) FB.slot_bytes_getitem.lookup (getItem_meets (typeIs_bytes _ _ _) (by decide) FB.slot_bytes_getitem FB.entry_bytes_getitem (FB.args_bytes_getitem_2 _ _) (KBc.meets_slice2 x.toArray t _ pl pu)
        ⟨Heap.IsSliceOf.new _ _ _ _, Nat.le_trans (KBc.size_picked_le _ _ _) (by rw [sizeLine_eq, List.size_toArray]; omega), fun t' k => hQ _ _ k kp ⟨t', ?_⟩⟩)
      rw [KBc.picked_eq]
      simp [bsl]
    · cases hf
  · obtain ⟨l, hl, hf⟩ := Option.bind_eq_some_iff.mp hf
    split at hf <;> cases hf
    rename_i q
    simp only [Bool.and_eq_true, Bool.not_eq_true', decide_eq_true_eq] at q
    obtain ⟨a1, ws, rfl, l1, r1⟩ := listOf_sound hl ra hs
    have hlen := r1.length
    refine tail (T := "list") ⟨_, kp _ _ l1.choose_spec, rfl⟩ slot_list_getitem.lookup (wpAny_getItem_list_slice (s := { s with heap := s.heap.push _ }) ((PlainList.isList l1).push _) (Heap.IsSliceOf.new ..) pl pu ps (by simpa using q.2) ?_ (by rw [sizeLine_eq, List.size_toArray]; omega))
    refine hQ _ _ s.toks (kp.trans (Kp.push _ _)) ⟨_, (slicePick ws.toArray lo hi stp).toList, rfl, by rw [Heap.size_push]; exact hnew2, ⟨_, Heap.get?_push_size _ rfl⟩, ?_⟩
    have e : (slicePick ws.toArray lo hi stp).toList = (sliceRange (sliceBounds lo hi stp l.length).1 (sliceBounds lo hi stp l.length).2.1 (sliceBounds lo hi stp l.length).2.2).filterMap (ws[·]?) := by
      unfold slicePick
      rw [List.size_toArray, hlen]
      simp
    rw [e]
    exact (r1.pick _).keep (kp.trans (Kp.push _ _))
end
section
variable {C : Cx} {d : Nat} {sc : List (Str × NameKind)} {vt : VT}
theorem pa_none : PaT C d sc vt none (fun _ _ => some none) := by
  intro A env own W ρ fm sto s o Q E G S I hf hQ; cases hf
  exact wpAny_evalPart_none (hQ _ s.heap s.toks (Kp.refl _) .none)
theorem pa_some {e : Expr} {f : SE} (h : EvT C d sc vt e f) : PaT C d sc vt (some e) (fun fm st => (f fm st).bind fun a => match a with | .int i => some (some i) | _ => none) := by
  intro A env own W ρ fm sto s o Q E G S I hf hQ
  obtain ⟨a, ha, hf⟩ := Option.bind_eq_some_iff.mp hf
  split at hf <;> cases hf
  refine wpAny_evalPart_some (h G S I ha fun v h₁ t₁ k₁ r₁ => ?_)
  obtain ⟨t, rfl⟩ := r₁
  exact hQ _ h₁ t₁ k₁ (.int _ t)
theorem ev_slice {value : Expr} {lower upper step : Option Expr} {pos p : Pos} {f : SE} {gl gu gs : SP} (hl : EvT C d sc vt value f) (h1 : PaT C d sc vt lower gl) (h2 : PaT C d sc vt upper gu) (h3 : PaT C d sc vt step gs)
    (hsub : ∀ o i, subscripted (.Slice lower upper step p) false o i = operate [i, o] (getItem o i) ∨ subscripted (.Slice lower upper step p) false o i = operate [o, i] (getItem o i)) :
    EvT C d sc vt (.Subscript value (.Slice lower upper step p) pos) (fun fm st => (f fm st).bind fun a => (gl fm st).bind fun lo => (gu fm st).bind fun hi => (gs fm st).bind fun stp => sliceAV st a lo hi stp) := by
  intro A env own W ρ fm sto s av Q E G S I hf hQ
  obtain ⟨a, ha, hf⟩ := Option.bind_eq_some_iff.mp hf
  obtain ⟨lo, hlo, hf⟩ := Option.bind_eq_some_iff.mp hf
  obtain ⟨hi, hhi, hf⟩ := Option.bind_eq_some_iff.mp hf
  obtain ⟨stp, hst, hf⟩ := Option.bind_eq_some_iff.mp hf
  refine Subscript_ (hl G S I ha fun va h₁ t₁ k₁ r₁ => wpAny_Slice ?_)
  refine h1 G S (s := { s with heap := h₁, toks := t₁ }) (I.keep k₁) hlo fun vl g₂ t₂ k₂ p₂ => ?_
  refine h2 G S (s := { s with heap := g₂, toks := t₂ }) ((I.keep k₁).keep k₂) hhi fun vu g₃ t₃ k₃ p₃ => ?_
  refine h3 G S (s := { s with heap := g₃, toks := t₃ }) (((I.keep k₁).keep k₂).keep k₃) hst fun vs g₄ t₄ k₄ p₄ => ?_
  have I4 := (((I.keep k₁).keep k₂).keep k₃).keep k₄
  refine slice_sound (s := { s with heap := g₄, toks := t₄ }) I4.st I4.newW ?_ hf (((r₁.keep k₂).keep k₃).keep k₄) p₂ p₃ p₄ hsub fun v h' tk k r => ?_
  · intro q
    obtain ⟨o, e⟩ := I4.live _ q
    exact absurd (Heap.lt_size e) (by show ¬ (g₄.objs.size + 1 < g₄.objs.size); omega)
  · exact hQ v h' tk ((((k₁.trans k₂).trans k₃).trans k₄).trans k) r
end

/-- what a piece of code may change -/
structure Step (o W : List Addr) (ρ : List (List Addr)) (h : Heap) (W' : List Addr) (ρ' : List (List Addr)) (h' : Heap) : Prop where
  upd : ∀ b x, b ∉ o → b ∉ ρ.flatten → h.get? b = some x → h'.get? b = some x
  wsub : ∀ a ∈ W, a ∈ W'
  wnew : ∀ a ∈ W', a ∈ W ∨ h.get? a = none
  rex : ∃ e, ρ' = ρ ++ e ∧ ∀ a ∈ e.flatten, h.get? a = none
section
variable {C : Cx} {vt : VT} {env : Env} {o e own W W' W'' : List Addr} {ρ ρ' ρ'' : List (List Addr)} {fm : Fm} {sto : Sto} {h h' h'' : Heap}
theorem Step.of_kp (k : Kp h h') : Step o W ρ h W ρ h' := ⟨fun b x _ _ e => k b x e, fun _ q => q, fun _ q => .inl q, [], by simp, by simp⟩
theorem Step.trans (a : Step o W ρ h W' ρ' h') (b : Step o W' ρ' h' W'' ρ'' h'') (ho : ∀ x ∈ o, x ∈ W) (hr : ∀ r ∈ ρ, ∀ x ∈ r, x ∈ W) (hl : ∀ x ∈ W', ∃ o, h'.get? x = some o) : Step o W ρ h W'' ρ'' h'' := by
  obtain ⟨e, he, hf⟩ := a.rex
  obtain ⟨e', he', hf'⟩ := b.rex
  have key : ∀ y, h'.get? y = none → h.get? y = none := fun y q => by
    cases g : h.get? y with
    | none => rfl
    | some x =>
      have hw : y ∉ W := fun z => by obtain ⟨u, hu⟩ := hl y (a.wsub _ z); rw [q] at hu; cases hu
      have : h'.get? y = some x := a.upd y x (fun z => hw (ho _ z)) (fun z => by obtain ⟨r, hr1, hr2⟩ := List.mem_flatten.mp z; exact hw (hr r hr1 _ hr2)) g
      rw [q] at this; cases this
  refine ⟨fun y x h1 h2 g => ?_, fun y q => b.wsub _ (a.wsub _ q), fun y q => ?_, e ++ e', by rw [he', he, List.append_assoc], fun y q => ?_⟩
  · refine b.upd y x h1 (fun z => ?_) (a.upd y x h1 h2 g)
    rw [he, List.flatten_append, List.mem_append] at z
    rcases z with z | z
    · exact h2 z
    · rw [hf y z] at g; cases g
  · rcases b.wnew y q with q | q
    · exact a.wnew y q
    · exact .inr (key y q)
  · rw [List.flatten_append, List.mem_append] at q
    rcases q with q | q
    · exact hf y q
    · exact key y (hf' y q)
theorem Step.keepW (a : Step o W ρ h W' ρ' h') (ho : ∀ x ∈ o, x ∈ W) (hr : ∀ r ∈ ρ, ∀ x ∈ r, x ∈ W) : ∀ b x, b ∉ W → h.get? b = some x → h'.get? b = some x :=
  fun b x hb g => a.upd b x (fun z => hb (ho _ z)) (fun z => by obtain ⟨r, h1, h2⟩ := List.mem_flatten.mp z; exact hb (hr r h1 _ h2)) g
theorem Step.rho (a : Step o W ρ h W' ρ' h') : ∀ (i : Nat) (r : List Addr), ρ[i]? = some r → ρ'[i]? = some r := fun i r q => by
  obtain ⟨e, rfl, _⟩ := a.rex
  rw [List.getElem?_append_left (List.getElem?_eq_some_iff.mp q).1]; exact q
theorem Step.reps (a : Step o W ρ h W' ρ' h') (ho : ∀ x ∈ o, x ∈ W) (hr : ∀ r ∈ ρ, ∀ x ∈ r, x ∈ W) {l : List AV} {vs : List Value} (x : Reps C h W ρ l vs) : Reps C h' W' ρ' l vs :=
  Reps.mono (a.keepW ho hr) a.wnew a.rho _ _ x
theorem Step.rep (a : Step o W ρ h W' ρ' h') (ho : ∀ x ∈ o, x ∈ W) (hr : ∀ r ∈ ρ, ∀ x ∈ r, x ∈ W) {l : AV} {v : Value} (x : Rep C h W ρ l v) : Rep C h' W' ρ' l v :=
  Rep.mono (a.keepW ho hr) a.wnew a.rho _ _ x

theorem nodup_apart {l m : List Addr} (x : (l ++ m).Nodup) {a : Addr} (h1 : a ∈ l) (h2 : a ∈ m) : False :=
  (List.nodup_append.mp x).2.2 a h1 a h2 rfl

theorem ns_not_cell {a : Addr} {m : Str → Option Value} {v : Option Value} (x : h.Ns a m) (y : h.IsCell a v) : False := by
  obtain ⟨o, es, ep, h1, h2, _⟩ := x
  obtain ⟨o', h3, h4⟩ := y
  rw [h1] at h3; cases h3
  rw [h2] at h4; cases h4

theorem vt_name {k k' : Nat} {x : Str} {a b : VK} (hn : (vt.map (·.1)).Nodup) (h1 : vt[k]? = some (x, a)) (h2 : vt[k']? = some (x, b)) : k = k' := by
  have e1 : (vt.map (·.1))[k]? = some x := by rw [List.getElem?_map, h1]; rfl
  have e2 : (vt.map (·.1))[k']? = some x := by rw [List.getElem?_map, h2]; rfl
  have l1 := (List.getElem?_eq_some_iff.mp e1).1
  exact (List.getElem?_inj l1 hn).mp (e1.trans e2.symm)

theorem Inv.storeLoc (I : Inv C vt env own W ρ fm sto h) {k : Nat} {x : Str} {av : AV} {v : Value} (hv : vt[k]? = some (x, VK.loc)) (r : Rep C h W ρ av v) {m : Str → Option Value} (hm : h.Ns env.locals m)
    (hm' : ∀ (k : Nat) (x : Str) (av : AV), vt[k]? = some (x, VK.loc) → fm[k]? = some (some av) → ∃ v, m x = some v ∧ Rep C h W ρ av v)
    (hn : h'.Ns env.locals (fun y => if y = x then some v else m y)) (hs : Heap.SameBut env.locals h h') : Inv C vt env own W ρ (fset fm k av) sto h' := by
  have keep : ∀ b o, b ≠ env.locals → h.get? b = some o → h'.get? b = some o := fun b o hb e => hs.extBut b o hb e
  have keepW : ∀ b o, b ∉ W → h.get? b = some o → h'.get? b = some o := fun b o hb e => keep b o (fun q => hb (q ▸ I.ownW _ I.locO)) e
  have rr : ∀ {a : AV} {u : Value}, Rep C h W ρ a u → Rep C h' W ρ a u := fun z => Rep.mono keepW (fun _ q => .inl q) (fun _ _ e => e) _ _ z
  refine ⟨?_, ⟨⟨_, hn, fun k' x' a' h1 h2 => ?_⟩, fun k' x' vk h1 h2 => ?_, I.fr.apart, I.fr.names, by rw [fset_len]; exact I.fr.len⟩, fun i mo e => ?_, I.ownW, I.rhoW, I.locO, fun a q => ?_, I.nod, I.rlen⟩
  · obtain ⟨a, b, c⟩ := I.base
    refine ⟨a, fun y o e => keep y o (fun q => ?_) (b y o e), c⟩
    have := c env.locals (List.mem_append_left _ I.locO)
    rw [q, this] at e; cases e
  · rcases fset_get fm k av k' a' h2 with ⟨h3, h4⟩ | ⟨h3, h4⟩
    · subst h3 h4
      rw [hv] at h1; cases h1
      exact ⟨v, by simp, rr r⟩
    · have hx : x' ≠ x := fun q => h3 (vt_name I.fr.names (q ▸ h1) hv)
      obtain ⟨u, h5, h6⟩ := hm' k' x' a' h1 h4
      exact ⟨u, by rw [if_neg hx]; exact h5, rr h6⟩
  · obtain ⟨a, u, h3, h4, h5, h6⟩ := I.fr.cel k' x' vk h1 h2
    have hne : a ≠ env.locals := fun q => ns_not_cell hm (q ▸ h4)
    refine ⟨a, u, h3, h4.sameBut hs hne, h5, fun a' h7 => ?_⟩
    rcases fset_get fm k av k' a' h7 with ⟨h8, h9⟩ | ⟨h8, h9⟩
    · subst h8; rw [hv] at h1; cases h1; exact absurd rfl h2
    · obtain ⟨w, h10, h11⟩ := h6 a' h9
      exact ⟨w, h10, rr h11⟩
  · obtain ⟨as, h1, h2⟩ := I.st i mo e
    refine ⟨as, h1, h2.mono keepW (fun _ q => .inl q) (fun _ _ e => e) fun a ha o e => keep a o (fun q => ?_) e⟩
    exact nodup_apart I.nod I.locO (List.mem_flatten.mpr ⟨as, List.mem_of_getElem? h1, q ▸ ha⟩)
  · by_cases q' : a = env.locals
    · obtain ⟨o, _, _, e, _⟩ := hn
      exact ⟨o, q' ▸ e⟩
    · obtain ⟨o, e⟩ := I.live a q
      exact ⟨o, keep a o q' e⟩

theorem Inv.storeCel (I : Inv C vt env own W ρ fm sto h) {k : Nat} {x : Str} {av : AV} {v : Value} {c : Addr} (hv : vt[k]? = some (x, VK.own)) (r : Rep C h W ρ av v) (hc : env.cells.lookup x = some c)
    (hn : h'.IsCell c (some v)) (hs : Heap.SameBut c h h') : Inv C vt env own W ρ (fset fm k av) sto h' := by
  obtain ⟨c', v₀, e1, hcell, e2, _⟩ := I.fr.cel k x .own hv (by simp)
  rw [hc] at e1; cases e1
  have hco := e2 rfl
  have keep : ∀ b o, b ≠ c → h.get? b = some o → h'.get? b = some o := fun b o hb e => hs.extBut b o hb e
  have keepW : ∀ b o, b ∉ W → h.get? b = some o → h'.get? b = some o := fun b o hb e => keep b o (fun q => hb (q ▸ I.ownW _ hco)) e
  have rr : ∀ {a : AV} {u : Value}, Rep C h W ρ a u → Rep C h' W ρ a u := fun z => Rep.mono keepW (fun _ q => .inl q) (fun _ _ e => e) _ _ z
  obtain ⟨m, hm, hm'⟩ := I.fr.loc
  have hne : env.locals ≠ c := fun q => ns_not_cell hm (q ▸ hcell)
  refine ⟨?_, ⟨⟨_, hm.sameBut hs hne, fun k' x' a' h1 h2 => ?_⟩, fun k' x' vk h1 h2 => ?_, I.fr.apart, I.fr.names, by rw [fset_len]; exact I.fr.len⟩, fun i mo e => ?_, I.ownW, I.rhoW, I.locO, fun a q => ?_, I.nod, I.rlen⟩
  · obtain ⟨a, b, c'⟩ := I.base
    refine ⟨a, fun y o e => keep y o (fun q => ?_) (b y o e), c'⟩
    have := c' c (List.mem_append_left _ hco)
    rw [q, this] at e; cases e
  · rcases fset_get fm k av k' a' h2 with ⟨h3, h4⟩ | ⟨h3, h4⟩
    · subst h3; rw [hv] at h1; cases h1
    · obtain ⟨u, h5, h6⟩ := hm' k' x' a' h1 h4
      exact ⟨u, h5, rr h6⟩
  · obtain ⟨a, u, h3, h4, h5, h6⟩ := I.fr.cel k' x' vk h1 h2
    by_cases hk : k' = k
    · subst hk
      rw [hv] at h1; cases h1
      rw [hc] at h3; cases h3
      refine ⟨c, some v, hc, hn, h5, fun a' h7 => ?_⟩
      rcases fset_get fm k' av k' a' h7 with ⟨_, h9⟩ | ⟨h8, _⟩
      · subst h9; exact ⟨v, rfl, rr r⟩
      · exact absurd rfl h8
    · have hne' : a ≠ c := I.fr.apart k' k x' x vk .own a c h1 hv h2 (by simp) hk h3 hc
      refine ⟨a, u, h3, h4.sameBut hs hne', h5, fun a' h7 => ?_⟩
      rcases fset_get fm k av k' a' h7 with ⟨h8, h9⟩ | ⟨h8, h9⟩
      · exact absurd h8 hk
      · obtain ⟨w, h10, h11⟩ := h6 a' h9
        exact ⟨w, h10, rr h11⟩
  · obtain ⟨as, h1, h2⟩ := I.st i mo e
    refine ⟨as, h1, h2.mono keepW (fun _ q => .inl q) (fun _ _ e => e) fun a ha o e => keep a o (fun q => ?_) e⟩
    exact nodup_apart I.nod hco (List.mem_flatten.mpr ⟨as, List.mem_of_getElem? h1, q ▸ ha⟩)
  · by_cases q' : a = c
    · obtain ⟨o, e, _⟩ := hn
      exact ⟨o, q' ▸ e⟩
    · obtain ⟨o, e⟩ := I.live a q
      exact ⟨o, keep a o q' e⟩

/-- more avoided addresses, all new -/
theorem Inv.grow (I : Inv C vt env own W ρ fm sto h) (k : Kp h h') (hl : ∀ a ∈ W', ∃ o, h'.get? a = some o) (hs : ∀ a ∈ W, a ∈ W')
    (hw : ∀ a ∈ W', a ∈ W ∨ h.get? a = none) : Inv C vt env own W' ρ fm sto h' := by
  have rr : ∀ {a : AV} {u : Value}, Rep C h W ρ a u → Rep C h' W' ρ a u := fun z => Rep.mono (fun b o _ g => k b o g) hw (fun _ _ e => e) _ _ z
  refine ⟨?_, ⟨?_, fun k' x' vk h1 h2 => ?_, I.fr.apart, I.fr.names, I.fr.len⟩, fun i mo g => ?_, fun a q => hs _ (I.ownW a q), fun r q a z => hs _ (I.rhoW r q a z), I.locO, hl, I.nod, I.rlen⟩
  · obtain ⟨a, b, c⟩ := I.base
    exact ⟨a, b.trans k, c⟩
  · obtain ⟨m, a, b⟩ := I.fr.loc
    exact ⟨m, a.keeps k, fun k' x' av h1 h2 => let ⟨v, h3, h4⟩ := b k' x' av h1 h2; ⟨v, h3, rr h4⟩⟩
  · obtain ⟨a, u, h3, h4, h5, h6⟩ := I.fr.cel k' x' vk h1 h2
    exact ⟨a, u, h3, h4.keeps k, h5, fun av z => let ⟨w, p, q⟩ := h6 av z; ⟨w, p, rr q⟩⟩
  · obtain ⟨as, h1, h2⟩ := I.st i mo g
    exact ⟨as, h1, h2.mono (fun b o _ g => k b o g) hw (fun _ _ e => e) fun a _ o g => k a o g⟩

/-- apart from all that the activation holds -/
structure Apart (C : Cx) (vt : VT) (env : Env) (own : List Addr) (ρ : List (List Addr)) (e : List Addr) : Prop where
  own : ∀ a ∈ e, a ∉ own
  rho : ∀ a ∈ e, a ∉ ρ.flatten
  cel : ∀ (i : Nat) (x : Str) (vk : VK) (a : Addr), vt[i]? = some (x, vk) → vk ≠ .loc → env.cells.lookup x = some a → a ∉ e
  base : ∀ a ∈ e, C.h0.get? a = none
theorem Inv.apartOf (I : Inv C vt env own W ρ fm sto h) (he : ∀ a ∈ e, h.get? a = none) : Apart C vt env own ρ e where
  own := fun a q z => by obtain ⟨o, g⟩ := I.live a (I.ownW a z); rw [he a q] at g; cases g
  rho := fun a q z => by obtain ⟨r, p, z⟩ := List.mem_flatten.mp z; obtain ⟨o, g⟩ := I.live a (I.rhoW r p a z); rw [he a q] at g; cases g
  cel := fun i x vk a h1 h2 h3 q => by
    obtain ⟨a', u, h4, ⟨o, g, _⟩, _⟩ := I.fr.cel i x vk h1 h2
    rw [h3] at h4; cases h4
    rw [he a q] at g; cases g
  base := fun a q => by
    cases g : C.h0.get? a with
    | none => rfl
    | some o => have := I.base.2.1 a o g; rw [he a q] at this; cases this
theorem Apart.step (x : Apart C vt env own ρ e) (st : Step o W ρ h W' ρ' h') (hl : ∀ a ∈ e, ∃ o, h.get? a = some o) : Apart C vt env own ρ' e where
  own := x.own
  rho := fun a q z => by
    obtain ⟨f, rfl, hf⟩ := st.rex
    rw [List.flatten_append, List.mem_append] at z
    rcases z with z | z
    · exact x.rho a q z
    · obtain ⟨o, g⟩ := hl a q
      rw [hf a z] at g; cases g
  cel := x.cel
  base := x.base

/-- the avoided part `e` (an iterator's objects) has moved on; `W'` may leave it out -/
theorem Inv.poke (I : Inv C vt env own W ρ fm sto h) (ap : Apart C vt env own ρ e) (heW : ∀ a ∈ e, a ∈ W) (k : ∀ b x, b ∉ e → h.get? b = some x → h'.get? b = some x)
    (hW : ∀ a ∈ W', a ∈ W) (hl : ∀ a ∈ W', a ∈ e → ∃ o, h'.get? a = some o) (hsup : ∀ a ∈ W, a ∉ e → a ∈ W') : Inv C vt env own W' ρ fm sto h' := by
  have keepW : ∀ b o, b ∉ W → h.get? b = some o → h'.get? b = some o := fun b o hb g => k b o (fun q => hb (heW _ q)) g
  have hw : ∀ a, a ∈ W' → a ∈ W ∨ h.get? a = none := fun a q => .inl (hW a q)
  have rr : ∀ {a : AV} {u : Value}, Rep C h W ρ a u → Rep C h' W' ρ a u := fun z => Rep.mono keepW hw (fun _ _ e => e) _ _ z
  refine ⟨?_, ⟨?_, fun k' x' vk h1 h2 => ?_, I.fr.apart, I.fr.names, I.fr.len⟩, fun i mo g => ?_, fun a q => hsup a (I.ownW a q) fun z => ap.own a z q, fun r q a z => hsup a (I.rhoW r q a z) fun y => ap.rho a y (List.mem_flatten.mpr ⟨r, q, z⟩), I.locO, fun a q => ?_, I.nod, I.rlen⟩
  · obtain ⟨a, b, c⟩ := I.base
    refine ⟨a, fun y o g => k y o (fun q => ?_) (b y o g), c⟩
    rw [ap.base y q] at g; cases g
  · obtain ⟨m, a, b⟩ := I.fr.loc
    exact ⟨m, a.at' fun o g => k _ o (fun q => ap.own _ q I.locO) g, fun k' x' av h1 h2 => let ⟨v, h3, h4⟩ := b k' x' av h1 h2; ⟨v, h3, rr h4⟩⟩
  · obtain ⟨a, u, h3, ⟨o, g1, g2⟩, h5, h6⟩ := I.fr.cel k' x' vk h1 h2
    exact ⟨a, u, h3, ⟨o, k a o (ap.cel k' x' vk a h1 h2 h3) g1, g2⟩, h5, fun av z => let ⟨w, p, q⟩ := h6 av z; ⟨w, p, rr q⟩⟩
  · obtain ⟨as, h1, h2⟩ := I.st i mo g
    refine ⟨as, h1, h2.mono keepW hw (fun _ _ e => e) fun a ha o g => k a o (fun q => ?_) g⟩
    exact ap.rho a q (List.mem_flatten.mpr ⟨as, List.mem_of_getElem? h1, ha⟩)
  · by_cases q' : a ∈ e
    · exact hl a q q'
    · obtain ⟨o, g⟩ := I.live a (hW a q)
      exact ⟨o, k a o q' g⟩
end

/-- names that may be bound -/
noncomputable def NmOk (sc : List (Str × NameKind)) (vt : VT) (k : Nat) (x : Str) : Prop :=
  (vt[k]? = some (x, VK.loc) ∧ sc.lookup x = some .local) ∨ (vt[k]? = some (x, VK.own) ∧ sc.lookup x = some .cell)
section
variable {C : Cx} {vt : VT} {sc : List (Str × NameKind)} {env : Env} {own W : List Addr} {ρ : List (List Addr)} {fm : Fm} {sto : Sto} {A : Around} {s : Shared} {E : Value → Shared → Prop}
theorem store_sound {k : Nat} {x : Str} {av : AV} {v : Value} {Q : Unit → Shared → Prop} (nm : NmOk sc vt k x) (S : Stat sc env) (I : Inv C vt env own W ρ fm sto s.heap) (r : Rep C s.heap W ρ av v)
    (hQ : ∀ h' tk, Inv C vt env own W ρ (fset fm k av) sto h' → (∀ b o, b ∉ own → s.heap.get? b = some o → h'.get? b = some o) → Q () { s with heap := h', toks := tk }) : wpAny (model C.prog C.w) A (storeName env x v) Q E s := by
  rcases nm with ⟨hv, hk⟩ | ⟨hv, hk⟩
  · obtain ⟨m, hm, hm'⟩ := I.fr.loc
    refine wpAny_storeName_local (S.kindOf hk) hm (fun h' hn hs => ?_) S.plain
    exact hQ h' _ (I.storeLoc hv r hm hm' hn hs) fun b o hb e => hs.extBut b o (fun q => hb (q ▸ I.locO)) e
  · obtain ⟨c, v₀, hc, hcell, ho, _⟩ := I.fr.cel k x .own hv (by simp)
    refine wpAny_storeName_cell S.kind (S.kindOf hk) hc hcell (fun h' hn hs => ?_)
    exact hQ h' _ (I.storeCel hv r hc hn hs) fun b o hb e => hs.extBut b o (fun q => hb (q ▸ ho rfl)) e

noncomputable def fsets : Fm → List Nat → List AV → Fm
  | fm, k :: ks, a :: as => fsets (fset fm k a) ks as
  | fm, _, _ => fm

/-- targets: a name or two names -/
inductive Tg (sc : List (Str × NameKind)) (vt : VT) : Expr → List Nat → Prop
  | one (k : Nat) (x : Str) (p : Pos) (h : NmOk sc vt k x) : Tg sc vt (.Name x p) [k]
  | two (k l : Nat) (x y : Str) (p q r : Pos) (n : Nat) (h : NmOk sc vt k x) (g : NmOk sc vt l y) : Tg sc vt (.Tuple [.Name x p, .Name y q] n r) [k, l]
noncomputable def Shape (h : Heap) (tg : Expr) (v : Value) (vs : List Value) : Prop :=
  match tg with
  | .Name _ _ => vs = [v]
  | .Tuple _ _ _ => ∃ T, v = .ref T ∧ h.IsTuple T vs.toArray
  | _ => False
theorem assign_sound {tg : Expr} {ks : List Nat} {as : List AV} {v : Value} {vs : List Value} {Q : Unit → Shared → Prop} (t : Tg sc vt tg ks) (hh : A.handled = none) (S : Stat sc env) (I : Inv C vt env own W ρ fm sto s.heap)
    (sh : Shape s.heap tg v vs) (r : Reps C s.heap W ρ as vs) (hl : as.length = ks.length)
    (hQ : ∀ h' tk, Inv C vt env own W ρ (fsets fm ks as) sto h' → (∀ b o, b ∉ own → s.heap.get? b = some o → h'.get? b = some o) → Q () { s with heap := h', toks := tk }) : wpAny (model C.prog C.w) A (assign tg env v) Q E s := by
  cases t with
  | one k x p nm =>
    obtain rfl : vs = [v] := sh
    match as, hl, r with
    | [a], _, r =>
      obtain ⟨u, r', e, r1, r2⟩ := r
      cases e
      exact wpAny_assign_Name (store_sound nm S I r1 hQ)
  | two k l x y p q rr n nm1 nm2 =>
    obtain ⟨T, rfl, ht⟩ := sh
    match as, hl, r with
    | [a, b], _, r =>
      obtain ⟨u, r', e, r1, w, r'', e', r2, e''⟩ := r
      cases e; cases e'; cases e''
      refine wpAny_assign_Tuple hh ht rfl rfl fun h₁ k₁ => ?_
      have kp : Kp s.heap h₁ := fun b o e => k₁ b o (Nat.ne_of_lt (Heap.lt_size e)) e
      show wpAny _ _ (assignInOrder [assign (.Name x p) env, assign (.Name y q) env] [u, w]) Q E _
      refine wpAny_bind (wpAny_holding (wpAny_assign_Name (store_sound (s := { s with heap := h₁ }) nm1 S (I.keep kp) (r1.keep kp) fun h₂ t₂ I₂ k₂ => ?_)))
      have r2' : Rep C h₂ W ρ b w := Rep.mono (fun b o hb e => k₂ b o (fun q => hb (I.ownW _ q)) e) (fun _ q => .inl q) (fun _ _ e => e) _ _ (r2.keep kp)
      refine wpAny_bind (wpAny_holding (wpAny_assign_Name (store_sound (s := { s with heap := h₂, toks := t₂ }) nm2 S I₂ r2' fun h₃ t₃ I₃ k₃ => ?_)))
      exact wpAny_pure (hQ h₃ t₃ I₃ fun b o hb e => k₃ b o hb (k₂ b o hb (kp b o e)))
end

inductive Fl where
  | next
  | brk
  | ret (a : AV)
noncomputable def FlRep (C : Cx) (h : Heap) (W : List Addr) (ρ : List (List Addr)) : Fl → Flow → Prop
  | .next, f => f = .next
  | .brk, f => f = .brk
  | .ret a, f => ∃ v, f = .ret v ∧ Rep C h W ρ a v
abbrev SX := Fm → Sto → Option (Fl × Fm × Sto)

noncomputable def SmT (C : Cx) (d : Nat) (sc : List (Str × NameKind)) (vt : VT) (st : Stmt) (f : SX) : Prop :=
  ∀ {A : Around} {env : Env} {own W : List Addr} {ρ : List (List Addr)} {fm : Fm} {sto : Sto} {s : Shared} {fl : Fl} {fm' : Fm} {sto' : Sto} {Q : Flow → Shared → Prop} {E : Value → Shared → Prop},
    Good d A → Stat sc env → Inv C vt env own W ρ fm sto s.heap → f fm sto = some (fl, fm', sto') →
    (∀ fv W' ρ' h' tk, Inv C vt env own W' ρ' fm' sto' h' → FlRep C h' W' ρ' fl fv → Step own W ρ s.heap W' ρ' h' → Q fv { s with heap := h', toks := tk }) → wpAny (model C.prog C.w) A (exec st env) Q E s
noncomputable def ExT (C : Cx) (d : Nat) (sc : List (Str × NameKind)) (vt : VT) (ss : List Stmt) (f : SX) : Prop :=
  ∀ {A : Around} {env : Env} {own W : List Addr} {ρ : List (List Addr)} {fm : Fm} {sto : Sto} {s : Shared} {fl : Fl} {fm' : Fm} {sto' : Sto} {Q : Flow → Shared → Prop} {E : Value → Shared → Prop},
    Good d A → Stat sc env → Inv C vt env own W ρ fm sto s.heap → f fm sto = some (fl, fm', sto') →
    (∀ fv W' ρ' h' tk, Inv C vt env own W' ρ' fm' sto' h' → FlRep C h' W' ρ' fl fv → Step own W ρ s.heap W' ρ' h' → Q fv { s with heap := h', toks := tk }) → wpAny (model C.prog C.w) A (execs ss env) Q E s

section
variable {C : Cx} {d : Nat} {sc : List (Str × NameKind)} {vt : VT} {env : Env} {own W W' : List Addr} {ρ ρ' : List (List Addr)} {fm : Fm} {sto : Sto} {h h' : Heap}
theorem Inv.same (I : Inv C vt env own W ρ fm sto h) : ∀ {fm' : Fm}, fm' = fm → Inv C vt env own W ρ fm' sto h := fun e => e ▸ I
theorem Step.tr {W'' : List Addr} {ρ'' : List (List Addr)} {h'' : Heap} {fm' : Fm} {sto' : Sto} (a : Step own W ρ h W' ρ' h') (b : Step own W' ρ' h' W'' ρ'' h'') (I : Inv C vt env own W ρ fm sto h) (I' : Inv C vt env own W' ρ' fm' sto' h') :
    Step own W ρ h W'' ρ'' h'' := a.trans b I.ownW I.rhoW I'.live
theorem Step.own_upd (k : ∀ b o, b ∉ own → h.get? b = some o → h'.get? b = some o) : Step own W ρ h W ρ h' := ⟨fun b x h1 _ e => k b x h1 e, fun _ q => q, fun _ q => .inl q, [], by simp, by simp⟩
theorem Step.kp_right (a : Step own W ρ h W' ρ' h') {h'' : Heap} (k : Kp h' h'') : Step own W ρ h W' ρ' h'' := ⟨fun b x h1 h2 e => k _ _ (a.upd b x h1 h2 e), a.wsub, a.wnew, a.rex⟩
theorem Step.kp_left {h₀ : Heap} (k : Kp h₀ h) (a : Step own W ρ h W' ρ' h') : Step own W ρ h₀ W' ρ' h' where
  upd := fun b x h1 h2 e => a.upd b x h1 h2 (k _ _ e)
  wsub := a.wsub
  wnew := fun y q => (a.wnew y q).imp id fun z => by
    cases g : h₀.get? y with
    | none => rfl
    | some o => have := k _ _ g; rw [z] at this; cases this
  rex := let ⟨e, h1, h2⟩ := a.rex; ⟨e, h1, fun y q => by
    cases g : h₀.get? y with
    | none => rfl
    | some o => have := k _ _ g; rw [h2 y q] at this; cases this⟩

theorem ex_nil : ExT C d sc vt [] (fun fm st => some (.next, fm, st)) := by
  intro A env own W ρ fm sto s fl fm' sto' Q E G S I hf hQ; cases hf
  exact wpAny_execs_nil (hQ _ W ρ s.heap s.toks I rfl (.of_kp (Kp.refl _)))
theorem ex_cons {st : Stmt} {ss : List Stmt} {f g : SX} (h1 : SmT C d sc vt st f) (h2 : ExT C d sc vt ss g) :
    ExT C d sc vt (st :: ss) (fun fm sto => match f fm sto with
      | some (.next, fm', sto') => g fm' sto'
      | r => r) := by
  intro A env own W ρ fm sto s fl fm' sto' Q E G S I hf hQ
  simp only at hf
  split at hf
  · rename_i fm₁ sto₁ hf1
    refine wpAny_execs_cons (h1 G S I hf1 fun fv W₁ ρ₁ h₁ t₁ I₁ r₁ st₁ => ?_)
    obtain rfl : fv = .next := r₁
    exact h2 (s := { s with heap := h₁, toks := t₁ }) G S I₁ hf fun fv W₂ ρ₂ h₂ t₂ I₂ r₂ st₂ => hQ fv W₂ ρ₂ h₂ t₂ I₂ r₂ (st₁.tr st₂ I I₁)
  · rename_i hn
    refine wpAny_execs_cons (h1 G S I hf fun fv W₁ ρ₁ h₁ t₁ I₁ r₁ st₁ => ?_)
    cases fl with
    | next => exact absurd hf (hn _ _)
    | brk => obtain rfl : fv = .brk := r₁; exact hQ _ W₁ ρ₁ h₁ t₁ I₁ rfl st₁
    | ret a => obtain ⟨v, rfl, r⟩ := r₁; exact hQ _ W₁ ρ₁ h₁ t₁ I₁ ⟨v, rfl, r⟩ st₁

theorem sm_ret {e : Expr} {pos : Pos} {f : SE} (h : EvT C d sc vt e f) : SmT C d sc vt (.Return (some e) pos) (fun fm st => (f fm st).map fun a => (.ret a, fm, st)) := by
  intro A env own W ρ fm sto s fl fm' sto' Q E G S I hf hQ
  obtain ⟨a, ha, hf⟩ := Option.map_eq_some_iff.mp hf
  cases hf
  exact wpAny_Return_some (h G S I ha fun v h₁ t₁ k₁ r₁ => hQ _ W ρ h₁ t₁ (I.keep k₁) ⟨v, rfl, r₁⟩ (.of_kp k₁))
theorem sm_break {pos : Pos} : SmT C d sc vt (.Break pos) (fun fm st => some (.brk, fm, st)) := by
  intro A env own W ρ fm sto s fl fm' sto' Q E G S I hf hQ; cases hf
  exact wpAny_Break (hQ _ W ρ s.heap s.toks I rfl (.of_kp (Kp.refl _)))
theorem sm_if {test : Expr} {body orelse : List Stmt} {pos : Pos} {t : ST} {f g : SX} (ht : TsT C d sc vt test t) (hb : ExT C d sc vt body f) (ho : ExT C d sc vt orelse g) :
    SmT C d sc vt (.If test body orelse pos) (fun fm st => (t fm st).bind fun c => if c then f fm st else g fm st) := by
  intro A env own W ρ fm sto s fl fm' sto' Q E G S I hf hQ
  obtain ⟨c, hc, hf⟩ := Option.bind_eq_some_iff.mp hf
  refine wpAny_If (ht G S I hc fun h₁ t₁ k₁ => ?_)
  cases c with
  | true => exact hb (s := { s with heap := h₁, toks := t₁ }) G S (I.keep k₁) hf fun fv W₂ ρ₂ h₂ t₂ I₂ r₂ st₂ => hQ fv W₂ ρ₂ h₂ t₂ I₂ r₂ (st₂.kp_left k₁)
  | false => exact ho (s := { s with heap := h₁, toks := t₁ }) G S (I.keep k₁) hf fun fv W₂ ρ₂ h₂ t₂ I₂ r₂ st₂ => hQ fv W₂ ρ₂ h₂ t₂ I₂ r₂ (st₂.kp_left k₁)

/-- x = e -/
theorem sm_assign (k : Nat) {x : Str} {p pos : Pos} {e : Expr} {f : SE} (nm : NmOk sc vt k x) (h : EvT C d sc vt e f) (hs : ∀ env, Stat sc env → swapsWith e (some (.Name x p)) pos.line env = pure false) :
    SmT C d sc vt (.Assign [.Name x p] e pos) (fun fm st => (f fm st).map fun a => (.next, fset fm k a, st)) := by
  intro A env own W ρ fm sto s fl fm' sto' Q E G S I hf hQ
  obtain ⟨a, ha, hf⟩ := Option.map_eq_some_iff.mp hf
  cases hf
  refine wpAny_Assign_Name (h G S I ha fun v h₁ t₁ k₁ r₁ => ?_) (hs env S)
  refine store_sound (s := { s with heap := h₁, toks := t₁ }) nm S (I.keep k₁) r₁ fun h₂ t₂ I₂ k₂ => ?_
  exact hQ _ W ρ h₂ t₂ I₂ rfl ((Step.own_upd k₂).kp_left k₁)

/-- an expression that gives a new list -/
noncomputable def EvF (C : Cx) (d : Nat) (sc : List (Str × NameKind)) (vt : VT) (e : Expr) (f : Fm → Sto → Option (List AV)) : Prop :=
  ∀ {A : Around} {env : Env} {own W : List Addr} {ρ : List (List Addr)} {fm : Fm} {sto : Sto} {s : Shared} {l : List AV} {Q : Value → Shared → Prop} {E : Value → Shared → Prop},
    Good d A → Stat sc env → Inv C vt env own W ρ fm sto s.heap → f fm sto = some l →
    (∀ a vs h' tk, Kp s.heap h' → s.heap.get? a = none → h'.PlainList a (List.toArray vs) → Reps C h' W ρ l vs → (∀ W' : List Addr, (∀ b ∈ W', b ∈ W ∨ b = a) → Reps C h' W' ρ l vs) → Q (.ref a) { s with heap := h', toks := tk }) → wpAny (model C.prog C.w) A (eval e env) Q E s
theorem Heap.get?_size (h : Heap) : h.get? h.objs.size = none := by
  cases e : h.get? h.objs.size with
  | none => rfl
  | some o => exact absurd (Heap.lt_size e) (Nat.lt_irrefl _)
theorem none_of_kp {a : Addr} (k : Kp h h') (e : h'.get? a = none) : h.get? a = none := by
  cases g : h.get? a with
  | none => rfl
  | some o => have := k _ _ g; rw [e] at this; cases this
theorem evf_list {es : List Expr} {pos : Pos} {g : SEs} (hh : EvsT C d sc vt es g) : EvF C d sc vt (.List es pos) (fun fm st => (g fm st).bind fun l => if l.length ≤ 4096 then some l else none) := by
  intro A env own W ρ fm sto s l₀ Q E G S I hf hQ
  obtain ⟨l, hl, hf⟩ := Option.bind_eq_some_iff.mp hf
  split at hf <;> cases hf
  rename_i hlen
  refine wpAny_List (hh G S I hl fun vs h₁ t₁ k₁ r₁ => ?_)
  have hl' := r₁.length
  have hs := Heap.get?_size h₁
  refine ⟨by rw [sizeLine_eq]; omega, hQ h₁.objs.size vs _ t₁ (k₁.trans (Kp.push _ _)) (none_of_kp k₁ hs) ⟨_, Heap.get?_push_size _ rfl⟩ (r₁.keep (Kp.push _ _)) fun W' hW' => ?_⟩
  refine Reps.mono (W := W) (h := h₁) (fun b o _ e => Kp.push _ _ _ _ e) (fun a q => ?_) (fun _ _ e => e) _ _ r₁
  rcases hW' a q with q | q
  · exact .inl q
  · subst q; exact .inr hs
theorem evf_add {l r : Expr} {pos : Pos} {f g : SE} (hl : EvT C d sc vt l f) (hr : EvT C d sc vt r g) :
    EvF C d sc vt (.BinOp l .Add r pos) (fun fm st => (f fm st).bind fun a => (g fm st).bind fun b => (listOf? st a).bind fun x => (listOf? st b).bind fun y => if x.length + y.length ≤ 4096 then some (x ++ y) else none) := by
  intro A env own W ρ fm sto s l₀ Q E G S I hf hQ
  obtain ⟨a, ha, hf⟩ := Option.bind_eq_some_iff.mp hf
  obtain ⟨b, hb, hf⟩ := Option.bind_eq_some_iff.mp hf
  obtain ⟨x, hx, hf⟩ := Option.bind_eq_some_iff.mp hf
  obtain ⟨y, hy, hf⟩ := Option.bind_eq_some_iff.mp hf
  split at hf <;> cases hf
  rename_i hlen
  refine wpAny_BinOp (hl G S I ha fun va h₁ t₁ k₁ r₁ => ?_)
  refine hr G S (s := { s with heap := h₁, toks := t₁ }) (I.keep k₁) hb fun vb h₂ t₂ k₂ r₂ => ?_
  have I2 := (I.keep k₁).keep k₂
  obtain ⟨a1, vs, rfl, l1, q1⟩ := listOf_sound hx (r₁.keep k₂) I2.st
  obtain ⟨a2, ws, rfl, l2, q2⟩ := listOf_sound hy r₂ I2.st
  have hs := Heap.get?_size h₂
  refine add_lists_raw (s := { s with heap := h₂, toks := t₂ }) l1.isList l2.isList ?_ (by rw [q1.length, q2.length, sizeLine_eq]; omega)
  have q := Reps.append q1 q2
  refine hQ h₂.objs.size (vs ++ ws) _ t₂ ((k₁.trans k₂).trans (Kp.push _ _)) (none_of_kp (k₁.trans k₂) hs) ⟨_, Heap.get?_push_size _ rfl⟩ (q.keep (Kp.push _ _)) fun W' hW' => ?_
  refine Reps.mono (W := W) (h := h₂) (fun b o _ e => Kp.push _ _ _ _ e) (fun a q => ?_) (fun _ _ e => e) _ _ q
  rcases hW' a q with q | q
  · exact .inl q
  · subst q; exact .inr hs

/-- one more mutable object -/
theorem Inv.more (I : Inv C vt env own W ρ fm sto h) (k : Kp h h') {as : List Addr} {m : MO} (ha : ∀ a ∈ as, h.get? a = none) (hnd : as.Nodup) (hlive : ∀ a ∈ as, ∃ o, h'.get? a = some o)
    (hm : MoRep C h' (as ++ W) (ρ ++ [as]) m as) : Inv C vt env own (as ++ W) (ρ ++ [as]) fm (sto ++ [m]) h' := by
  have hw : ∀ a, a ∈ as ++ W → a ∈ W ∨ h.get? a = none := fun a q => (List.mem_append.mp q).elim (fun q => .inr (ha a q)) .inl
  have hr : ∀ (i : Nat) (r : List Addr), ρ[i]? = some r → (ρ ++ [as])[i]? = some r := fun i r q => by rw [List.getElem?_append_left (List.getElem?_eq_some_iff.mp q).1]; exact q
  have rr : ∀ {a : AV} {u : Value}, Rep C h W ρ a u → Rep C h' (as ++ W) (ρ ++ [as]) a u := fun z => Rep.mono (fun b o _ g => k b o g) hw hr _ _ z
  refine ⟨?_, ⟨?_, fun k' x' vk h1 h2 => ?_, I.fr.apart, I.fr.names, I.fr.len⟩, fun i mo g => ?_, fun a q => List.mem_append_right _ (I.ownW a q), fun r q a z => ?_, I.locO, fun a q => ?_, ?_, by simp [I.rlen]⟩
  · obtain ⟨a, b, c⟩ := I.base
    refine ⟨a, b.trans k, fun y q => ?_⟩
    rw [List.flatten_append, ← List.append_assoc] at q
    rcases List.mem_append.mp q with q | q
    · exact c y q
    · exact none_of_kp b (ha y (by simpa using q))
  · obtain ⟨m, a, b⟩ := I.fr.loc
    exact ⟨m, a.keeps k, fun k' x' av h1 h2 => let ⟨v, h3, h4⟩ := b k' x' av h1 h2; ⟨v, h3, rr h4⟩⟩
  · obtain ⟨a, u, h3, h4, h5, h6⟩ := I.fr.cel k' x' vk h1 h2
    exact ⟨a, u, h3, h4.keeps k, h5, fun av z => let ⟨w, p, q⟩ := h6 av z; ⟨w, p, rr q⟩⟩
  · by_cases hi : i < sto.length
    · rw [List.getElem?_append_left hi] at g
      obtain ⟨as', h1, h2⟩ := I.st i mo g
      exact ⟨as', hr _ _ h1, h2.mono (fun b o _ g => k b o g) hw hr fun a _ o g => k a o g⟩
    · rw [List.getElem?_append_right (by omega)] at g
      have hi' : i - sto.length = 0 := by
        have := (List.getElem?_eq_some_iff.mp g).1
        simp at this; omega
      rw [hi'] at g
      simp at g; subst g
      refine ⟨as, ?_, hm⟩
      rw [List.getElem?_append_right (by rw [I.rlen]; omega), I.rlen, hi']; rfl
  · rcases List.mem_append.mp q with q | q
    · exact List.mem_append_right _ (I.rhoW r q a z)
    · obtain rfl : r = as := by simpa using q
      exact List.mem_append_left _ z
  · rcases List.mem_append.mp q with q | q
    · exact hlive a q
    · obtain ⟨o, g⟩ := I.live a q
      exact ⟨o, k _ _ g⟩
  · rw [List.flatten_append, ← List.append_assoc]
    refine List.nodup_append.mpr ⟨I.nod, by simpa using hnd, fun a h1 b h2 q => ?_⟩
    subst q
    have : a ∈ W := by
      rcases List.mem_append.mp h1 with z | z
      · exact I.ownW a z
      · obtain ⟨r, p, q⟩ := List.mem_flatten.mp z; exact I.rhoW r p a q
    obtain ⟨o, g⟩ := I.live a this
    rw [ha a (by simpa using h2)] at g; cases g
theorem Step.more (k : Kp h h') {as : List Addr} (ha : ∀ a ∈ as, h.get? a = none) : Step own W ρ h (as ++ W) (ρ ++ [as]) h' :=
  ⟨fun b x _ _ e => k b x e, fun a q => List.mem_append_right _ q, fun a q => (List.mem_append.mp q).elim (fun q => .inr (ha a q)) .inl, [as], rfl, fun a q => ha a (by simpa using q)⟩

/-- x = a new list, to be changed -/
theorem sm_newlist (k : Nat) {x : Str} {p pos : Pos} {e : Expr} {f : Fm → Sto → Option (List AV)} (nm : NmOk sc vt k x) (h : EvF C d sc vt e f) (hs : ∀ env, Stat sc env → swapsWith e (some (.Name x p)) pos.line env = pure false) :
    SmT C d sc vt (.Assign [.Name x p] e pos) (fun fm st => (f fm st).map fun l => (.next, fset fm k (.mut st.length), st ++ [.list l])) := by
  intro A env own W ρ fm sto s fl fm' sto' Q E G S I hf hQ
  obtain ⟨l, hl, hf⟩ := Option.map_eq_some_iff.mp hf
  cases hf
  refine wpAny_Assign_Name (h G S I hl fun a vs h₁ t₁ k₁ hn pl r₁ rW => ?_) (hs env S)
  have hfr : ∀ b ∈ [a], s.heap.get? b = none := fun b q => by rw [List.mem_singleton.mp q]; exact hn
  have hm : MoRep C h₁ ([a] ++ W) (ρ ++ [[a]]) (.list l) [a] := by
    refine ⟨a, vs, rfl, pl, ?_⟩
    exact Reps.mono (fun b o _ e => e) (fun _ q => .inl q) (fun i r q => by rw [List.getElem?_append_left (List.getElem?_eq_some_iff.mp q).1]; exact q) _ _ (rW ([a] ++ W) (by simp; exact fun b q => .inl q))
  have I₁ := I.more k₁ hfr (by simp) (fun b q => by rw [List.mem_singleton.mp q]; obtain ⟨n, g⟩ := pl; exact ⟨_, g⟩) hm
  have rv : Rep C h₁ ([a] ++ W) (ρ ++ [[a]]) (.mut sto.length) (.ref a) := ⟨a, [], rfl, by rw [List.getElem?_append_right (by rw [I.rlen]; omega), I.rlen]; simp⟩
  refine store_sound (s := { s with heap := h₁, toks := t₁ }) nm S I₁ rv fun h₂ t₂ I₂ k₂ => ?_
  refine hQ _ _ _ h₂ t₂ I₂ rfl ?_
  exact (Step.more k₁ hfr).tr (Step.own_upd k₂) I I₁
end

structure WX (prog : Program) (w : World) (A : Around) (tg : Expr) (I : Addr) (fp wr : List Addr) (n : Nat) (P : Nat → List Value → Prop) (St : Nat → Heap → Prop) : Prop where
  sub : ∀ b ∈ wr, b ∈ fp
  frame : ∀ i h h', St i h → (∀ b ∈ fp, ∀ o, h.get? b = some o → h'.get? b = some o) → St i h'
  alive : ∀ i h, St i h → ∀ b ∈ fp, ∃ o, h.get? b = some o
  item : ∀ i (s : Shared) (Q : Option Value → Shared → Prop) (E : Value → Shared → Prop), i < n → St i s.heap →
    (∀ v s₁, (∀ (Q₂ : Unit → Shared → Prop) (E₂ : Value → Shared → Prop), (∀ vs h' tk, P i vs → St (i + 1) h' → Shape h' tg v vs → (∀ b o, b ∉ wr → s.heap.get? b = some o → h'.get? b = some o) → Q₂ () { s with heap := h', toks := tk }) →
      wpAny (model prog w) A (letOwnedTupleGo tg (.ref I) v) Q₂ E₂ s₁) → Q (some v) s₁) → wpAny (model prog w) A (pyNext (.ref I)) Q E s
  done : ∀ (s : Shared) (Q : Option Value → Shared → Prop) (E : Value → Shared → Prop), St n s.heap →
    (∀ h' tk, (∀ b o, b ∉ wr → s.heap.get? b = some o → h'.get? b = some o) → Q none { s with heap := h', toks := tk }) → wpAny (model prog w) A (pyNext (.ref I)) Q E s
  self : ∀ i (s : Shared) (Q : Value → Shared → Prop) (E : Value → Shared → Prop), St i s.heap → Q (.ref I) s → wpAny (model prog w) A (pyIter (.ref I)) Q E s

theorem Walks.wx {prog : Program} {w : World} {A : Around} {I : Addr} {fp wr : List Addr} {n : Nat} {P : Nat → Value → Prop} {St : Nat → Heap → Prop} (W : Walks prog w A I fp wr n P St) (x : Str) (p : Pos)
    (al : ∀ i h, St i h → ∀ b ∈ fp, ∃ o, h.get? b = some o) : WX prog w A (.Name x p) I fp wr n (fun i vs => ∃ v, vs = [v] ∧ P i v) St where
  sub := W.sub
  frame := W.frame
  alive := al
  item := fun i s Q E hi hst hQ => W.item i s Q E hi hst fun v h' tk hp hs hk => hQ v _ fun Q₂ E₂ hQ₂ => wpAny_of_eq (show letOwnedTupleGo (.Name x p) (.ref I) v = pure () from rfl) (hQ₂ [v] h' tk ⟨v, rfl, hp⟩ hs rfl hk)
  done := W.done
  self := W.self
theorem WalksU.wx {prog : Program} {w : World} {A : Around} {I : Addr} {fp wr : List Addr} {n : Nat} {P : Nat → Array Value → Prop} {St : Nat → Heap → Prop} {Mid : Nat → Addr → Heap → Prop} (W : WalksU prog w A I fp wr n P St Mid) (es : List Expr) (k : Nat) (p : Pos)
    (al : ∀ i h, St i h → ∀ b ∈ fp, ∃ o, h.get? b = some o) : WX prog w A (.Tuple es k p) I fp wr n (fun i vs => P i vs.toArray) St where
  sub := W.sub
  frame := W.frame
  alive := al
  item := fun i s Q E hi hst hQ => W.item i s Q E hi hst fun T vals h' tk hp hT hm hk => hQ (.ref T) _ fun Q₂ E₂ hQ₂ =>
    W.go es k p i T _ Q₂ E₂ hm fun h'' hs hk' => hQ₂ vals.toList h'' tk (by simpa using hp) hs ⟨T, rfl, by
      simp
      obtain ⟨o, ho, r⟩ := hT
      exact ⟨o, hk' _ _ (W.apart i T _ hm) ho, r⟩⟩ fun b o hb e => hk' b o hb (hk b o hb e)
  done := W.done
  self := W.self

/-- the iterable of a loop -/
noncomputable def ItT (C : Cx) (d : Nat) (sc : List (Str × NameKind)) (vt : VT) (tg : Expr) (iter : Expr) (f : Fm → Sto → Option (List (List AV))) : Prop :=
  ∀ {A : Around} {env : Env} {own W : List Addr} {ρ : List (List Addr)} {fm : Fm} {sto : Sto} {s : Shared} {ls : List (List AV)} {Q : Value → Shared → Prop} {E : Value → Shared → Prop},
    Good d A → Stat sc env → Inv C vt env own W ρ fm sto s.heap → f fm sto = some ls →
    (∀ I fp wr P St h' tk, (∀ A' : Around, A'.handled = none → WX C.prog C.w A' tg I fp wr ls.length P St) → St 0 h' → Kp s.heap h' → (∀ b ∈ wr, s.heap.get? b = none) → (∀ b ∈ fp, b ∉ W) →
      (∀ i vs as, P i vs → ls[i]? = some as → Reps C h' (wr ++ W) ρ as vs) → Q (.ref I) { s with heap := h', toks := tk }) →
    wpAny (model C.prog C.w) A (eval iter env) (fun x s₁ => wpAny (model C.prog C.w) A (pyIter x) Q E s₁) E s

noncomputable def forSem (ks : List Nat) (body : SX) : List (List AV) → SX
  | [], fm, st => some (.next, fm, st)
  | x :: xs, fm, st => if x.length == ks.length then match body (fsets fm ks x) st with
    | some (.next, fm', st') => forSem ks body xs fm' st'
    | some (.brk, fm', st') => some (.next, fm', st')
    | r => r
    else none

section
variable {C : Cx} {d : Nat} {sc : List (Str × NameKind)} {vt : VT}
theorem sm_for {tg iter : Expr} {body : List Stmt} {pos : Pos} {ks : List Nat} {fi : Fm → Sto → Option (List (List AV))} {fb : SX} (t : Tg sc vt tg ks) (hi : ItT C d sc vt tg iter fi) (hb : ExT C d sc vt body fb)
    (hs : ∀ env x, foldedSetIterable iter env x = pure x) :
    SmT C d sc vt (.For tg iter body [] pos) (fun fm st => (fi fm st).bind fun ls => forSem ks fb ls fm st) := by
  intro A env own W ρ fm sto s fl fm' sto' Q E G S I hf hQ
  obtain ⟨ls, hls, hf⟩ := Option.bind_eq_some_iff.mp hf
  refine wpAny_For (hi G S I hls fun it fp wr P St h₁ t₁ wx st0 k₁ hwr hfp hrep => ?_) (hs env)
  have W0 := wx A G.h
  have ap0 : Apart C vt env own ρ wr := I.apartOf hwr
  have wrlive : ∀ a ∈ wr, ∃ o, h₁.get? a = some o := fun a q => W0.alive 0 _ st0 a (W0.sub a q)
  have I₁ : Inv C vt env own (wr ++ W) ρ fm sto h₁ := I.grow k₁ (fun a q => (List.mem_append.mp q).elim (wrlive a) fun q => let ⟨o, g⟩ := I.live a q; ⟨o, k₁ _ _ g⟩) (fun a q => List.mem_append_right _ q)
    fun a q => (List.mem_append.mp q).elim (fun q => .inr (hwr a q)) .inl
  have S₁ : Step own W ρ s.heap (wr ++ W) ρ h₁ := ⟨fun b x _ _ e => k₁ b x e, fun a q => List.mem_append_right _ q, fun a q => (List.mem_append.mp q).elim (fun q => .inr (hwr a q)) .inl, [], by simp, by simp⟩
  have mono1 : ∀ {W' ρ' h'}, Step (wr ++ own) (wr ++ W) ρ h₁ W' ρ' h' → ∀ {l : List AV} {vs : List Value}, Reps C h₁ (wr ++ W) ρ l vs → Reps C h' W' ρ' l vs := by
    intro W' ρ' h' st l vs r
    exact st.reps (fun x q => (List.mem_append.mp q).elim (fun q => List.mem_append_left _ q) fun q => List.mem_append_right _ (I.ownW x q)) (fun r p x q => List.mem_append_right _ (I.rhoW r p x q)) r
  have weak : ∀ {W' ρ' h' W'' ρ'' h''}, Step own W' ρ' h' W'' ρ'' h'' → Step (wr ++ own) W' ρ' h' W'' ρ'' h'' := fun st => ⟨fun b x h1 h2 e => st.upd b x (fun q => h1 (List.mem_append_right _ q)) h2 e, st.wsub, st.wnew, st.rex⟩
  have pokeS : ∀ {W' ρ' h' h''}, (∀ b o, b ∉ wr → h'.get? b = some o → h''.get? b = some o) → Step (wr ++ own) W' ρ' h' W' ρ' h'' := fun k => ⟨fun b x h1 h2 e => k b x (fun q => h1 (List.mem_append_left _ q)) e, fun _ q => q, fun _ q => .inl q, [], by simp, by simp⟩
  have hoW : ∀ x ∈ wr ++ own, x ∈ wr ++ W := fun x q => (List.mem_append.mp q).elim (fun q => List.mem_append_left _ q) fun q => List.mem_append_right _ (I.ownW x q)
  -- the end
  have fin : ∀ fv W' ρ' h' tk, Inv C vt env own W' ρ' fm' sto' h' → FlRep C h' W' ρ' fl fv → Step (wr ++ own) (wr ++ W) ρ h₁ W' ρ' h' → Q fv { s with heap := h', toks := tk } := fun fv W' ρ' h' tk I' r' st => by
    refine hQ fv W' ρ' h' tk I' r' ⟨fun b x h1 h2 e => st.upd b x (fun q => (List.mem_append.mp q).elim (fun q => by rw [hwr b q] at e; cases e) h1) h2 (k₁ b x e), fun a q => st.wsub a (List.mem_append_right _ q), fun a q => ?_, ?_⟩
    · rcases st.wnew a q with q | q
      · exact (List.mem_append.mp q).elim (fun q => .inr (hwr a q)) .inl
      · exact .inr (none_of_kp k₁ q)
    · obtain ⟨e, h1, h2⟩ := st.rex
      exact ⟨e, h1, fun a q => none_of_kp k₁ (h2 a q)⟩
  refine codeAny_forLoop_any (fun k s' => ∃ i W' ρ' fmi stoi h' tk, s' = { s with heap := h', toks := tk } ∧ k = ls.length + 1 - i ∧ i ≤ ls.length ∧ St i h' ∧ Inv C vt env own W' ρ' fmi stoi h' ∧ Step (wr ++ own) (wr ++ W) ρ h₁ W' ρ' h' ∧
      forSem ks fb (ls.drop i) fmi stoi = some (fl, fm', sto')) ?_ (ls.length + 1) ⟨0, wr ++ W, ρ, fm, sto, h₁, t₁, rfl, rfl, Nat.zero_le _, st0, I₁, .of_kp (Kp.refl _), hf⟩
  rintro k s' ⟨i, W', ρ', fmi, stoi, h', tk, rfl, rfl, hi', st, Ii, Si, hsem⟩
  have api : Apart C vt env own ρ' wr := ap0.step Si wrlive
  have wrW : ∀ a ∈ wr, a ∈ W' := fun a q => Si.wsub a (List.mem_append_left _ q)
  by_cases hlt : i < ls.length
  · have hget : ls[i]? = some ls[i] := List.getElem?_eq_getElem hlt
    rw [List.drop_eq_getElem_cons hlt] at hsem
    refine W0.item i _ _ _ hlt st fun v s₁ hK => ?_
    refine hK _ _ fun vs h₂ t₂ hp st₂ sh k₂ => ?_
    have st₂live : ∀ a ∈ wr, ∃ o, h₂.get? a = some o := fun a q => W0.alive _ _ st₂ a (W0.sub a q)
    have I₂ : Inv C vt env own W' ρ' fmi stoi h₂ := Ii.poke api wrW k₂ (fun _ q => q) (fun a _ q => st₂live a q) (fun _ q _ => q)
    have Sm2 : Step (wr ++ own) (wr ++ W) ρ h₁ W' ρ' h₂ := Si.trans (pokeS k₂) hoW I₁.rhoW Ii.live
    unfold forSem at hsem
    split at hsem
    · rename_i hlen
      have r₂ : Reps C h₂ W' ρ' ls[i] vs := mono1 Sm2 (hrep i vs _ hp hget)
      refine assign_sound (s := { s with heap := h₂, toks := t₂ }) t G.h S I₂ sh r₂ (by simpa using hlen) fun h₃ t₃ I₃ k₃ => ?_
      have Sm3 : Step (wr ++ own) (wr ++ W) ρ h₁ W' ρ' h₃ := Sm2.trans (weak (Step.own_upd k₃)) hoW I₁.rhoW I₂.live
      have fpk : ∀ {W'' ρ'' h''}, Step own W' ρ' h₂ W'' ρ'' h'' → St (i + 1) h'' := by
        intro W'' ρ'' h'' sst
        refine W0.frame _ _ _ st₂ fun b hb o e => sst.upd b o (fun q => ?_) (fun q => ?_) e
        · by_cases hbw : b ∈ wr
          · exact api.own b hbw q
          · exact hfp b hb (I.ownW b q)
        · by_cases hbw : b ∈ wr
          · exact api.rho b hbw q
          · obtain ⟨e', rfl, he'⟩ := Si.rex
            rw [List.flatten_append, List.mem_append] at q
            rcases q with q | q
            · obtain ⟨r, p, q⟩ := List.mem_flatten.mp q
              exact hfp b hb (I.rhoW r p b q)
            · obtain ⟨o', g⟩ := W0.alive 0 _ st0 b hb
              rw [he' b q] at g; cases g
      split at hsem
      · rename_i fm₁ sto₁ hbody
        refine hb (s := { s with heap := h₃, toks := t₃ }) G S I₃ hbody fun fv W₄ ρ₄ h₄ t₄ I₄ r₄ S₄ => ?_
        obtain rfl : fv = .next := r₄
        refine ⟨ls.length + 1 - (i + 1), by omega, i + 1, W₄, ρ₄, _, _, h₄, t₄, rfl, rfl, hlt, fpk ((Step.own_upd k₃).tr S₄ I₂ I₃), I₄, Sm3.trans (weak S₄) hoW I₁.rhoW I₃.live, hsem⟩
      · rename_i fm₁ sto₁ hbody
        cases hsem
        refine hb (s := { s with heap := h₃, toks := t₃ }) G S I₃ hbody fun fv W₄ ρ₄ h₄ t₄ I₄ r₄ S₄ => ?_
        obtain rfl : fv = .brk := r₄
        exact fin _ W₄ ρ₄ h₄ t₄ I₄ rfl (Sm3.trans (weak S₄) hoW I₁.rhoW I₃.live)
      · rename_i hn1 hn2
        refine hb (s := { s with heap := h₃, toks := t₃ }) G S I₃ hsem fun fv W₄ ρ₄ h₄ t₄ I₄ r₄ S₄ => ?_
        cases fl with
        | next => exact absurd hsem (hn1 _ _)
        | brk => exact absurd hsem (hn2 _ _)
        | ret a =>
          obtain ⟨u, rfl, r⟩ := r₄
          exact fin _ W₄ ρ₄ h₄ t₄ I₄ ⟨u, rfl, r⟩ (Sm3.trans (weak S₄) hoW I₁.rhoW I₃.live)
    · cases hsem
  · have hie : i = ls.length := by omega
    subst hie
    rw [List.drop_length] at hsem
    unfold forSem at hsem
    cases hsem
    refine W0.done _ _ _ st fun h₂ t₂ k₂ => ?_
    refine wpAny_execs_nil ?_
    have I₂ : Inv C vt env own (W'.filter (fun a => decide (a ∉ wr))) ρ' fm' sto' h₂ := Ii.poke api wrW k₂ (fun a q => (List.mem_filter.mp q).1) (fun a q z => by simpa [z] using (List.mem_filter.mp q).2) (fun a q z => List.mem_filter.mpr ⟨q, by simpa using z⟩)
    refine hQ _ _ _ h₂ t₂ I₂ rfl ⟨fun b x h1 h2 e => ?_, fun a q => ?_, fun a q => ?_, ?_⟩
    · have hbw : b ∉ wr := fun q => by rw [hwr b q] at e; cases e
      exact k₂ b x hbw (Si.upd b x (fun q => (List.mem_append.mp q).elim hbw h1) h2 (k₁ b x e))
    · refine List.mem_filter.mpr ⟨Si.wsub a (List.mem_append_right _ q), ?_⟩
      have : a ∉ wr := fun z => by obtain ⟨o, g⟩ := I.live a q; rw [hwr a z] at g; cases g
      simpa using this
    · rcases Si.wnew a (List.mem_filter.mp q).1 with q | q
      · exact (List.mem_append.mp q).elim (fun q => .inr (hwr a q)) .inl
      · exact .inr (none_of_kp k₁ q)
    · obtain ⟨e, h1, h2⟩ := Si.rex
      exact ⟨e, h1, fun a q => none_of_kp k₁ (h2 a q)⟩

/-- while, with a bound on the turns -/
noncomputable def whileSem (t : ST) (body : SX) : Nat → SX
  | 0, _, _ => none
  | n + 1, fm, st => (t fm st).bind fun c => if c then (match body fm st with
    | some (.next, fm', st') => whileSem t body n fm' st'
    | some (.brk, fm', st') => some (.next, fm', st')
    | r => r) else some (.next, fm, st)
theorem sm_while {test : Expr} {body : List Stmt} {pos : Pos} {t : ST} {fb : SX} (n : Nat) (ht : TsT C d sc vt test t) (hb : ExT C d sc vt body fb) :
    SmT C d sc vt (.While test body [] pos) (whileSem t fb n) := by
  intro A env own W ρ fm sto s fl fm' sto' Q E G S I hf hQ
  refine wpAny_While ?_
  refine codeAny_whileLoop (fun k s' => ∃ W' ρ' fmi stoi h' tk, s' = { s with heap := h', toks := tk } ∧ Inv C vt env own W' ρ' fmi stoi h' ∧ Step own W ρ s.heap W' ρ' h' ∧
      whileSem t fb k fmi stoi = some (fl, fm', sto')) ?_ n ⟨W, ρ, fm, sto, s.heap, s.toks, rfl, I, .of_kp (Kp.refl _), hf⟩
  rintro k s' ⟨W', ρ', fmi, stoi, h', tk, rfl, Ii, Si, hsem⟩
  cases k with
  | zero => cases hsem
  | succ k =>
    unfold whileSem at hsem
    obtain ⟨c, hc, hsem⟩ := Option.bind_eq_some_iff.mp hsem
    refine ht G S Ii hc fun h₁ t₁ k₁ => ?_
    cases c with
    | false =>
      cases hsem
      exact wpAny_execs_nil (hQ _ W' ρ' h₁ t₁ (Ii.keep k₁) rfl (Si.kp_right k₁))
    | true =>
      simp only [if_true] at hsem ⊢
      have I₁ := Ii.keep k₁
      have S₁ := Si.kp_right k₁
      split at hsem
      · rename_i fm₁ sto₁ hbody
        refine hb (s := { s with heap := h₁, toks := t₁ }) G S I₁ hbody fun fv W₄ ρ₄ h₄ t₄ I₄ r₄ S₄ => ?_
        obtain rfl : fv = .next := r₄
        exact ⟨k, Nat.lt_succ_self _, W₄, ρ₄, _, _, h₄, t₄, rfl, I₄, S₁.tr S₄ I I₁, hsem⟩
      · rename_i fm₁ sto₁ hbody
        cases hsem
        refine hb (s := { s with heap := h₁, toks := t₁ }) G S I₁ hbody fun fv W₄ ρ₄ h₄ t₄ I₄ r₄ S₄ => ?_
        obtain rfl : fv = .brk := r₄
        exact hQ _ W₄ ρ₄ h₄ t₄ I₄ rfl (S₁.tr S₄ I I₁)
      · rename_i hn1 hn2
        refine hb (s := { s with heap := h₁, toks := t₁ }) G S I₁ hsem fun fv W₄ ρ₄ h₄ t₄ I₄ r₄ S₄ => ?_
        cases fl with
        | next => exact absurd hsem (hn1 _ _)
        | brk => exact absurd hsem (hn2 _ _)
        | ret a =>
          obtain ⟨u, rfl, r⟩ := r₄
          exact hQ _ W₄ ρ₄ h₄ t₄ I₄ ⟨u, rfl, r⟩ (S₁.tr S₄ I I₁)
end

/-- what a comprehension builds -/
inductive AC where
  | list (l : List AV)
  | dict (ks : List (List Nat)) (vs : List AV)
noncomputable def AcRep (C : Cx) (h : Heap) (W : List Addr) (ρ : List (List Addr)) (D : Addr) : AC → Prop
  | .list l => ∃ ys, h.PlainList D (List.toArray ys) ∧ Reps C h W ρ l ys
  | .dict ks vs => ∃ ys, h.DictOf (strKind C.prog C.w) D ((ks.map fun k => (⟨k.toArray⟩ : Str)).zip ys) ∧ Reps C h W ρ vs ys ∧ ks.length = vs.length
theorem AcRep.mono {C : Cx} {h h' : Heap} {W W' : List Addr} {ρ ρ' : List (List Addr)} {D : Addr} {a : AC} (hk : ∀ b o, b ∉ W → h.get? b = some o → h'.get? b = some o) (hW : ∀ a, a ∈ W' → a ∈ W ∨ h.get? a = none) (hρ : ∀ (i : Nat) (r : List Addr), ρ[i]? = some r → ρ'[i]? = some r)
    (hD : ∀ o, h.get? D = some o → h'.get? D = some o) (x : AcRep C h W ρ D a) : AcRep C h' W' ρ' D a := by
  cases a with
  | list l => obtain ⟨ys, ⟨n, e⟩, r⟩ := x; exact ⟨ys, ⟨n, hD _ e⟩, Reps.mono hk hW hρ _ _ r⟩
  | dict ks vs => obtain ⟨ys, ⟨o, es, ep, ho, m⟩, r, e⟩ := x; exact ⟨ys, ⟨o, es, ep, hD _ ho, m⟩, Reps.mono hk hW hρ _ _ r, e⟩
theorem AcRep.live {C : Cx} {h : Heap} {W : List Addr} {ρ : List (List Addr)} {D : Addr} {a : AC} (x : AcRep C h W ρ D a) : ∃ o, h.get? D = some o := by
  cases a with
  | list l => obtain ⟨ys, ⟨n, e⟩, r⟩ := x; exact ⟨_, e⟩
  | dict ks vs => obtain ⟨ys, ⟨o, es, ep, ho, m⟩, r⟩ := x; exact ⟨o, ho⟩

/-- the activation of a comprehension, with what it builds -/
structure CInv (C : Cx) (vt : VT) (env : Env) (own W : List Addr) (ρ : List (List Addr)) (fm : Fm) (sto : Sto) (D : Addr) (ac : AC) (h : Heap) : Prop where
  inv : Inv C vt env own W ρ fm sto h
  ap : Apart C vt env own ρ [D]
  dw : D ∈ W
  acc : AcRep C h W ρ D ac
abbrev SB := Fm → Sto → AC → Option (Fm × AC)
/-- a piece of a comprehension -/
noncomputable def BdT (C : Cx) (d : Nat) (sc : List (Str × NameKind)) (vt : VT) (m : Value → Env → Sem Unit) (f : SB) : Prop :=
  ∀ {A : Around} {env : Env} {own W : List Addr} {ρ : List (List Addr)} {fm : Fm} {sto : Sto} {s : Shared} {D : Addr} {ac : AC} {fm' : Fm} {ac' : AC} {Q : Unit → Shared → Prop} {E : Value → Shared → Prop},
    Good d A → Stat sc env → CInv C vt env own W ρ fm sto D ac s.heap → f fm sto ac = some (fm', ac') →
    (∀ W' h' tk, CInv C vt env own W' ρ fm' sto D ac' h' → Step (D :: own) W [] s.heap W' [] h' → Q () { s with heap := h', toks := tk }) → wpAny (model C.prog C.w) A (m (.ref D) env) Q E s
noncomputable def IfsT (C : Cx) (d : Nat) (sc : List (Str × NameKind)) (vt : VT) (ifs : List Expr) (f : ST) : Prop :=
  ∀ {A : Around} {env : Env} {own W : List Addr} {ρ : List (List Addr)} {fm : Fm} {sto : Sto} {s : Shared} {b : Bool} {Q : Bool → Shared → Prop} {E : Value → Shared → Prop},
    Good d A → Stat sc env → Inv C vt env own W ρ fm sto s.heap → f fm sto = some b →
    (∀ h' tk, Kp s.heap h' → Q b { s with heap := h', toks := tk }) →
    wpAny (model C.prog C.w) A (forIn ifs true fun c r => if r = true then do let ok ← isTrue c env (eval c env); pure (ForInStep.yield ok) else pure (ForInStep.yield r)) Q E s

section
variable {C : Cx} {d : Nat} {sc : List (Str × NameKind)} {vt : VT} {env : Env} {own W W' : List Addr} {ρ : List (List Addr)} {fm fm' : Fm} {sto : Sto} {D : Addr} {ac ac' : AC} {h h' : Heap}
theorem CInv.keep (I : CInv C vt env own W ρ fm sto D ac h) (k : Kp h h') : CInv C vt env own W ρ fm sto D ac h' :=
  ⟨I.inv.keep k, I.ap, I.dw, I.acc.mono (fun b o _ e => k b o e) (fun _ q => .inl q) (fun _ _ e => e) fun o e => k _ _ e⟩
/-- the object being built has changed -/
theorem CInv.put (I : CInv C vt env own W ρ fm sto D ac h) (k : ∀ b x, b ∉ [D] → h.get? b = some x → h'.get? b = some x) (r : AcRep C h' W ρ D ac') : CInv C vt env own W ρ fm sto D ac' h' :=
  ⟨I.inv.poke I.ap (fun a q => by rw [List.mem_singleton.mp q]; exact I.dw) k (fun _ q => q) (fun a _ q => by rw [List.mem_singleton.mp q]; exact r.live) (fun _ q _ => q), I.ap, I.dw, r⟩
theorem ifs_nil : IfsT C d sc vt [] (fun _ _ => some true) := by
  intro A env own W ρ fm sto s b Q E G S I hf hQ; cases hf
  exact wpAny_tests_nil (hQ s.heap s.toks (Kp.refl _))
theorem forIn_false {env : Env} : ∀ ifs : List Expr, (forIn ifs false fun c r => if r = true then (do let ok ← isTrue c env (eval c env); pure (ForInStep.yield ok)) else pure (ForInStep.yield r) : Sem Bool) = pure false
  | [] => by rw [List.forIn_nil]
  | c :: cs => by
    rw [List.forIn_cons]
    simp only [Bool.false_eq_true, if_false, pure_bind]
    simpa using forIn_false cs
theorem ifs_cons {e : Expr} {es : List Expr} {t g : ST} (ht : TsT C d sc vt e t) (hs : IfsT C d sc vt es g) : IfsT C d sc vt (e :: es) (fun fm st => (t fm st).bind fun b => if b then g fm st else some false) := by
  intro A env own W ρ fm sto s b Q E G S I hf hQ
  obtain ⟨c, hc, hf⟩ := Option.bind_eq_some_iff.mp hf
  rw [List.forIn_cons]
  simp only [if_true]
  refine wpAny_bind (wpAny_bind (ht G S I hc fun h₁ t₁ k₁ => wpAny_pure ?_))
  cases c with
  | true => exact hs (s := { s with heap := h₁, toks := t₁ }) G S (I.keep k₁) hf fun h₂ t₂ k₂ => hQ h₂ t₂ (k₁.trans k₂)
  | false =>
    cases hf
    exact wpAny_of_eq (forIn_false es) (hQ h₁ t₁ k₁)

/-- the end of a list comprehension's turn -/
noncomputable def emitL (elt : Expr) (acc : Value) (env : Env) : Sem Unit := do let _ ← call (.builtin "list.append") [acc, ← eval elt env]
theorem bd_emit {elt : Expr} {f : SE} (he : EvT C d sc vt elt f) : BdT C d sc vt (emitL elt) (fun fm st ac => match ac with
    | .list l => (f fm st).bind fun a => if l.length < 4096 then some (fm, .list (l ++ [a])) else none
    | _ => none) := by
  intro A env own W ρ fm sto s D ac fm' ac' Q E G S I hf hQ
  cases ac with
  | dict ks vs => cases hf
  | list l =>
    obtain ⟨a, ha, hf⟩ := Option.bind_eq_some_iff.mp hf
    split at hf <;> cases hf
    rename_i hlen
    unfold emitL
    refine wpAny_bind (he G S I.inv ha fun v h₁ t₁ k₁ r₁ => ?_)
    have I₁ := I.keep k₁
    obtain ⟨ys, pl, rs⟩ := I₁.acc
    have hl := rs.length
    refine wpAny_bind (wpAny_list_append_plain (s := { s with heap := h₁, toks := t₁ }) pl (fun h₂ pl₂ sb => ?_) (by rw [List.size_toArray, sizeLine_eq]; omega))
    refine wpAny_pure ?_
    have keep : ∀ b x, b ∉ [D] → h₁.get? b = some x → h₂.get? b = some x := fun b x hb e => sb.extBut b x (by simpa using hb) e
    have keepW : ∀ b o, b ∉ W → h₁.get? b = some o → h₂.get? b = some o := fun b o hb e => keep b o (fun q => hb (by rw [List.mem_singleton.mp q]; exact I.dw)) e
    have rs2 : AcRep C h₂ W ρ D (.list (l ++ [a])) := ⟨ys ++ [v], by simpa using pl₂, Reps.mono keepW (fun _ q => .inl q) (fun _ _ e => e) _ _ (Reps.append rs (Reps.cons r₁ Reps.nil))⟩
    refine hQ W h₂ t₁ (I₁.put keep rs2) ⟨fun b x h1 _ e => keep b x (fun q => h1 (by simp at q; simp [q])) (k₁ b x e), fun _ q => q, fun _ q => .inl q, [], by simp, by simp⟩

noncomputable def loopSem (ks : List Nat) (fi : ST) (fb : SB) (st : Sto) : List (List AV) → Fm → AC → Option (Fm × AC)
  | [], fm, ac => some (fm, ac)
  | x :: xs, fm, ac => if x.length == ks.length then (fi (fsets fm ks x) st).bind fun b => if b then (fb (fsets fm ks x) st ac).bind fun r => loopSem ks fi fb st xs r.1 r.2 else loopSem ks fi fb st xs (fsets fm ks x) ac else none

/-- the turns of one clause -/
theorem cp_loop {e : Expr} {lv : Nat} {tg : Expr} {ifs : List Expr} {m : Value → Env → Sem Unit} {ks : List Nat} {fi : ST} {fb : SB} (t : Tg sc vt tg ks) (hifs : IfsT C d sc vt ifs fi) (hb : BdT C d sc vt m fb)
    (hturn : ∀ (it : Value) (D : Addr) (env : Env), ∃ pos, compTurn e lv it (.ref D) env = (do
      standAt pos
      match ← pyNext it with
      | none => pure (.done .next)
      | some v =>
        letOwnedTupleGo tg it v
        assign tg env v
        let mut ok := true
        for c in ifs do
          if ok then ok ← isTrue c env (eval c env)
        if ok then
          m (.ref D) env
        again (.compLoop e lv it (.ref D) env)))
    (hA : ∀ (A : Around) (it acc : Value) (env : Env), A.under (.compLoop e lv it acc env) = A)
    (hden : ∀ (it acc : Value) (env : Env), (model C.prog C.w).den (.compLoop e lv it acc env) = (compTurn e lv it acc env).onRaise (fun x => do noteFrame x env; theTreesLotGoes x))
    {A : Around} {s : Shared} {I : Addr} {fp wr : List Addr} {P : Nat → List Value → Prop} {St : Nat → Heap → Prop} {ls : List (List AV)} {R : Result → Shared → Prop}
    (G : Good d A) (S : Stat sc env) (wx : WX C.prog C.w A tg I fp wr ls.length P St) (st0 : St 0 s.heap) (CI : CInv C vt env own W ρ fm sto D ac s.heap) (ap : Apart C vt env own ρ wr) (hDwr : D ∉ wr)
    (hfp : ∀ b ∈ fp, b ∈ wr ∨ b ∉ W) (hwrW : ∀ b ∈ wr, b ∈ W) (hrep : ∀ i vs as, P i vs → ls[i]? = some as → Reps C s.heap W ρ as vs) (hf : loopSem ks fi fb sto ls fm ac = some (fm', ac'))
    (hR : ∀ W' h' tk, CInv C vt env own W' ρ fm' sto D ac' h' → (∀ a ∈ W, a ∉ wr → a ∈ W') → (∀ a ∈ W', a ∈ W ∨ s.heap.get? a = none) → (∀ b x, b ∉ own → b ≠ D → b ∉ wr → s.heap.get? b = some x → h'.get? b = some x) → R (.ok .next) { s with heap := h', toks := tk }) :
    codeAny (model C.prog C.w) A (.compLoop e lv (.ref I) (.ref D) env) R s := by
  have wrlive : ∀ a ∈ wr, ∃ o, s.heap.get? a = some o := fun a q => wx.alive 0 _ st0 a (wx.sub a q)
  have hoW : ∀ x ∈ D :: (wr ++ own), x ∈ W := fun x q => by
    rcases List.mem_cons.mp q with q | q
    · rw [q]; exact CI.dw
    · exact (List.mem_append.mp q).elim (hwrW x) fun q => CI.inv.ownW x q
  have nor : ∀ r ∈ ([] : List (List Addr)), ∀ x ∈ r, x ∈ W := fun r q => by cases q
  have weak : ∀ {W' h' W'' h''}, Step (D :: own) W' [] h' W'' [] h'' → Step (D :: (wr ++ own)) W' [] h' W'' [] h'' := fun st => ⟨fun b x h1 h2 e => st.upd b x (fun q => h1 (by
    rcases List.mem_cons.mp q with q | q
    · simp [q]
    · simp [q])) h2 e, st.wsub, st.wnew, st.rex⟩
  have pokeS : ∀ {W' h' h''}, (∀ b o, b ∉ wr → h'.get? b = some o → h''.get? b = some o) → Step (D :: (wr ++ own)) W' [] h' W' [] h'' := fun k => ⟨fun b x h1 h2 e => k b x (fun q => h1 (by simp [q])) e, fun _ q => q, fun _ q => .inl q, [], by simp, by simp⟩
  refine codeAny_loop rfl (fun k s' => ∃ i W' fmi aci h' tk, s' = { s with heap := h', toks := tk } ∧ k = ls.length + 1 - i ∧ i ≤ ls.length ∧ St i h' ∧ CInv C vt env own W' ρ fmi sto D aci h' ∧ Step (D :: (wr ++ own)) W [] s.heap W' [] h' ∧
      loopSem ks fi fb sto (ls.drop i) fmi aci = some (fm', ac')) ?_ (ls.length + 1) ⟨0, W, fm, ac, s.heap, s.toks, rfl, rfl, Nat.zero_le _, st0, CI, .of_kp (Kp.refl _), hf⟩
  rintro k s' ⟨i, W', fmi, aci, h', tk, rfl, rfl, hi', st, Ii, Si, hsem⟩
  rw [hA, hden]
  refine wpAny_noted ?_
  obtain ⟨pos, heq⟩ := hturn (.ref I) D env
  rw [heq]
  refine wpAny_bind (wpAny_standAt (wpAny_bind ?_))
  have wrW : ∀ a ∈ wr, a ∈ W' := fun a q => Si.wsub a (hwrW a q)
  by_cases hlt : i < ls.length
  · have hget : ls[i]? = some ls[i] := List.getElem?_eq_getElem hlt
    rw [List.drop_eq_getElem_cons hlt] at hsem
    refine wx.item i _ _ _ hlt st fun v s₁ hK => ?_
    refine wpAny_bind (hK _ _ fun vs h₂ t₂ hp st₂ sh k₂ => ?_)
    have st₂live : ∀ a ∈ wr, ∃ o, h₂.get? a = some o := fun a q => wx.alive _ _ st₂ a (wx.sub a q)
    have I₂ : Inv C vt env own W' ρ fmi sto h₂ := Ii.inv.poke ap wrW k₂ (fun _ q => q) (fun a _ q => st₂live a q) (fun _ q _ => q)
    have keepW2 : ∀ b o, b ∉ W' → h'.get? b = some o → h₂.get? b = some o := fun b o hb e => k₂ b o (fun q => hb (wrW b q)) e
    have CI₂ : CInv C vt env own W' ρ fmi sto D aci h₂ := ⟨I₂, Ii.ap, Ii.dw, Ii.acc.mono keepW2 (fun _ q => .inl q) (fun _ _ e => e) fun o e => k₂ _ o hDwr e⟩
    have Sm2 : Step (D :: (wr ++ own)) W [] s.heap W' [] h₂ := Si.trans (pokeS k₂) hoW nor Ii.inv.live
    unfold loopSem at hsem
    split at hsem
    · rename_i hlen
      obtain ⟨b, hb1, hsem⟩ := Option.bind_eq_some_iff.mp hsem
      have r₂ : Reps C h₂ W' ρ ls[i] vs := Reps.mono (Sm2.keepW hoW nor) Sm2.wnew (fun _ _ e => e) _ _ (hrep i vs _ hp hget)
      refine wpAny_bind (assign_sound (s := { s with heap := h₂, toks := t₂ }) t G.h S I₂ sh r₂ (by simpa using hlen) fun h₃ t₃ I₃ k₃ => ?_)
      have keepW3 : ∀ b o, b ∉ W' → h₂.get? b = some o → h₃.get? b = some o := fun b o hb e => k₃ b o (fun q => hb (I₂.ownW b q)) e
      have CI₃ : CInv C vt env own W' ρ (fsets fmi ks ls[i]) sto D aci h₃ := ⟨I₃, Ii.ap, Ii.dw, CI₂.acc.mono keepW3 (fun _ q => .inl q) (fun _ _ e => e) fun o e => k₃ _ o (Ii.ap.own D (by simp)) e⟩
      have Sm3 : Step (D :: (wr ++ own)) W [] s.heap W' [] h₃ := Sm2.trans (weak ⟨fun b x h1 _ e => k₃ b x (fun q => h1 (by simp [q])) e, fun _ q => q, fun _ q => .inl q, [], by simp, by simp⟩) hoW nor I₂.live
      have fpk : ∀ {W'' h''}, Step (D :: own) W' [] h₃ W'' [] h'' → St (i + 1) h'' := by
        intro W'' h'' sst
        refine wx.frame _ _ _ st₂ fun b hb o e => ?_
        have hbo : b ∉ own := fun q => (hfp b hb).elim (fun z => ap.own b z q) fun z => z (CI.inv.ownW b q)
        have hbD : b ≠ D := fun q => (hfp b hb).elim (fun z => hDwr (q ▸ z)) fun z => z (q ▸ CI.dw)
        exact sst.upd b o (by simp [hbo, hbD]) (by simp) (k₃ b o hbo e)
      refine wpAny_bind (hifs (s := { s with heap := h₃, toks := t₃ }) G S I₃ hb1 fun h₄ t₄ k₄ => ?_)
      have CI₄ := CI₃.keep k₄
      have Sm4 := Sm3.trans (.of_kp k₄) hoW nor I₃.live
      cases b with
      | false => exact wpAny_pure ⟨rfl, ls.length + 1 - (i + 1), by omega, i + 1, W', _, aci, h₄, t₄, rfl, rfl, hlt, fpk (.of_kp k₄), CI₄, Sm4, hsem⟩
      | true =>
        simp only [if_true] at hsem ⊢
        obtain ⟨⟨fm₅, ac₅⟩, hb2, hsem⟩ := Option.bind_eq_some_iff.mp hsem
        refine wpAny_bind (hb (s := { s with heap := h₄, toks := t₄ }) G S CI₄ hb2 fun W₅ h₅ t₅ I₅ S₅ => wpAny_pure ?_)
        have S35 : Step (D :: own) W' [] h₃ W₅ [] h₅ := S₅.kp_left k₄
        exact ⟨rfl, ls.length + 1 - (i + 1), by omega, i + 1, W₅, _, _, h₅, t₅, rfl, rfl, hlt, fpk S35, I₅, Sm4.trans (weak S₅) hoW nor CI₄.inv.live, hsem⟩
    · cases hsem
  · have hie : i = ls.length := by omega
    subst hie
    rw [List.drop_length] at hsem
    unfold loopSem at hsem
    cases hsem
    refine wx.done _ _ _ st fun h₂ t₂ k₂ => wpAny_pure ?_
    have I₂ : Inv C vt env own (W'.filter (fun a => decide (a ∉ wr))) ρ fm' sto h₂ := Ii.inv.poke ap wrW k₂ (fun a q => (List.mem_filter.mp q).1) (fun a q z => by simpa [z] using (List.mem_filter.mp q).2) (fun a q z => List.mem_filter.mpr ⟨q, by simpa using z⟩)
    refine hR _ h₂ t₂ ⟨I₂, Ii.ap, List.mem_filter.mpr ⟨Ii.dw, by simpa using hDwr⟩, Ii.acc.mono (fun b o hb e => k₂ b o (fun q => hb (wrW b q)) e) (fun a q => .inl (List.mem_filter.mp q).1) (fun _ _ e => e) fun o e => k₂ _ o hDwr e⟩ (fun a q hw => ?_) (fun a q => ?_) fun b x h1 h2 h3 e => ?_
    · exact List.mem_filter.mpr ⟨Si.wsub a q, by simpa using hw⟩
    · exact Si.wnew a (List.mem_filter.mp q).1
    · exact k₂ b x h3 (Si.upd b x (by simp [h1, h2, h3]) (by simp) e)
end

/-- what stands apart from the activation -/
structure Inv0 (C : Cx) (W : List Addr) (ρ : List (List Addr)) (sto : Sto) (h : Heap) : Prop where
  base : C.Ok C.h0 ∧ Kp C.h0 h ∧ (∀ a ∈ ρ.flatten, C.h0.get? a = none)
  st : StoRep C h W ρ sto
  rhoW : ∀ r ∈ ρ, ∀ a ∈ r, a ∈ W
  live : ∀ a ∈ W, ∃ o, h.get? a = some o
  nod : ρ.flatten.Nodup
  rlen : ρ.length = sto.length
section
variable {C : Cx} {vt vt' : VT} {env env' : Env} {own own' W W' : List Addr} {ρ : List (List Addr)} {fm fm' : Fm} {sto : Sto} {h h' : Heap}
theorem Inv.zero (I : Inv C vt env own W ρ fm sto h) : Inv0 C W ρ sto h :=
  ⟨⟨I.base.1, I.base.2.1, fun a q => I.base.2.2 a (List.mem_append_right _ q)⟩, I.st, I.rhoW, I.live, (List.nodup_append.mp I.nod).2.1, I.rlen⟩
theorem Inv0.enter (I : Inv0 C W ρ sto h) (k : Kp h h') (ho : ∀ a ∈ own', h.get? a = none) (hn : own'.Nodup) (hl : ∀ a ∈ W', ∃ o, h'.get? a = some o) (hs : ∀ a ∈ W, a ∈ W') (hw : ∀ a ∈ W', a ∈ W ∨ h.get? a = none)
    (how : ∀ a ∈ own', a ∈ W') (fr : FrR C vt' env' own' W' ρ fm' h') (lo : env'.locals ∈ own') : Inv C vt' env' own' W' ρ fm' sto h' := by
  refine ⟨⟨I.base.1, I.base.2.1.trans k, fun a q => ?_⟩, fr, fun i mo g => ?_, how, fun r q a z => hs a (I.rhoW r q a z), lo, hl, List.nodup_append.mpr ⟨hn, I.nod, fun a h1 b h2 q => ?_⟩, I.rlen⟩
  · rcases List.mem_append.mp q with q | q
    · exact none_of_kp I.base.2.1 (ho a q)
    · exact I.base.2.2 a q
  · obtain ⟨as, h1, h2⟩ := I.st i mo g
    exact ⟨as, h1, h2.mono (fun b o _ g => k b o g) hw (fun _ _ e => e) fun a _ o g => k a o g⟩
  · subst q
    obtain ⟨r, p, q⟩ := List.mem_flatten.mp h2
    obtain ⟨o, g⟩ := I.live a (I.rhoW r p a q)
    rw [ho a h1] at g; cases g
end

noncomputable def ownNames (names : List (Str × NameKind)) : List Str := (names.filter (·.2 == .cell)).map (·.1)
theorem cf_app : ∀ (names : List (Str × NameKind)) (n : Nat) (acc : List (Str × Addr)), cellsFrom n names acc = cellsFrom n names [] ++ acc
  | [], _, _ => rfl
  | (x, k) :: r, n, acc => by
    unfold cellsFrom
    split
    · rw [cf_app r (n + 1) ((x, n) :: acc), cf_app r (n + 1) [(x, n)]]; simp
    · exact cf_app r n acc
theorem lookup_app {α : Type} : ∀ (l m : List (Str × α)) (x : Str), (l ++ m).lookup x = (l.lookup x).or (m.lookup x)
  | [], m, x => by simp
  | (y, v) :: l, m, x => by
    rw [List.cons_append, List.lookup_cons, List.lookup_cons]
    cases x == y with
    | true => rfl
    | false => exact lookup_app l m x
theorem cf_some : ∀ (names : List (Str × NameKind)) (n : Nat) (x : Str), x ∈ ownNames names → ∃ a, (cellsFrom n names []).lookup x = some a
  | [], _, _, h => by cases h
  | (y, k) :: r, n, x, h => by
    unfold cellsFrom
    cases hk : k == NameKind.cell with
    | true =>
      simp only [if_true]
      rw [cf_app, lookup_app]
      by_cases hx : x ∈ ownNames r
      · obtain ⟨a, e⟩ := cf_some r (n + 1) x hx; rw [e]; exact ⟨a, rfl⟩
      · have : x = y := by
          simp [ownNames, hk] at h hx
          rcases h with h | h
          · exact h
          · exact absurd h hx
        subst this
        cases (cellsFrom (n + 1) r []).lookup x with
        | none => exact ⟨n, by simp [List.lookup_cons]⟩
        | some a => exact ⟨a, rfl⟩
    | false =>
      have h' : x ∈ ownNames r := by simpa [ownNames, hk] using h
      exact cf_some r n x h'
theorem cf_none : ∀ (names : List (Str × NameKind)) (n : Nat) (x : Str), x ∉ ownNames names → (cellsFrom n names []).lookup x = none
  | [], _, _, h => rfl
  | (y, k) :: r, n, x, h => by
    unfold cellsFrom
    cases hk : k == NameKind.cell with
    | true =>
      simp only [if_true]
      simp only [ownNames, List.filter_cons, hk, if_true, List.map_cons, List.mem_cons, not_or] at h
      rw [cf_app, lookup_app, cf_none r (n + 1) x h.2, List.lookup_cons]
      have : (x == y) = false := by simpa using h.1
      rw [this]; rfl
    | false =>
      have h' : x ∉ ownNames r := by simpa [ownNames, hk] using h
      exact cf_none r n x h'

/-- the cells that a comprehension takes over -/
noncomputable def closeL (env : Env) : List (Str × NameKind) → List (Str × Addr) → List (Str × Addr)
  | [], acc => acc
  | (x, k) :: r, acc => closeL env r (if k == .free then (x, (env.cells.lookup x).getD 0) :: acc else acc)
theorem closeL_mem {env : Env} : ∀ (names : List (Str × NameKind)) (acc : List (Str × Addr)) (x : Str) (a : Addr), (closeL env names acc).lookup x = some a → acc.lookup x = some a ∨ ((x, NameKind.free) ∈ names ∧ a = (env.cells.lookup x).getD 0)
  | [], _, _, _, h => .inl h
  | (y, k) :: r, acc, x, a, h => by
    unfold closeL at h
    rcases closeL_mem r _ x a h with g | ⟨h1, h2⟩
    · cases hk : k == NameKind.free with
      | false => rw [hk] at g; exact .inl g
      | true =>
        rw [hk, if_pos rfl, List.lookup_cons] at g
        cases hx : x == y with
        | true =>
          rw [hx] at g
          injection g with g
          have e1 : x = y := by simpa using hx
          have e2 : k = .free := by simpa using hk
          exact .inr ⟨by rw [e1, e2]; exact List.mem_cons_self, by rw [← g, e1]⟩
        | false => rw [hx] at g; exact .inl g
    · exact .inr ⟨List.mem_cons_of_mem _ h1, h2⟩
theorem closeL_some {env : Env} : ∀ (names : List (Str × NameKind)) (acc : List (Str × Addr)) (x : Str), ((x, NameKind.free) ∈ names ∨ (acc.lookup x).isSome) → ((closeL env names acc).lookup x).isSome
  | [], _, _, h => by rcases h with h | h; cases h; exact h
  | (y, k) :: r, acc, x, h => by
    unfold closeL
    refine closeL_some r _ x ?_
    rcases h with h | h
    · rcases List.mem_cons.mp h with h | h
      · cases h; right; simp [List.lookup_cons]
      · exact .inl h
    · right
      cases hk : k == NameKind.free with
      | false => simpa using h
      | true =>
        simp only [if_true, List.lookup_cons]
        cases x == y with
        | true => rfl
        | false => exact h
theorem closeL_lookup {env : Env} {names : List (Str × NameKind)} {x : Str} {a : Addr} (h : (x, NameKind.free) ∈ names) (hc : env.cells.lookup x = some a) : (closeL env names []).lookup x = some a := by
  obtain ⟨b, hb⟩ := Option.isSome_iff_exists.mp (closeL_some names [] x (.inl h) (env := env))
  rcases closeL_mem names [] x b hb with h1 | ⟨_, h1⟩
  · cases h1
  · rw [hc] at h1; rw [hb, h1]; rfl
theorem closure_eq {env : Env} (scope : Scope) (h : ∀ x, (x, NameKind.free) ∈ scope.names → ∃ a, env.cells.lookup x = some a) : closureFor scope env = pure (closeL env scope.names []) := by
  have gen : ∀ (names : List (Str × NameKind)) (acc : List (Str × Addr)), (∀ x, (x, NameKind.free) ∈ names → ∃ a, env.cells.lookup x = some a) →
      (forIn names acc fun (x : Str × NameKind) (cs : List (Str × Addr)) => (if (x.2 == NameKind.free) = true then (do let a ← cellOf env x.1; pure (ForInStep.yield ((x.1, a) :: cs))) else pure (ForInStep.yield cs) : Sem (ForInStep (List (Str × Addr))))) = pure (closeL env names acc) := by
    intro names
    induction names with
    | nil => intro acc _; rw [List.forIn_nil]; rfl
    | cons y r ih =>
      intro acc hx
      obtain ⟨n, k⟩ := y
      rw [List.forIn_cons]
      unfold closeL
      cases hk : k == NameKind.free with
      | true =>
        have e2 : k = .free := by simpa using hk
        subst e2
        obtain ⟨a, ha⟩ := hx n List.mem_cons_self
        simp only [if_true, cellOf, ha, pure_bind, Option.getD_some]
        exact ih _ fun x h => hx x (List.mem_cons_of_mem _ h)
      | false =>
        simp only [Bool.false_eq_true, if_false, pure_bind]
        exact ih _ fun x h => hx x (List.mem_cons_of_mem _ h)
  have := gen scope.names [] h
  unfold closureFor
  simpa using this

noncomputable def relabelN (names : List (Str × NameKind)) (sc : List (Str × NameKind)) : List (Str × NameKind) :=
  names.map fun (n, k) => if (k == .free && sc.lookup n == some .cell) then (n, .cell) else (n, k)
theorem relabel_names {scope : Scope} {env : Env} {sc : List (Str × NameKind)} (S : Stat sc env) : (relabel scope env).names = relabelN scope.names sc := by
  unfold relabel relabelN Env.kindOf
  simp only [S.kind, S.names, beq_self_eq_true, Bool.and_true]

/-- a comprehension's table of names against the table around it -/
noncomputable def ckVt (names : List (Str × NameKind)) (vt vt' : VT) (mp : List (Option Nat)) : Bool :=
  (vt'.length == mp.length) && (vt'.zip mp).all fun p => match p.1.2, p.2 with
    | .loc, none => true
    | .own, none => (ownNames names).contains p.1.1
    | .fre, some j => names.contains (p.1.1, NameKind.free) && !(ownNames names).contains p.1.1 && (match vt[j]? with
      | some (y, vk) => y == p.1.1 && vk != .loc
      | none => false)
    | _, _ => false
noncomputable def ckFree (names : List (Str × NameKind)) (vt : VT) : Bool := names.all fun p => p.2 != .free || vt.any fun q => q.1 == p.1 && q.2 != .loc
noncomputable def fm0 (mp : List (Option Nat)) (fm : Fm) : Fm := mp.map fun o => o.bind fun j => fget fm j

section
variable {C : Cx} {d : Nat} {sc : List (Str × NameKind)} {vt : VT}
theorem pushCells_live {h : Heap} {names : List (Str × NameKind)} : Kp h (pushCells h names) := fun b o e => pushCells_keeps names h b o e

/-- a comprehension's activation begins -/
theorem comp_enter {env : Env} {own W : List Addr} {ρ : List (List Addr)} {fm : Fm} {sto : Sto} {h hh : Heap} {scope : Scope} {vt' : VT} {mp : List (Option Nat)} {D : Addr} {ac : AC} {wr : List Addr}
    (S : Stat sc env) (I : Inv C vt env own W ρ fm sto h) (ck : ckVt scope.names vt vt' mp = true) (nd : (vt'.map (·.1)).Nodup)
    (k : Kp h hh) (hwr : ∀ b ∈ wr, h.get? b = none) (wrl : ∀ b ∈ wr, ∃ o, hh.get? b = some o) (hD : h.get? D = none) (hDwr : D ∉ wr) (acr : ∀ W ρ, AcRep C hh W ρ D ac)
    {cenv : Env} (hcl : cenv.locals = hh.objs.size) (hcc : cenv.cells = cellsFrom (hh.objs.size + 1) scope.names [] ++ closeL env scope.names []) :
    ∃ own', hh.objs.size ∈ own' ∧ (∀ a ∈ own', hh.get? a = none) ∧
      CInv C vt' cenv own' (own' ++ (D :: (wr ++ W))) ρ (fm0 mp fm) sto D ac (pushCells (hh.push { cls := .type "dict", data := .dict #[] }) scope.names) := by
  have ok := cellsFrom_ok scope.names (hh.push { cls := .type "dict", data := .dict #[] }) (hh.objs.size + 1) [] ⟨fun _ _ hm => (nomatch hm), List.Pairwise.nil⟩ (by rw [Heap.size_push]; exact Nat.le_refl _)
  rw [Heap.size_push] at ok
  have kp : Kp hh (pushCells (hh.push { cls := .type "dict", data := .dict #[] }) scope.names) := (Kp.push _ _).trans pushCells_live
  generalize hH : pushCells (hh.push { cls := .type "dict", data := .dict #[] }) scope.names = H at ok kp
  have hNs : H.Ns hh.objs.size (fun _ => none) := by
    rw [← hH]
    refine Heap.Ns.keeps ?_ (fun b o e => pushCells_live b o e)
    exact ⟨_, _, _, Heap.get?_push_size _ rfl, rfl, (fun e he => by simp at he), fun _ => rfl⟩
  generalize hcs : cellsFrom (hh.objs.size + 1) scope.names [] = cs at ok hcc
  have fresh : ∀ a, hh.objs.size ≤ a → hh.get? a = none := fun a ha => by
    cases e : hh.get? a with
    | none => rfl
    | some o' => exact absurd (Heap.lt_size e) (Nat.not_lt.mpr ha)
  refine ⟨hh.objs.size :: cs.map (·.2), List.mem_cons_self, fun a q => ?_, ?_⟩
  · rcases List.mem_cons.mp q with q | q
    · exact fresh a (by rw [q]; exact Nat.le_refl _)
    · obtain ⟨⟨n, c⟩, h1, h2⟩ := List.mem_map.mp q
      exact fresh a (by rw [← h2]; exact Nat.le_of_succ_le (ok.empty n c h1).2)
  have ownfresh : ∀ a ∈ hh.objs.size :: cs.map (·.2), hh.get? a = none := fun a q => by
    rcases List.mem_cons.mp q with q | q
    · exact fresh a (by rw [q]; exact Nat.le_refl _)
    · obtain ⟨⟨n, c⟩, h1, h2⟩ := List.mem_map.mp q
      exact fresh a (by rw [← h2]; exact Nat.le_of_succ_le (ok.empty n c h1).2)
  have Dl : ∃ o, hh.get? D = some o := (acr W ρ).live
  have hw : ∀ a ∈ hh.objs.size :: cs.map (·.2) ++ (D :: (wr ++ W)), a ∈ W ∨ h.get? a = none := fun a q => by
    rcases List.mem_append.mp q with q | q
    · exact .inr (none_of_kp k (ownfresh a q))
    · rcases List.mem_cons.mp q with q | q
      · exact .inr (q ▸ hD)
      · exact (List.mem_append.mp q).elim (fun q => .inr (hwr a q)) .inl
  have kk : Kp h H := k.trans kp
  have rr : ∀ {a : AV} {u : Value}, Rep C h W ρ a u → Rep C H (hh.objs.size :: cs.map (·.2) ++ (D :: (wr ++ W))) ρ a u := fun z => Rep.mono (fun b o _ g => kk b o g) hw (fun _ _ e => e) _ _ z
  -- facts of the tables
  unfold ckVt at ck
  rw [Bool.and_eq_true] at ck
  obtain ⟨ck1, ck2⟩ := ck
  have ck1 : vt'.length = mp.length := by simpa using ck1
  rw [List.all_eq_true] at ck2
  have entry : ∀ {i : Nat} {x : Str} {vk : VK}, vt'[i]? = some (x, vk) → ∃ o, mp[i]? = some o ∧ ((vk = .loc ∧ o = none) ∨ (vk = .own ∧ o = none ∧ x ∈ ownNames scope.names) ∨
      (vk = .fre ∧ ∃ j vk', o = some j ∧ (x, NameKind.free) ∈ scope.names ∧ x ∉ ownNames scope.names ∧ vt[j]? = some (x, vk') ∧ vk' ≠ .loc)) := by
    intro i x vk e
    have hlt := (List.getElem?_eq_some_iff.mp e).1
    have hm : mp[i]? = some mp[i] := List.getElem?_eq_getElem (by omega)
    refine ⟨_, hm, ?_⟩
    have mem : ((x, vk), mp[i]) ∈ vt'.zip mp := by
      apply List.mem_of_getElem? (i := i)
      rw [List.getElem?_zip_eq_some]
      exact ⟨e, hm⟩
    have := ck2 _ mem
    generalize mp[i] = o at this
    cases vk with
    | loc => cases o with
      | none => exact .inl ⟨rfl, rfl⟩
      | some j => simp at this
    | own => cases o with
      | none => exact .inr (.inl ⟨rfl, rfl, by simpa using this⟩)
      | some j => simp at this
    | fre => cases o with
      | none => simp at this
      | some j =>
        simp only [Bool.and_eq_true, Bool.not_eq_true'] at this
        obtain ⟨⟨h1, h2⟩, h3⟩ := this
        split at h3
        · rename_i y vk' hv
          simp only [Bool.and_eq_true, beq_iff_eq, bne_iff_ne, ne_eq] at h3
          obtain ⟨rfl, h4⟩ := h3
          exact .inr (.inr ⟨rfl, j, vk', rfl, by simpa using h1, by simpa using h2, hv, h4⟩)
        · cases h3
  have f0 : ∀ {i : Nat} {o : Option Nat} {av : AV}, mp[i]? = some o → (fm0 mp fm)[i]? = some (some av) → ∃ j, o = some j ∧ fm[j]? = some (some av) := by
    intro i o av e e'
    unfold fm0 at e'
    rw [List.getElem?_map, e] at e'
    simp only [Option.map_some, Option.some.injEq] at e'
    obtain ⟨j, h1, h2⟩ := Option.bind_eq_some_iff.mp e'
    exact ⟨j, h1, fget_some h2⟩
  have lk_own : ∀ {x}, x ∈ ownNames scope.names → ∃ a, cs.lookup x = some a ∧ cenv.cells.lookup x = some a := by
    intro x hx
    obtain ⟨a, e⟩ := cf_some scope.names (hh.objs.size + 1) x hx
    rw [hcs] at e
    exact ⟨a, e, by rw [hcc, lookup_app, e]; rfl⟩
  have lk_fre : ∀ {x a}, x ∉ ownNames scope.names → (x, NameKind.free) ∈ scope.names → env.cells.lookup x = some a → cenv.cells.lookup x = some a := by
    intro x a h1 h2 h3
    have e := cf_none scope.names (hh.objs.size + 1) x h1
    rw [hcs] at e
    rw [hcc, lookup_app, e, closeL_lookup h2 h3]; rfl
  have fr : FrR C vt' cenv (hh.objs.size :: cs.map (·.2)) (hh.objs.size :: cs.map (·.2) ++ (D :: (wr ++ W))) ρ (fm0 mp fm) H := by
    refine ⟨⟨fun _ => none, by rw [hcl]; exact hNs, fun i x av h1 h2 => ?_⟩, fun i x vk h1 h2 => ?_, fun i i' x x' vk vk' a a' h1 h1' h2 h2' hne l1 l2 => ?_, nd, by unfold fm0; rw [List.length_map]; exact ck1.symm⟩
    · obtain ⟨o, h3, h4⟩ := entry h1
      rcases h4 with ⟨_, h4⟩ | ⟨h4, _⟩ | ⟨h4, _⟩
      · obtain ⟨j, h5, _⟩ := f0 h3 h2
        rw [h4] at h5; cases h5
      · cases h4
      · cases h4
    · obtain ⟨o, h3, h4⟩ := entry h1
      rcases h4 with ⟨h4, _⟩ | ⟨h4, h5, h6⟩ | ⟨h4, j, vk', h5, h6, h7, h8, h9⟩
      · exact absurd h4 h2
      · obtain ⟨a, e1, e2⟩ := lk_own h6
        refine ⟨a, none, e2, (ok.empty x a (mem_of_lookup e1)).1, fun _ => List.mem_cons_of_mem _ (List.mem_map.mpr ⟨(x, a), mem_of_lookup e1, rfl⟩), fun av h10 => ?_⟩
        obtain ⟨j, h11, _⟩ := f0 h3 h10
        rw [h5] at h11; cases h11
      · obtain ⟨a, v, e1, e2, e3, e4⟩ := I.fr.cel j x vk' h8 h9
        refine ⟨a, v, lk_fre h7 h6 e1, e2.keeps kk, fun q => (by rw [h4] at q; cases q), fun av h10 => ?_⟩
        obtain ⟨j', h11, h12⟩ := f0 h3 h10
        rw [h5] at h11; cases h11
        obtain ⟨u, h13, h14⟩ := e4 av h12
        exact ⟨u, h13, rr h14⟩
    · intro q
      subst q
      have hxx : x ≠ x' := fun q => hne (vt_name nd h1 (q ▸ h1'))
      obtain ⟨o, h3, h4⟩ := entry h1
      obtain ⟨o', h3', h4'⟩ := entry h1'
      have info : ∀ {x : Str} {vk : VK} {o : Option Nat}, vk ≠ VK.loc → cenv.cells.lookup x = some a → ((vk = VK.loc ∧ o = none) ∨ (vk = .own ∧ o = none ∧ x ∈ ownNames scope.names) ∨
          (vk = .fre ∧ ∃ j vk', o = some j ∧ (x, NameKind.free) ∈ scope.names ∧ x ∉ ownNames scope.names ∧ vt[j]? = some (x, vk') ∧ vk' ≠ VK.loc)) →
          ((x, a) ∈ cs) ∨ (∃ (j : Nat) (vk' : VK), vt[j]? = some (x, vk') ∧ vk' ≠ VK.loc ∧ env.cells.lookup x = some a ∧ ∃ o, h.get? a = some o) := by
        intro x vk o h2 l h4
        rcases h4 with ⟨h4, _⟩ | ⟨h4, h5, h6⟩ | ⟨h4, j, vk', h5, h6, h7, h8, h9⟩
        · exact absurd h4 h2
        · obtain ⟨b, e1, e2⟩ := lk_own h6
          rw [l] at e2; cases e2
          exact .inl (mem_of_lookup e1)
        · obtain ⟨b, v, e1, ⟨ob, e2, _⟩, e3, e4⟩ := I.fr.cel j x vk' h8 h9
          have := lk_fre h7 h6 e1
          rw [l] at this; cases this
          exact .inr ⟨j, vk', h8, h9, e1, ob, e2⟩
      have csfresh : ∀ {x : Str}, (x, a) ∈ cs → h.get? a = none := fun q => none_of_kp k (ownfresh a (List.mem_cons_of_mem _ (List.mem_map.mpr ⟨_, q, rfl⟩)))
      rcases info h2 l1 h4 with z | ⟨j, vk1, z1, z2, z3, ob, z4⟩ <;> rcases info h2' l2 h4' with z' | ⟨j', vk1', z1', z2', z3', ob', z4'⟩
      · exact hxx (name_of_addr ok.apart z z')
      · rw [csfresh z] at z4'; cases z4'
      · rw [csfresh z'] at z4; cases z4
      · refine I.fr.apart j j' x x' vk1 vk1' a a z1 z1' z2 z2' (fun q => hxx ?_) z3 z3' rfl
        subst q
        rw [z1] at z1'; cases z1'; rfl
  have nodOwn : (hh.objs.size :: cs.map (·.2)).Nodup := by
    refine List.nodup_cons.mpr ⟨fun q => ?_, ?_⟩
    · obtain ⟨⟨n, c⟩, h1, h2⟩ := List.mem_map.mp q
      have := (ok.empty n c h1).2
      simp only at h2
      omega
    · rw [List.nodup_iff_pairwise_ne, List.pairwise_map]
      exact ok.apart
  have hlive : ∀ a ∈ hh.objs.size :: cs.map (·.2) ++ (D :: (wr ++ W)), ∃ o, H.get? a = some o := fun a q => by
    rcases List.mem_append.mp q with q | q
    · rcases List.mem_cons.mp q with q | q
      · obtain ⟨o, _, _, e, _⟩ := hNs
        exact ⟨o, q ▸ e⟩
      · obtain ⟨⟨n, c⟩, h1, h2⟩ := List.mem_map.mp q
        obtain ⟨o, e, _⟩ := (ok.empty n c h1).1
        exact ⟨o, by rw [← h2]; exact e⟩
    · rcases List.mem_cons.mp q with q | q
      · obtain ⟨o, e⟩ := Dl
        exact ⟨o, kp _ _ (q ▸ e)⟩
      · rcases List.mem_append.mp q with q | q
        · obtain ⟨o, e⟩ := wrl a q
          exact ⟨o, kp _ _ e⟩
        · obtain ⟨o, e⟩ := I.live a q
          exact ⟨o, kk _ _ e⟩
  have I' := I.zero.enter (env' := cenv) kk (fun a q => none_of_kp k (ownfresh a q)) nodOwn hlive (fun a q => List.mem_append_right _ (List.mem_cons_of_mem _ (List.mem_append_right _ q))) hw (fun a q => List.mem_append_left _ q) fr (by rw [hcl]; exact List.mem_cons_self)
  have hDl : ∀ a ∈ [D], a = D := fun a q => List.mem_singleton.mp q
  refine ⟨I', ⟨fun a q z => ?_, fun a q z => ?_, fun i x vk a h1 h2 h3 q => ?_, fun a q => ?_⟩, List.mem_append_right _ List.mem_cons_self, (acr (hh.objs.size :: cs.map (·.2) ++ (D :: (wr ++ W))) ρ).mono (fun b o _ e => kp b o e) (fun a q => .inl q) (fun _ _ e => e) fun o e => kp _ _ e⟩
  · rw [hDl a q] at z
    obtain ⟨o, e⟩ := Dl
    rw [ownfresh D z] at e; cases e
  · rw [hDl a q] at z
    obtain ⟨r, p, z⟩ := List.mem_flatten.mp z
    obtain ⟨o, e⟩ := I.live D (I.rhoW r p D z)
    rw [hD] at e; cases e
  · rw [hDl a q] at h3
    obtain ⟨o, e⟩ := Dl
    obtain ⟨o', h4, h5⟩ := entry h1
    rcases h5 with ⟨h5, _⟩ | ⟨h5, h6, h7⟩ | ⟨h5, j, vk', h6, h7, h8, h9, h10⟩
    · exact h2 h5
    · obtain ⟨b, e1, e2⟩ := lk_own h7
      rw [h3] at e2; cases e2
      rw [ownfresh D (List.mem_cons_of_mem _ (List.mem_map.mpr ⟨(x, D), mem_of_lookup e1, rfl⟩))] at e; cases e
    · obtain ⟨b, v, e1, ⟨ob, e2, _⟩, e3, e4⟩ := I.fr.cel j x vk' h9 h10
      have := lk_fre h8 h7 e1
      rw [h3] at this; cases this
      rw [hD] at e2; cases e2
  · rw [hDl a q]
    exact none_of_kp I.base.2.1 hD
end

section
variable {C : Cx} {d : Nat} {sc : List (Str × NameKind)} {vt : VT}
theorem newEnvC {A : Around} {s : Shared} {E : Value → Shared → Prop} {scope : Scope} {globals : Addr} {cl : List (Str × Addr)} {qual : Str} {env : Env} {Q : Env → Shared → Prop}
    (hQ : Q { scope := scope, locals := s.heap.objs.size, globals := globals, cells := cellsFrom (s.heap.objs.size + 1) scope.names [] ++ cl, qual := qual, func := none, code := env.code, frame := env.frame, builtins := env.builtins }
      { s with heap := pushCells (s.heap.push { cls := .type "dict", data := .dict #[] }) scope.names }) :
    wpAny (model C.prog C.w) A (newFunctionEnv scope globals cl [] qual none .none (some env)) Q E s := by
  simp only [newFunctionEnv, Option.isSome_some, if_true]
  refine wpAny_bind (wpAny_alloc ?_)
  refine wpAny_bind (wpAny_layCells _ (fun name kind cells => by cases hkc : kind == NameKind.cell <;> simp [hkc]) _ _ _ _ ?_)
  rw [cf_app]
  rw [show ({ s with heap := s.heap.push { cls := .type "dict", data := .dict #[] } } : Shared).heap.objs.size = s.heap.objs.size + 1 from Heap.size_push ..]
  simp only [List.forIn_nil]
  exact wpAny_bind (wpAny_pure (wpAny_pure hQ))

theorem CInv.grow {env : Env} {own W W' : List Addr} {ρ : List (List Addr)} {fm : Fm} {sto : Sto} {D : Addr} {ac : AC} {h h' : Heap} (I : CInv C vt env own W ρ fm sto D ac h) (k : Kp h h') (hl : ∀ a ∈ W', ∃ o, h'.get? a = some o) (hs : ∀ a ∈ W, a ∈ W')
    (hw : ∀ a ∈ W', a ∈ W ∨ h.get? a = none) : CInv C vt env own W' ρ fm sto D ac h' :=
  ⟨I.inv.grow k hl hs hw, I.ap, hs _ I.dw, I.acc.mono (fun b o _ e => k b o e) hw (fun _ _ e => e) fun o e => k _ _ e⟩

theorem compStart_1 {A : Around} {s : Shared} {R : Result → Shared → Prop} {elt : Expr} {g0 : Comprehension} {target iter : Expr} {ifs : List Expr} {scope pos it acc env}
    (h0 : codeAny (model C.prog C.w) A (.compLoop (.ListComp elt [g0, ⟨target, iter, ifs, 0⟩] scope pos) 1 it acc env) R s)
    (h : wpAny (model C.prog C.w) A (pyIter it) (fun it' s' => codeAny (model C.prog C.w) A (.compLoop (.ListComp elt [g0, ⟨target, iter, ifs, 0⟩] scope pos) 1 it' acc env) R s')
      (notedBy (model C.prog C.w) A env fun x s' => R (.error x) s') s) :
    codeAny (model C.prog C.w) A (.compStart (.ListComp elt [g0, ⟨target, iter, ifs, 0⟩] scope pos) 1 it acc env) R s := by
  refine codeAny_of_tree ?_
  show wpAny _ _ ((compStart (.ListComp elt [g0, ⟨target, iter, ifs, 0⟩] scope pos) 1 it acc env).onRaise (fun x => do noteFrame x env; standAt theWindowsPlace)) _ _ s
  refine wpAny_notedAt ?_
  unfold compStart
  show wpAny _ _ (ask >>= _) _ _ s
  refine wpAny_bind (wpAny_askSetting (wpAny_ite ?_))
  split
  · first
      | exact wpAny_bind (wpAny_pure (wpAny_pure (And.intro rfl h0)))
      | exact wpAny_pure (And.intro rfl h0)
  · first
      | exact wpAny_bind (wpAny_rule (wpAny_bind (wpAny_standAt (wpAny_bind (wpAny_mono h (fun it' s' h' => wpAny_pure (And.intro rfl h')) fun _ _ x => x)))))
      | (refine wpAny_bind (wpAny_rule ?_); show wpAny _ _ (standAt iter.pos >>= _) _ _ s; exact wpAny_bind (wpAny_standAt (wpAny_bind (wpAny_mono h (fun it' s' h' => wpAny_pure (And.intro rfl h')) fun _ _ x => x))))

/-- the second clause of a list comprehension -/
noncomputable def nestL (e iter : Expr) (acc : Value) (env : Env) : Sem Unit := do
  let x ← eval iter env
  standAt iter.pos
  let x ← foldedSetIterable iter env x
  let _ ← runOwn (.compStart e 1 (← holding [x] (pyIter x)) acc env) env
theorem turn_nest (elt tg0 iter0 tg iter : Expr) (ifs0 ifs : List Expr) (scope : Scope) (pos : Pos) (it acc : Value) (env : Env) :
    compTurn (.ListComp elt [⟨tg0, iter0, ifs0, 0⟩, ⟨tg, iter, ifs, 0⟩] scope pos) 0 it acc env = (do
      standAt iter0.pos
      match ← pyNext it with
      | none => pure (.done .next)
      | some v =>
        letOwnedTupleGo tg0 it v
        assign tg0 env v
        let mut ok := true
        for c in ifs0 do
          if ok then ok ← isTrue c env (eval c env)
        if ok then
          nestL (.ListComp elt [⟨tg0, iter0, ifs0, 0⟩, ⟨tg, iter, ifs, 0⟩] scope pos) iter acc env
        again (.compLoop (.ListComp elt [⟨tg0, iter0, ifs0, 0⟩, ⟨tg, iter, ifs, 0⟩] scope pos) 0 it acc env)) := by
  have e : compTurn (.ListComp elt [⟨tg0, iter0, ifs0, 0⟩, ⟨tg, iter, ifs, 0⟩] scope pos) 0 it acc env = (do
      standAt iter0.pos
      match ← pyNext it with
      | none => pure (.done .next)
      | some v =>
        letOwnedTupleGo tg0 it v
        assign tg0 env v
        let mut ok := true
        for c in ifs0 do
          if ok then ok ← isTrue c env (eval c env)
        if ok then
          let x ← eval iter env
          standAt iter.pos
          let x ← foldedSetIterable iter env x
          let _ ← runOwn (.compStart (.ListComp elt [⟨tg0, iter0, ifs0, 0⟩, ⟨tg, iter, ifs, 0⟩] scope pos) 1 (← holding [x] (pyIter x)) acc env) env
        again (.compLoop (.ListComp elt [⟨tg0, iter0, ifs0, 0⟩, ⟨tg, iter, ifs, 0⟩] scope pos) 0 it acc env)) := by rfl
  rw [e]
  unfold nestL
  simp only [bind_assoc, pure_bind]
theorem turn_one (elt tg0 iter0 : Expr) (ifs0 : List Expr) (scope : Scope) (pos : Pos) (it acc : Value) (env : Env) :
    compTurn (.ListComp elt [⟨tg0, iter0, ifs0, 0⟩] scope pos) 0 it acc env = (do
      standAt iter0.pos
      match ← pyNext it with
      | none => pure (.done .next)
      | some v =>
        letOwnedTupleGo tg0 it v
        assign tg0 env v
        let mut ok := true
        for c in ifs0 do
          if ok then ok ← isTrue c env (eval c env)
        if ok then
          emitL elt acc env
        again (.compLoop (.ListComp elt [⟨tg0, iter0, ifs0, 0⟩] scope pos) 0 it acc env)) := by rfl
theorem turn_two (elt : Expr) (g0 : Comprehension) (tg0 iter0 : Expr) (ifs0 : List Expr) (scope : Scope) (pos : Pos) (it acc : Value) (env : Env) :
    compTurn (.ListComp elt [g0, ⟨tg0, iter0, ifs0, 0⟩] scope pos) 1 it acc env = (do
      standAt iter0.pos
      match ← pyNext it with
      | none => pure (.done .next)
      | some v =>
        letOwnedTupleGo tg0 it v
        assign tg0 env v
        let mut ok := true
        for c in ifs0 do
          if ok then ok ← isTrue c env (eval c env)
        if ok then
          emitL elt acc env
        again (.compLoop (.ListComp elt [g0, ⟨tg0, iter0, ifs0, 0⟩] scope pos) 1 it acc env)) := by rfl

theorem bd_nest {elt tg iter : Expr} {g0 : Comprehension} {ifs : List Expr} {scope : Scope} {pos : Pos} {ks : List Nat} {fg : Fm → Sto → Option (List (List AV))} {fi : ST} {fb : SB}
    (t : Tg sc vt tg ks) (hi : ItT C d sc vt tg iter fg) (hifs : IfsT C d sc vt ifs fi) (hb : BdT C d sc vt (emitL elt) fb) (hs : ∀ env x, foldedSetIterable iter env x = pure x) :
    BdT C d sc vt (nestL (.ListComp elt [g0, ⟨tg, iter, ifs, 0⟩] scope pos) iter) (fun fm st ac => (fg fm st).bind fun ls => loopSem ks fi fb st ls fm ac) := by
  intro A env own W ρ fm sto s D ac fm' ac' Q E G S CI hf hQ
  obtain ⟨ls, hls, hf⟩ := Option.bind_eq_some_iff.mp hf
  unfold nestL
  refine wpAny_bind (wpAny_mono (hi G S CI.inv hls (Q := fun it s₂ => wpAny (model C.prog C.w) A (runOwn (.compStart (.ListComp elt [g0, ⟨tg, iter, ifs, 0⟩] scope pos) 1 it (.ref D) env) env) (fun _ s' => Q () s') E s₂) ?_) (fun x s₁ h₁ => ?_) fun _ _ h' => h')
  · intro it fp wr P St h₁ t₁ wx st0 k₁ hwr hfp hrep
    have W0 := wx A G.h
    have wrlive : ∀ a ∈ wr, ∃ o, h₁.get? a = some o := fun a q => W0.alive 0 _ st0 a (W0.sub a q)
    have CI₁ : CInv C vt env own (wr ++ W) ρ fm sto D ac h₁ := CI.grow k₁ (fun a q => (List.mem_append.mp q).elim (wrlive a) fun q => let ⟨o, g⟩ := CI.inv.live a q; ⟨o, k₁ _ _ g⟩) (fun a q => List.mem_append_right _ q)
      fun a q => (List.mem_append.mp q).elim (fun q => .inr (hwr a q)) .inl
    have hDwr : D ∉ wr := fun q => by obtain ⟨o, g⟩ := CI.acc.live; rw [hwr D q] at g; cases g
    refine wpAny_runOwn ?_
    have loop := cp_loop (lv := 1) t hifs hb (fun it D env => ⟨_, turn_two elt g0 tg iter ifs scope pos it (.ref D) env⟩) (fun _ _ _ _ => rfl) (fun _ _ _ => rfl) (s := { s with heap := h₁, toks := t₁ }) (env := env)
      (R := fun r s' => match r with | .ok f => Q () s' | .error e => cameBackBy (model C.prog C.w) A env E e s') G S W0 st0 CI₁ (CI.inv.apartOf hwr) hDwr
      (fun b hb => by
        by_cases hbw : b ∈ wr
        · exact .inl hbw
        · exact .inr fun q => (List.mem_append.mp q).elim hbw (hfp b hb)) (fun b q => List.mem_append_left _ q) hrep hf fun W' h' tk I' w1 w2 k' => by
          refine hQ W' h' tk I' ⟨fun b x h1 _ e => ?_, fun a q => ?_, fun a q => ?_, [], by simp, by simp⟩
          · have hbw : b ∉ wr := fun q => by rw [hwr b q] at e; cases e
            exact k' b x (fun q => h1 (List.mem_cons_of_mem _ q)) (fun q => h1 (q ▸ List.mem_cons_self)) hbw (k₁ b x e)
          · refine w1 a (List.mem_append_right _ q) fun z => ?_
            obtain ⟨o, g⟩ := CI.inv.live a q
            rw [hwr a z] at g; cases g
          · rcases w2 a q with z | z
            · exact (List.mem_append.mp z).elim (fun q => .inr (hwr a q)) .inl
            · exact .inr (none_of_kp k₁ z)
    exact compStart_1 loop (W0.self 0 _ _ _ st0 loop)
  · refine wpAny_bind (wpAny_standAt (wpAny_bind (wpAny_of_eq (hs env x) ?_)))
    refine wpAny_bind (wpAny_holding (wpAny_mono h₁ (fun it s₂ h₂ => ?_) fun _ _ h' => h'))
    exact wpAny_bind (wpAny_mono h₂ (fun _ _ h' => wpAny_pure h') fun _ _ h' => h')

theorem valueAt_atKey : ∀ (ks : List (List Nat)) (ys : List Value), ks.length = ys.length → valueAt ((ks.map fun k => (⟨k.toArray⟩ : Str)).zip ys) = atKey ks ys
  | [], ys, _ => by funext x; rfl
  | k :: ks, [], h => by simp at h
  | k :: ks, y :: ys, h => by
    funext x
    have ih := congrFun (valueAt_atKey ks ys (by simpa using h)) x
    unfold atKey
    simp only [List.map_cons, List.zip_cons_cons, valueAt, List.find?_cons] at ih ⊢
    by_cases q : x = ⟨k.toArray⟩
    · subst q; simp
    · have q' : ¬ ((⟨k.toArray⟩ : Str) = x) := fun z => q z.symm
      simp only [q, q', decide_false, if_false]
      exact ih
noncomputable def acAV : AC → AV
  | .list l => .list l
  | .dict ks vs => .dict ks vs

/-- a whole comprehension -/
theorem comp_sound {e : Expr} {scope : Scope} {pos : Pos} {newAcc first : Sem Value} {use : Option (Value → Sem Unit)} {tg iter : Expr} {ifs : List Expr} {gs : List Comprehension} {m : Value → Env → Sem Unit} {ks : List Nat}
    {sc' : List (Str × NameKind)} {vt' : VT} {mp : List (Option Nat)} {fg : Fm → Sto → Option (List (List AV))} {fi : ST} {fb : SB} {ac0 : AC}
    (hcl : clausesOf e = ⟨tg, iter, ifs, 0⟩ :: gs) (hs : ∀ env x, foldedSetIterable iter env x = pure x) (hkind : scope.kind = .function) (hnames : ∀ x ∈ scope.names, x.2 = .local → scope.names.lookup x.1 = some .local)
    (hfree : ckFree scope.names vt = true) (hsc : relabelN scope.names sc = sc') (ck : ckVt scope.names vt vt' mp = true) (nd : (vt'.map (·.1)).Nodup)
    (hi : ItT C d sc vt tg iter fg) (t : Tg sc' vt' tg ks) (hifs : IfsT C d sc' vt' ifs fi) (hb : BdT C d sc' vt' m fb)
    (hturn : ∀ (it : Value) (D : Addr) (env : Env), ∃ pos, compTurn e 0 it (.ref D) env = (do
      standAt pos
      match ← pyNext it with
      | none => pure (.done .next)
      | some v =>
        letOwnedTupleGo tg it v
        assign tg env v
        let mut ok := true
        for c in ifs do
          if ok then ok ← isTrue c env (eval c env)
        if ok then
          m (.ref D) env
        again (.compLoop e 0 it (.ref D) env)))
    (hA : ∀ (A : Around) (it acc : Value) (env : Env), A.under (.compLoop e 0 it acc env) = A)
    (hden : ∀ (it acc : Value) (env : Env), (model C.prog C.w).den (.compLoop e 0 it acc env) = (compTurn e 0 it acc env).onRaise (fun x => do noteFrame x env; theTreesLotGoes x))
    (hstart : ∀ {A : Around} {env : Env} {it acc : Value} {R : Result → Shared → Prop} {s : Shared}, codeAny (model C.prog C.w) A (.compLoop e 0 it acc env) R s →
      wpAny (model C.prog C.w) A (pyIter it) (fun it' s' => codeAny (model C.prog C.w) A (.compLoop e 0 it' acc env) R s') (notedBy (model C.prog C.w) A env fun x s' => R (.error x) s') s → codeAny (model C.prog C.w) A (.compStart e 0 it acc env) R s)
    (hacc : ∀ {A : Around} {s : Shared} {Q : Value → Shared → Prop} {E : Value → Shared → Prop}, (∀ D h' tk, Kp s.heap h' → s.heap.get? D = none → (∀ W ρ, AcRep C h' W ρ D ac0) → Q (.ref D) { s with heap := h', toks := tk }) → wpAny (model C.prog C.w) A newAcc Q E s)
    {A : Around} {env : Env} {own W : List Addr} {ρ : List (List Addr)} {fm : Fm} {sto : Sto} {s : Shared} {ls : List (List AV)} {fm' : Fm} {ac' : AC} {Q : Value → Shared → Prop} {E : Value → Shared → Prop}
    (hfirst : first = eval iter env) (G : Good d A) (S : Stat sc env) (I : Inv C vt env own W ρ fm sto s.heap) (hls : fg fm sto = some ls) (hf : loopSem ks fi fb sto ls (fm0 mp fm) ac0 = some (fm', ac'))
    (hfin : ∀ D L h' tk m, Kp s.heap h' → s.heap.get? L = none → D ≠ L → h'.Ns L m → s.heap.get? D = none → Rep C h' (L :: W) ρ (acAV ac') (.ref D) → compPost (model C.prog C.w) A E use Q (.ref D) L (.ok .next) { s with heap := h', toks := tk }) :
    wpAny (model C.prog C.w) A (comprehension e scope env pos newAcc false first use) Q E s := by
  have hclos : ∀ x, (x, NameKind.free) ∈ scope.names → ∃ a, env.cells.lookup x = some a := fun x hx => by
    unfold ckFree at hfree
    rw [List.all_eq_true] at hfree
    have := hfree _ hx
    simp only [bne_self_eq_false, Bool.false_or, List.any_eq_true, Bool.and_eq_true, beq_iff_eq, bne_iff_ne, ne_eq] at this
    obtain ⟨⟨y, vk⟩, h1, h2, h3⟩ := this
    obtain ⟨j, h4⟩ := List.getElem?_of_mem h1
    simp only at h2
    subst h2
    obtain ⟨a, v, h5, _⟩ := I.fr.cel j y vk h4 h3
    exact ⟨a, h5⟩
  refine wpAny_comprehension_free hcl (hs env) (closure_eq scope hclos) hkind hnames ?_
  rw [hfirst]
  refine hi G S I hls fun it fp wr P St h₁ t₁ wx st0 k₁ hwr hfp hrep => ?_
  have W0 := wx A G.h
  have wrlive : ∀ a ∈ wr, ∃ o, h₁.get? a = some o := fun a q => W0.alive 0 _ st0 a (W0.sub a q)
  refine hacc fun D h₂ t₂ k₂ hD acr => ?_
  refine newEnvC ?_
  generalize hce : ({ scope := scope, locals := h₂.objs.size, globals := env.globals, cells := cellsFrom (h₂.objs.size + 1) scope.names [] ++ closeL env scope.names [], qual := env.qual, func := none, code := env.code, frame := env.frame, builtins := env.builtins } : Env) = cenv0
  have hDwr : D ∉ wr := fun q => by obtain ⟨o, g⟩ := wrlive D q; rw [hD] at g; cases g
  have k02 := k₁.trans k₂
  obtain ⟨own', ho1, ho2, CI⟩ := comp_enter (C := C) (D := D) (ac := ac0) (wr := wr) (cenv := { cenv0 with scope := relabel scope env }) S I ck nd k02 hwr (fun b q => let ⟨o, g⟩ := wrlive b q; ⟨o, k₂ _ _ g⟩) (none_of_kp k₁ hD) hDwr acr (by rw [← hce]) (by rw [← hce])
  have hL : cenv0.locals = h₂.objs.size := by rw [← hce]
  have S' : Stat sc' { cenv0 with scope := relabel scope env } := ⟨by show (relabel scope env).kind = _; exact hkind, by show (relabel scope env).names = _; rw [relabel_names S, hsc], by show cenv0.globals = _; rw [← hce]; exact S.glob, by show cenv0.builtins = _; rw [← hce]; exact S.bui⟩
  have kp3 : Kp h₂ (pushCells (h₂.push { cls := .type "dict", data := .dict #[] }) scope.names) := (Kp.push _ _).trans pushCells_live
  generalize pushCells (h₂.push { cls := .type "dict", data := .dict #[] }) scope.names = h₃ at CI kp3
  have ownf : ∀ a ∈ own', s.heap.get? a = none := fun a q => none_of_kp k02 (ho2 a q)
  have st3 : St 0 h₃ := W0.frame _ _ _ st0 fun b _ o e => kp3 _ _ (k₂ b o e)
  have wrW : ∀ b ∈ wr, b ∈ own' ++ (D :: (wr ++ W)) := fun b q => List.mem_append_right _ (List.mem_cons_of_mem _ (List.mem_append_left _ q))
  have hw01 : ∀ a ∈ own' ++ (D :: (wr ++ W)), a ∈ wr ++ W ∨ h₁.get? a = none := fun a q => by
    rcases List.mem_append.mp q with q | q
    · exact .inr (none_of_kp k₂ (ho2 a q))
    · rcases List.mem_cons.mp q with q | q
      · exact .inr (q ▸ hD)
      · exact .inl q
  have apwr : Apart C vt' { cenv0 with scope := relabel scope env } own' ρ wr := by
    refine ⟨fun a q z => ?_, fun a q z => ?_, fun i x vk a h1 h2 h3 q => ?_, fun a q => none_of_kp I.base.2.1 (hwr a q)⟩
    · obtain ⟨o, g⟩ := wrlive a q
      have := k₂ _ _ g
      rw [ho2 a z] at this; cases this
    · obtain ⟨r, p, z⟩ := List.mem_flatten.mp z
      obtain ⟨o, g⟩ := I.live a (I.rhoW r p a z)
      rw [hwr a q] at g; cases g
    · -- a cell is owned or old
      have old : a ∈ own' ∨ ∃ o, s.heap.get? a = some o := by
        by_cases hx : x ∈ ownNames scope.names
        · left
          obtain ⟨a', v, e1, _, e3, _⟩ := CI.inv.fr.cel i x vk h1 h2
          rw [h3] at e1; cases e1
          refine e3 ?_
          unfold ckVt at ck
          rw [Bool.and_eq_true, List.all_eq_true] at ck
          have ck1 : vt'.length = mp.length := by simpa using ck.1
          have hm : mp[i]? = some (mp[i]'(by have := (List.getElem?_eq_some_iff.mp h1).1; omega)) := List.getElem?_eq_getElem _
          have := ck.2 ((x, vk), _) (List.mem_of_getElem? (i := i) (by rw [List.getElem?_zip_eq_some]; exact ⟨h1, hm⟩))
          cases vk with
          | loc => exact absurd rfl h2
          | own => rfl
          | fre =>
            exfalso
            split at this
            · rename_i h5 _; cases h5
            · rename_i h5 _; cases h5
            · simp [hx] at this
            · cases this
        · right
          have hc : cenv0.cells.lookup x = some a := h3
          rw [← hce] at hc
          simp only at hc
          rw [lookup_app, cf_none _ _ _ hx] at hc
          simp only [Option.none_or] at hc
          rcases closeL_mem _ _ _ _ hc with z | ⟨z1, z2⟩
          · cases z
          · unfold ckFree at hfree
            rw [List.all_eq_true] at hfree
            have := hfree _ z1
            simp only [bne_self_eq_false, Bool.false_or, List.any_eq_true, Bool.and_eq_true, beq_iff_eq, bne_iff_ne, ne_eq] at this
            obtain ⟨⟨y, vk2⟩, g1, g2, g3⟩ := this
            obtain ⟨j, g4⟩ := List.getElem?_of_mem g1
            simp only at g2
            subst g2
            obtain ⟨b, v, g5, ⟨o, g6, _⟩, _⟩ := I.fr.cel j y vk2 g4 g3
            rw [g5] at z2
            simp only [Option.getD_some] at z2
            exact ⟨o, by rw [z2]; exact g6⟩
      rcases old with z | ⟨o, z⟩
      · obtain ⟨o, g⟩ := wrlive a q
        have := k₂ _ _ g
        rw [ho2 a z] at this; cases this
      · rw [hwr a q] at z; cases z
  have loop := cp_loop (lv := 0) t hifs hb hturn hA hden (A := A) (s := { s with heap := h₃, toks := t₂ }) (env := { cenv0 with scope := relabel scope env })
    (R := compPost (model C.prog C.w) A E use Q (.ref D) cenv0.locals) G S' W0 st3 CI apwr hDwr
    (fun b hb => by
      by_cases hbw : b ∈ wr
      · exact .inl hbw
      · refine .inr fun q => ?_
        obtain ⟨o, g⟩ := W0.alive 0 _ st0 b hb
        rcases hw01 b q with z | z
        · exact (List.mem_append.mp z).elim hbw (hfp b hb)
        · rw [z] at g; cases g) wrW (fun i vs as hp hg => Reps.mono (fun b o _ e => kp3 _ _ (k₂ b o e)) hw01 (fun _ _ e => e) _ _ (hrep i vs as hp hg)) hf fun W' h' tk I' w1 w2 k' => by
      obtain ⟨m, hNs, _⟩ := I'.inv.fr.loc
      have hNs : h'.Ns cenv0.locals m := hNs
      have DL : D ≠ cenv0.locals := fun q => by
        obtain ⟨o, g⟩ := (acr [] []).live
        rw [q, hL, ho2 _ ho1] at g; cases g
      have keep : Kp s.heap h' := fun b x e => k' b x (fun q => by rw [ownf b q] at e; cases e) (fun q => by rw [q, none_of_kp k₁ hD] at e; cases e) (fun q => by rw [hwr b q] at e; cases e) (kp3 _ _ (k02 b x e))
      refine hfin D cenv0.locals h' tk m keep (ownf _ (hL ▸ ho1)) DL hNs (none_of_kp k₁ hD) ?_
      have hDW : D ∉ cenv0.locals :: W := fun q => by
        rcases List.mem_cons.mp q with q | q
        · exact DL q
        · obtain ⟨o, g⟩ := I.live D q
          rw [none_of_kp k₁ hD] at g; cases g
      have hsub : ∀ a ∈ cenv0.locals :: W, a ∈ W' := fun a q => by
        rcases List.mem_cons.mp q with q | q
        · refine w1 a (List.mem_append_left _ (by rw [q, hL]; exact ho1)) fun z => ?_
          obtain ⟨o, g⟩ := wrlive a z
          have := k₂ _ _ g
          rw [q, hL, ho2 _ ho1] at this; cases this
        · refine w1 a (List.mem_append_right _ (List.mem_cons_of_mem _ (List.mem_append_right _ q))) fun z => ?_
          obtain ⟨o, g⟩ := I.live a q
          rw [hwr a z] at g; cases g
      have fin := I'.acc
      cases ac' with
      | list l =>
        obtain ⟨ys, pl, r⟩ := fin
        exact ⟨D, ys, rfl, hDW, pl, Reps.mono (fun b o _ e => e) (fun a q => .inl (hsub a q)) (fun _ _ e => e) _ _ r⟩
      | dict ks vs =>
        obtain ⟨ys, pl, r, e⟩ := fin
        exact ⟨D, ys, rfl, hDW, by rw [← valueAt_atKey ks ys (by rw [r.length]; exact e)]; exact pl.mapOf, Reps.mono (fun b o _ e => e) (fun a q => .inl (hsub a q)) (fun _ _ e => e) _ _ r⟩
  exact hstart loop (W0.self 0 _ _ _ st3 loop)
end

/-- the table of a comprehension, checked -/
noncomputable def cpOk (scope : Scope) (sc : List (Str × NameKind)) (vt : VT) (sc' : List (Str × NameKind)) (vt' : VT) (mp : List (Option Nat)) : Bool :=
  (scope.kind == .function) && (scope.names.all fun x => x.2 != .local || scope.names.lookup x.1 == some .local) && ckFree scope.names vt && (relabelN scope.names sc == sc') && ckVt scope.names vt vt' mp && decide ((vt'.map (·.1)).Nodup)
structure CpOk (scope : Scope) (sc : List (Str × NameKind)) (vt : VT) (sc' : List (Str × NameKind)) (vt' : VT) (mp : List (Option Nat)) : Prop where
  kind : scope.kind = .function
  names : ∀ x ∈ scope.names, x.2 = .local → scope.names.lookup x.1 = some .local
  free : ckFree scope.names vt = true
  sc : relabelN scope.names sc = sc'
  ck : ckVt scope.names vt vt' mp = true
  nd : (vt'.map (·.1)).Nodup
theorem cpOk_iff {scope : Scope} {sc : List (Str × NameKind)} {vt : VT} {sc' : List (Str × NameKind)} {vt' : VT} {mp : List (Option Nat)} (h : cpOk scope sc vt sc' vt' mp = true) : CpOk scope sc vt sc' vt' mp := by
  unfold cpOk at h
  simp only [Bool.and_eq_true, beq_iff_eq, decide_eq_true_eq] at h
  obtain ⟨⟨⟨⟨⟨h1, h2⟩, h3⟩, h4⟩, h5⟩, h6⟩ := h
  refine ⟨h1, fun x hx hl => ?_, h3, h4, h5, h6⟩
  rw [List.all_eq_true] at h2
  have := h2 x hx
  rw [hl] at this
  simpa using this

section
variable {C : Cx} {d : Nat} {sc : List (Str × NameKind)} {vt : VT}
theorem newList_acc {A : Around} {s : Shared} {Q : Value → Shared → Prop} {E : Value → Shared → Prop} (h : ∀ D h' tk, Kp s.heap h' → s.heap.get? D = none → (∀ W ρ, AcRep C h' W ρ D (.list [])) → Q (.ref D) { s with heap := h', toks := tk }) :
    wpAny (model C.prog C.w) A (newList []) Q E s :=
  wpAny_newObj_type (h s.heap.objs.size _ s.toks (Kp.push _ _) (Heap.get?_size _) fun W ρ => ⟨[], ⟨_, Heap.get?_push_size _ rfl⟩, rfl⟩)

/-- semantics of a list comprehension -/
noncomputable def compSem (mp : List (Option Nat)) (ks : List Nat) (fg : Fm → Sto → Option (List (List AV))) (fi : ST) (fb : SB) : Fm → Sto → Option (List AV) := fun fm st =>
  (fg fm st).bind fun ls => (loopSem ks fi fb st ls (fm0 mp fm) (.list [])).bind fun r => match r.2 with
    | .list l => some l
    | _ => none
noncomputable def emitS (f : SE) : SB := fun fm st ac => match ac with
    | .list l => (f fm st).bind fun a => if l.length < 4096 then some (fm, .list (l ++ [a])) else none
    | _ => none
noncomputable def nestS (ks : List Nat) (fg : Fm → Sto → Option (List (List AV))) (fi : ST) (fb : SB) : SB := fun fm st ac => (fg fm st).bind fun ls => loopSem ks fi fb st ls fm ac

/-- a list comprehension with or without a use -/
theorem comp_list {elt tg iter : Expr} {ifs : List Expr} {gs : List Comprehension} {scope : Scope} {pos : Pos} {m : Value → Env → Sem Unit} {ks : List Nat} {sc' : List (Str × NameKind)} {vt' : VT} {mp : List (Option Nat)}
    {fg : Fm → Sto → Option (List (List AV))} {fi : ST} {fb : SB} {use : Option (Value → Sem Unit)} (cp : CpOk scope sc vt sc' vt' mp) (hs : ∀ env x, foldedSetIterable iter env x = pure x)
    (hi : ItT C d sc vt tg iter fg) (t : Tg sc' vt' tg ks) (hifs : IfsT C d sc' vt' ifs fi) (hb : BdT C d sc' vt' m fb)
    (hturn : ∀ (it : Value) (D : Addr) (env : Env), ∃ pos', compTurn (.ListComp elt (⟨tg, iter, ifs, 0⟩ :: gs) scope pos) 0 it (.ref D) env = (do
      standAt pos'
      match ← pyNext it with
      | none => pure (.done .next)
      | some v =>
        letOwnedTupleGo tg it v
        assign tg env v
        let mut ok := true
        for c in ifs do
          if ok then ok ← isTrue c env (eval c env)
        if ok then
          m (.ref D) env
        again (.compLoop (.ListComp elt (⟨tg, iter, ifs, 0⟩ :: gs) scope pos) 0 it (.ref D) env)))
    {A : Around} {env : Env} {own W : List Addr} {ρ : List (List Addr)} {fm : Fm} {sto : Sto} {s : Shared} {l : List AV} {p' : Pos} {Q : Value → Shared → Prop} {E : Value → Shared → Prop}
    (G : Good d A) (S : Stat sc env) (I : Inv C vt env own W ρ fm sto s.heap) (hf : compSem mp ks fg fi fb fm sto = some l)
    (hfin : ∀ D L h' tk m, Kp s.heap h' → s.heap.get? L = none → D ≠ L → h'.Ns L m → s.heap.get? D = none → Rep C h' (L :: W) ρ (.list l) (.ref D) → compPost (model C.prog C.w) A E use Q (.ref D) L (.ok .next) { s with heap := h', toks := tk }) :
    wpAny (model C.prog C.w) A (comprehension (.ListComp elt (⟨tg, iter, ifs, 0⟩ :: gs) scope pos) scope env p' (newList []) false (eval iter env) use) Q E s := by
  unfold compSem at hf
  obtain ⟨ls, hls, hf⟩ := Option.bind_eq_some_iff.mp hf
  obtain ⟨⟨fm', ac'⟩, hl, hf⟩ := Option.bind_eq_some_iff.mp hf
  cases ac' with
  | dict _ _ => cases hf
  | list l' =>
    cases hf
    exact comp_sound (ac0 := .list []) rfl hs cp.kind cp.names cp.free cp.sc cp.ck cp.nd hi t hifs hb hturn (fun _ _ _ _ => rfl) (fun _ _ _ => rfl) (fun h0 h => codeAny_compStart_list h0 h) newList_acc rfl G S I hls hl hfin

theorem done_none {A : Around} {env : Env} {own W : List Addr} {ρ : List (List Addr)} {fm : Fm} {sto : Sto} {s : Shared} {av : AV} {Q : Value → Shared → Prop} {E : Value → Shared → Prop} (I : Inv C vt env own W ρ fm sto s.heap)
    (hQ : ∀ v h' tk, Kp s.heap h' → Rep C h' W ρ av v → Q v { s with heap := h', toks := tk }) :
    ∀ D L h' tk m, Kp s.heap h' → s.heap.get? L = none → D ≠ L → h'.Ns L m → s.heap.get? D = none → Rep C h' (L :: W) ρ av (.ref D) → compPost (model C.prog C.w) A E none Q (.ref D) L (.ok .next) { s with heap := h', toks := tk } := by
  intro D L h' tk m k hL hDL hn hD r
  refine ⟨m, hn, fun h'' sb => ?_⟩
  refine hQ _ h'' tk (fun b o e => sb.extBut b o (fun q => by rw [q, hL] at e; cases e) (k b o e)) ?_
  exact Rep.mono (fun b o hb e => sb.extBut b o (fun q => hb (by rw [q]; exact List.mem_cons_self)) e) (fun a q => .inl (List.mem_cons_of_mem _ q)) (fun _ _ e => e) _ _ r
theorem done_use {A : Around} {env : Env} {own W : List Addr} {ρ : List (List Addr)} {fm : Fm} {sto : Sto} {s : Shared} {av : AV} {k : Nat} {x : Str} {p : Pos} {Q : Value → Shared → Prop} {E : Value → Shared → Prop} (nm : NmOk sc vt k x) (S : Stat sc env)
    (I : Inv C vt env own W ρ fm sto s.heap) (hQ : ∀ h' tk W', Inv C vt env own W' ρ (fset fm k av) sto h' → Step own W ρ s.heap W' ρ h' → Q .none { s with heap := h', toks := tk }) :
    ∀ D L h' tk m, Kp s.heap h' → s.heap.get? L = none → D ≠ L → h'.Ns L m → s.heap.get? D = none → Rep C h' (L :: W) ρ av (.ref D) → compPost (model C.prog C.w) A E (some (assign (.Name x p) env)) Q (.ref D) L (.ok .next) { s with heap := h', toks := tk } := by
  intro D L h' tk m k' hL hDL hn hD r
  have hLl : ∃ o, h'.get? L = some o := let ⟨o, _, _, e, _⟩ := hn; ⟨o, e⟩
  have ap : Apart C vt env own ρ [L] := I.apartOf fun a q => by rw [List.mem_singleton.mp q]; exact hL
  have I₁ : Inv C vt env own (L :: W) ρ fm sto h' := I.grow k' (fun a q => (List.mem_cons.mp q).elim (fun q => q ▸ hLl) fun q => let ⟨o, g⟩ := I.live a q; ⟨o, k' _ _ g⟩) (fun a q => List.mem_cons_of_mem _ q)
    fun a q => (List.mem_cons.mp q).elim (fun q => .inr (q ▸ hL)) .inl
  refine wpAny_assign_Name (store_sound (s := { s with heap := h', toks := tk }) nm S I₁ r fun h₂ t₂ I₂ k₂ => ?_)
  have hLo : L ∉ own := ap.own L (by simp)
  refine ⟨m, hn.at' fun o e => k₂ _ o hLo e, fun h₃ sb => ?_⟩
  have hLW : L ∉ W := fun q => by obtain ⟨o, g⟩ := I.live L q; rw [hL] at g; cases g
  have I₃ : Inv C vt env own W ρ (fset fm k av) sto h₃ := I₂.poke ap (fun a q => by rw [List.mem_singleton.mp q]; exact List.mem_cons_self) (fun b o hb e => sb.extBut b o (by simpa using hb) e) (fun a q => List.mem_cons_of_mem _ q)
    (fun a q z => absurd (List.mem_singleton.mp z ▸ q) hLW) (fun a q z => (List.mem_cons.mp q).resolve_left (by simpa using z))
  refine hQ h₃ t₂ W I₃ ⟨fun b o h1 h2 e => ?_, fun _ q => q, fun _ q => .inl q, [], by simp, by simp⟩
  exact sb.extBut b o (fun q => by rw [q, hL] at e; cases e) (k₂ b o h1 (k' b o e))

section
variable {elt tg iter tg' iter' : Expr} {ifs ifs' : List Expr} {scope : Scope} {pos p pp : Pos} {ks ks' : List Nat} {sc' : List (Str × NameKind)} {vt' : VT} {mp : List (Option Nat)} {fg fg' : Fm → Sto → Option (List (List AV))} {fi fi' : ST} {fe : SE}
theorem ev_comp (cp : CpOk scope sc vt sc' vt' mp) (hs : ∀ env x, foldedSetIterable iter env x = pure x) (hi : ItT C d sc vt tg iter fg) (t : Tg sc' vt' tg ks) (hifs : IfsT C d sc' vt' ifs fi) (he : EvT C d sc' vt' elt fe) :
    EvT C d sc vt (.ListComp elt [⟨tg, iter, ifs, 0⟩] scope pos) (fun fm st => (compSem mp ks fg fi (emitS fe) fm st).map .list) := by
  intro A env own W ρ fm sto s av Q E G S I hf hQ
  obtain ⟨l, hl, rfl⟩ := Option.map_eq_some_iff.mp hf
  rw [eval_ListComp]
  exact comp_list cp hs hi t hifs (bd_emit he) (fun it D env => ⟨_, turn_one elt tg iter ifs scope pos it (.ref D) env⟩) G S I hl (done_none I hQ)
theorem ev_comp2 (cp : CpOk scope sc vt sc' vt' mp) (hs : ∀ env x, foldedSetIterable iter env x = pure x) (hs' : ∀ env x, foldedSetIterable iter' env x = pure x) (hi : ItT C d sc vt tg iter fg) (t : Tg sc' vt' tg ks) (hifs : IfsT C d sc' vt' ifs fi)
    (hi' : ItT C d sc' vt' tg' iter' fg') (t' : Tg sc' vt' tg' ks') (hifs' : IfsT C d sc' vt' ifs' fi') (he : EvT C d sc' vt' elt fe) :
    EvT C d sc vt (.ListComp elt [⟨tg, iter, ifs, 0⟩, ⟨tg', iter', ifs', 0⟩] scope pos) (fun fm st => (compSem mp ks fg fi (nestS ks' fg' fi' (emitS fe)) fm st).map .list) := by
  intro A env own W ρ fm sto s av Q E G S I hf hQ
  obtain ⟨l, hl, rfl⟩ := Option.map_eq_some_iff.mp hf
  rw [eval_ListComp]
  exact comp_list cp hs hi t hifs (bd_nest t' hi' hifs' (bd_emit he) hs') (fun it D env => ⟨_, turn_nest elt tg iter tg' iter' ifs ifs' scope pos it (.ref D) env⟩) G S I hl (done_none I hQ)
theorem sm_comp (k : Nat) {x : Str} (nm : NmOk sc vt k x) (hsw : ∀ env, Stat sc env → swapsWith (.ListComp elt [⟨tg, iter, ifs, 0⟩] scope pos) (some (.Name x p)) pp.line env = pure true)
    (cp : CpOk scope sc vt sc' vt' mp) (hs : ∀ env x, foldedSetIterable iter env x = pure x) (hi : ItT C d sc vt tg iter fg) (t : Tg sc' vt' tg ks) (hifs : IfsT C d sc' vt' ifs fi) (he : EvT C d sc' vt' elt fe) :
    SmT C d sc vt (.Assign [.Name x p] (.ListComp elt [⟨tg, iter, ifs, 0⟩] scope pos) pp) (fun fm st => (compSem mp ks fg fi (emitS fe) fm st).map fun l => (.next, fset fm k (.list l), st)) := by
  intro A env own W ρ fm sto s fl fm' sto' Q E G S I hf hQ
  obtain ⟨l, hl, hf⟩ := Option.map_eq_some_iff.mp hf
  cases hf
  rw [exec_Assign_Name_used _ _ _ _ (hsw env S)]
  refine wpAny_bind (wpAny_standAt (wpAny_bind ?_))
  show wpAny _ A (do let _ ← comprehension (.ListComp elt [⟨tg, iter, ifs, 0⟩] scope pos) scope env _ (newList []) false (eval iter env) (some (assign (.Name x p) env))) _ _ s
  refine wpAny_bind (wpAny_mono (comp_list (Q := fun _ s' => Q .next s') cp hs hi t hifs (bd_emit he) (fun it D env => ⟨_, turn_one elt tg iter ifs scope pos it (.ref D) env⟩) G S I hl (done_use nm S I fun h' tk W' I' st => hQ _ W' ρ h' tk I' rfl st)) (fun _ s' hq => wpAny_pure (wpAny_pure hq)) fun _ _ e => e)
theorem sm_comp2 (k : Nat) {x : Str} (nm : NmOk sc vt k x) (hsw : ∀ env, Stat sc env → swapsWith (.ListComp elt [⟨tg, iter, ifs, 0⟩, ⟨tg', iter', ifs', 0⟩] scope pos) (some (.Name x p)) pp.line env = pure true)
    (cp : CpOk scope sc vt sc' vt' mp) (hs : ∀ env x, foldedSetIterable iter env x = pure x) (hs' : ∀ env x, foldedSetIterable iter' env x = pure x) (hi : ItT C d sc vt tg iter fg) (t : Tg sc' vt' tg ks) (hifs : IfsT C d sc' vt' ifs fi)
    (hi' : ItT C d sc' vt' tg' iter' fg') (t' : Tg sc' vt' tg' ks') (hifs' : IfsT C d sc' vt' ifs' fi') (he : EvT C d sc' vt' elt fe) :
    SmT C d sc vt (.Assign [.Name x p] (.ListComp elt [⟨tg, iter, ifs, 0⟩, ⟨tg', iter', ifs', 0⟩] scope pos) pp) (fun fm st => (compSem mp ks fg fi (nestS ks' fg' fi' (emitS fe)) fm st).map fun l => (.next, fset fm k (.list l), st)) := by
  intro A env own W ρ fm sto s fl fm' sto' Q E G S I hf hQ
  obtain ⟨l, hl, hf⟩ := Option.map_eq_some_iff.mp hf
  cases hf
  rw [exec_Assign_Name_used _ _ _ _ (hsw env S)]
  refine wpAny_bind (wpAny_standAt (wpAny_bind ?_))
  show wpAny _ A (do let _ ← comprehension (.ListComp elt [⟨tg, iter, ifs, 0⟩, ⟨tg', iter', ifs', 0⟩] scope pos) scope env _ (newList []) false (eval iter env) (some (assign (.Name x p) env))) _ _ s
  refine wpAny_bind (wpAny_mono (comp_list (Q := fun _ s' => Q .next s') cp hs hi t hifs (bd_nest t' hi' hifs' (bd_emit he) hs') (fun it D env => ⟨_, turn_nest elt tg iter tg' iter' ifs ifs' scope pos it (.ref D) env⟩) G S I hl (done_use nm S I fun h' tk W' I' st => hQ _ W' ρ h' tk I' rfl st)) (fun _ s' hq => wpAny_pure (wpAny_pure hq)) fun _ _ e => e)
end

/-- iterables -/
noncomputable def names1 (l : List AV) : List (List AV) := l.map fun a => [a]
theorem it_list {x : Str} {p : Pos} {e : Expr} {f : SE} (h : EvT C d sc vt e f) : ItT C d sc vt (.Name x p) e (fun fm st => (f fm st).bind fun a => match a with
    | .list l => some (names1 l)
    | .tuple l => some (names1 l)
    | .str s => if s.all (· < 128) then some (s.map fun c => [.str [c]]) else none
    | _ => none) := by
  intro A env own W ρ fm sto s ls Q E G S I hf hQ
  obtain ⟨a, ha, hf⟩ := Option.bind_eq_some_iff.mp hf
  refine h G S I ha fun v h₁ t₁ k₁ r₁ => ?_
  have I₁ := I.keep k₁
  have hsz := Heap.get?_size h₁
  have pushW : ∀ (o : Obj) {av : List AV} {vs : List Value}, Reps C h₁ W ρ av vs → Reps C (h₁.push o) ([h₁.objs.size] ++ W) ρ av vs := fun o av vs r =>
    Reps.mono (fun b o' _ e => Kp.push _ _ _ _ e) (fun a q => (List.mem_append.mp q).elim (fun q => .inr (by rw [List.mem_singleton.mp q]; exact hsz)) .inl) (fun _ _ e => e) _ _ r
  have newI : ∀ b ∈ [h₁.objs.size], s.heap.get? b = none := fun b q => by rw [List.mem_singleton.mp q]; exact none_of_kp k₁ hsz
  have IW : h₁.objs.size ∉ W := I₁.newW
  cases a with
  | list l =>
    cases hf
    obtain ⟨ad, vs, rfl, hW, ⟨n, hp⟩, rs⟩ := r₁
    have hl : h₁.IsList ad vs.toArray := ⟨_, hp, rfl, n, rfl⟩
    have hne : ad ≠ h₁.objs.size := fun q => by rw [q, hsz] at hp; cases hp
    have hlen := rs.length
    refine wpAny_pyIter_list hl ?_
    refine hQ h₁.objs.size [h₁.objs.size, ad] [h₁.objs.size] (fun i vs' => ∃ v, vs' = [v] ∧ vs.toArray[i]? = some v) (fun i h => h.IsListIter h₁.objs.size ad i ∧ h.IsList ad vs.toArray) _ t₁ (fun A' hA => ?_) ⟨⟨_, Heap.get?_push_size _ rfl, rfl, rfl⟩, hl.push _⟩ (k₁.trans (Kp.push _ _)) newI (fun b q => ?_) fun i ws as hp' hg => ?_
    · have w := Walks.wx (Walks.list (prog := C.prog) (w := C.w) hA h₁.objs.size ad hne vs.toArray) x p (fun i h st b q => by
        rcases List.mem_cons.mp q with q | q
        · obtain ⟨o, e, _⟩ := st.1; exact ⟨o, q ▸ e⟩
        · obtain ⟨o, e, _⟩ := st.2; exact ⟨o, by rw [List.mem_singleton.mp q]; exact e⟩)
      have e : (names1 l).length = vs.toArray.size := by simp [names1, hlen]
      rw [e]; exact w
    · rcases List.mem_cons.mp q with q | q
      · rw [q]; exact IW
      · rw [List.mem_singleton.mp q]; exact hW
    · obtain ⟨u, rfl, hu⟩ := hp'
      unfold names1 at hg
      rw [List.getElem?_map] at hg
      obtain ⟨a, ha', rfl⟩ := Option.map_eq_some_iff.mp hg
      obtain ⟨u', h1, h2⟩ := rs.get ha'
      have : u = u' := by simpa [h1] using hu.symm
      subst this
      exact pushW _ (Reps.cons h2 Reps.nil)
  | tuple l =>
    cases hf
    obtain ⟨ad, vs, rfl, hW, ⟨n, hp⟩, rs⟩ := r₁
    have hl : h₁.IsTuple ad vs.toArray := ⟨_, hp, rfl, n, rfl⟩
    have hne : ad ≠ h₁.objs.size := fun q => by
      have hp' : h₁.get? ad = some _ := hp
      rw [q, hsz] at hp'; cases hp'
    have hlen := rs.length
    refine wpAny_pyIter_tuple hl ?_
    refine hQ h₁.objs.size [h₁.objs.size, ad] [h₁.objs.size] (fun i vs' => ∃ v, vs' = [v] ∧ vs.toArray[i]? = some v) (fun i h => h.IsTupleIter h₁.objs.size ad i ∧ h.IsTuple ad vs.toArray) _ t₁ (fun A' hA => ?_) ⟨⟨_, Heap.get?_push_size _ rfl, rfl, rfl⟩, hl.push _⟩ (k₁.trans (Kp.push _ _)) newI (fun b q => ?_) fun i ws as hp' hg => ?_
    · have w := Walks.wx (Walks.tuple (prog := C.prog) (w := C.w) hA h₁.objs.size ad hne vs.toArray) x p (fun i h st b q => by
        rcases List.mem_cons.mp q with q | q
        · obtain ⟨o, e, _⟩ := st.1; exact ⟨o, q ▸ e⟩
        · obtain ⟨o, e, _⟩ := st.2; exact ⟨o, by rw [List.mem_singleton.mp q]; exact e⟩)
      have e : (names1 l).length = vs.toArray.size := by simp [names1, hlen]
      rw [e]; exact w
    · rcases List.mem_cons.mp q with q | q
      · rw [q]; exact IW
      · rw [List.mem_singleton.mp q]; exact hW
    · obtain ⟨u, rfl, hu⟩ := hp'
      unfold names1 at hg
      rw [List.getElem?_map] at hg
      obtain ⟨a, ha', rfl⟩ := Option.map_eq_some_iff.mp hg
      obtain ⟨u', h1, h2⟩ := rs.get ha'
      have : u = u' := by simpa [h1] using hu.symm
      subst this
      exact pushW _ (Reps.cons h2 Reps.nil)
  | str y =>
    simp only at hf
    split at hf <;> cases hf
    rename_i hall
    obtain ⟨t, rfl⟩ := r₁
    have ha : (⟨y.toArray⟩ : Str).cps.all (· < 128) = true := by simpa using hall
    · refine wpAny_pyIter_ascii ha ?_
      refine hQ h₁.objs.size [h₁.objs.size] [h₁.objs.size] (fun i vs' => ∃ v, vs' = [v] ∧ SignAt ⟨y.toArray⟩ i v) (fun i h => h.IsStrIter h₁.objs.size "str_ascii_iterator" ⟨y.toArray⟩ t i) _ t₁ (fun A' hA => ?_) ⟨_, Heap.get?_push_size _ rfl, rfl, rfl⟩ (k₁.trans (Kp.push _ _)) newI (fun b q => by rw [List.mem_singleton.mp q]; exact IW) fun i ws as hp' hg => ?_
      · have w := Walks.wx (Walks.strAscii (prog := C.prog) (w := C.w) hA h₁.objs.size ⟨y.toArray⟩ t) x p (fun i h st b q => by
          obtain ⟨o, e, _⟩ := st; exact ⟨o, by rw [List.mem_singleton.mp q]; exact e⟩)
        have e : (y.map fun c => [AV.str [c]]).length = (⟨y.toArray⟩ : Str).cps.size := by simp
        rw [e]; exact w
      · obtain ⟨u, rfl, c, tk, h1, rfl⟩ := hp'
        rw [List.getElem?_map] at hg
        obtain ⟨c', ha', rfl⟩ := Option.map_eq_some_iff.mp hg
        have : c = c' := by simpa [ha'] using h1.symm
        subst this
        exact Reps.cons ⟨tk, rfl⟩ Reps.nil
  | _ => cases hf
end

noncomputable def vtOk (sc : List (Str × NameKind)) (vt : VT) : Bool := (vt.all fun p => match p.2 with
  | .loc => sc.lookup p.1 == some .local
  | .own => sc.lookup p.1 == some .cell && (ownNames sc).contains p.1
  | .fre => false) && decide ((vt.map (·.1)).Nodup) && decide ((sc.map (·.1)).Nodup)
structure FnIs (C : Cx) (f : Addr) (fd : FuncData) (body : List Stmt) (sc : List (Str × NameKind)) (vt : VT) : Prop where
  look : ∃ o, C.K.lookup f = some o ∧ o.data = .func fd
  code : codeIn C.K fd.code fd.qualname = true
  body : fd.body = .stmts body
  clo : fd.closure = []
  glob : fd.globals = mainGlobals
  bui : fd.builtins = builtinsNs
  kind : fd.scope.kind = .function
  co : fd.scope.isCoroutine = false
  gen : fd.scope.isGenerator = false
  names : fd.scope.names = sc
  ok : vtOk sc vt = true

theorem cf_mem : ∀ (names : List (Str × NameKind)) (n : Nat) (x : Str), x ∈ (cellsFrom n names []).map (·.1) → x ∈ names.map (·.1)
  | [], _, _, h => by cases h
  | (y, k) :: r, n, x, h => by
    unfold cellsFrom at h
    split at h
    · rw [cf_app, List.map_append, List.mem_append] at h
      rcases h with h | h
      · exact List.mem_cons_of_mem _ (cf_mem r _ x h)
      · have : x = y := by simpa using h
        rw [this]; exact List.mem_cons_self
    · exact List.mem_cons_of_mem _ (cf_mem r _ x h)
theorem cf_nodup : ∀ (names : List (Str × NameKind)) (n : Nat), (names.map (·.1)).Nodup → ((cellsFrom n names []).map (·.1)).Nodup
  | [], _, _ => List.nodup_nil
  | (y, k) :: r, n, h => by
    simp only [List.map_cons, List.nodup_cons] at h
    unfold cellsFrom
    split
    · rw [cf_app, List.map_append, List.nodup_append]
      refine ⟨cf_nodup r _ h.2, by simp, fun a h1 b h2 q => ?_⟩
      have : b = y := by simpa using h2
      subst q; subst this
      exact h.1 (cf_mem r _ _ h1)
    · exact cf_nodup r n h.2
theorem lookup_of_mem {α : Type} : ∀ {l : List (Str × α)} {n : Str} {c : α}, (l.map (·.1)).Nodup → (n, c) ∈ l → l.lookup n = some c
  | (x, v) :: r, n, c, nd, h => by
    simp only [List.map_cons, List.nodup_cons] at nd
    rw [List.lookup_cons]
    rcases List.mem_cons.mp h with e | e
    · cases e; simp
    · have : (n == x) = false := by
        have : n ≠ x := fun q => nd.1 (q ▸ List.mem_map.mpr ⟨_, e, rfl⟩)
        simpa using this
      rw [this]; exact lookup_of_mem nd.2 e
theorem bindL_other {ko : Str → Option NameKind} : ∀ (binds : List (Str × Value)) (m : Str → Option Value) (n : Str), n ∉ binds.map (·.1) → bindL ko binds m n = m n
  | [], _, _, _ => rfl
  | (x, v) :: r, m, n, h => by
    unfold bindL
    simp only [List.map_cons, List.mem_cons, not_or] at h
    rw [bindL_other r _ n h.2]
    split
    · simp [h.1]
    · rfl
theorem bindC_other {ko : Str → Option NameKind} : ∀ (binds : List (Str × Value)) (m : Str → Option Value) (n : Str), n ∉ binds.map (·.1) → bindC ko binds m n = m n
  | [], _, _, _ => rfl
  | (x, v) :: r, m, n, h => by
    unfold bindC
    simp only [List.map_cons, List.mem_cons, not_or] at h
    rw [bindC_other r _ n h.2]
    split
    · rfl
    · simp [h.1]
theorem bindL_get {ko : Str → Option NameKind} : ∀ (binds : List (Str × Value)) (m : Str → Option Value) (n : Str) (v : Value), (binds.map (·.1)).Nodup → (n, v) ∈ binds → ko n = some .local → bindL ko binds m n = some v
  | (x, w) :: r, m, n, v, nd, h, hk => by
    unfold bindL
    simp only [List.map_cons, List.nodup_cons] at nd
    rcases List.mem_cons.mp h with e | e
    · cases e
      rw [bindL_other r _ _ nd.1, if_pos hk]; simp
    · exact bindL_get r _ n v nd.2 e hk
theorem bindC_get {ko : Str → Option NameKind} : ∀ (binds : List (Str × Value)) (m : Str → Option Value) (n : Str) (v : Value), (binds.map (·.1)).Nodup → (n, v) ∈ binds → ko n ≠ some .local → bindC ko binds m n = some v
  | (x, w) :: r, m, n, v, nd, h, hk => by
    unfold bindC
    simp only [List.map_cons, List.nodup_cons] at nd
    rcases List.mem_cons.mp h with e | e
    · cases e
      rw [bindC_other r _ _ nd.1, if_neg hk]; simp
    · exact bindC_get r _ n v nd.2 e hk

noncomputable def flAV : Fl → AV
  | .ret a => a
  | _ => .none
noncomputable def fmIn (vt : VT) (avs : List AV) : Fm := avs.map some ++ List.replicate (vt.length - avs.length) none

section
variable {C : Cx} {d : Nat} {sc : List (Str × NameKind)} {vt : VT}
theorem Good.deeper {A : Around} (G : Good (d + 1) A) (env : Env) : Good d (A.deeper env) :=
  ⟨G.h, by have := G.dep; show A.depth + 1 + 4 * d + 4 ≤ 900; omega, by have := G.un; show A.units + 3 + 40 * d + 60 ≤ 9000; omega⟩
theorem Inv.zeroW {env : Env} {own W : List Addr} {ρ : List (List Addr)} {fm : Fm} {sto : Sto} {h : Heap} (I : Inv C vt env own W ρ fm sto h) : Inv0 C W ρ sto h := I.zero

/-- a call of one of the program's functions -/
theorem fn_core {f : Addr} {fd : FuncData} {body : List Stmt} {fb : SX} (F : FnIs C f fd body sc vt) (hb : ExT C d sc vt body fb) {A : Around} {W : List Addr} {ρ : List (List Addr)} {sto sto' : Sto} {s : Shared} {args : Args} {pn : List Str} {bv : List Value}
    {bavs : List AV} {fl : Fl} {fm' : Fm} {R : Result → Shared → Prop} (G : Good (d + 1) A) (I : Inv0 C W ρ sto s.heap) (hbind : BindsTo s fd args (pn.zip bv)) (hpn : pn = (vt.take bavs.length).map (·.1)) (hlen : bavs.length ≤ vt.length)
    (r : Reps C s.heap W ρ bavs bv) (hf : fb (fmIn vt bavs) sto = some (fl, fm', sto'))
    (hR : ∀ v W' ρ' h' tk, Inv0 C W' ρ' sto' h' → Rep C h' W' ρ' (flAV fl) v → Step [] W ρ s.heap W' ρ' h' → R (.ok (.ret v)) { s with heap := h', toks := tk }) :
    codeAny (model C.prog C.w) A (.call (.ref f) args) R s := by
  obtain ⟨o, hlk, hdat⟩ := F.look
  have ok : C.Ok s.heap := I.base.1.keep I.base.2.1
  have hlenv := r.length
  have okv := F.ok
  unfold vtOk at okv
  rw [Bool.and_eq_true, Bool.and_eq_true, List.all_eq_true, decide_eq_true_eq, decide_eq_true_eq] at okv
  obtain ⟨⟨okv, nd⟩, ndsc⟩ := okv
  have entry : ∀ {i : Nat} {x : Str} {vk : VK}, vt[i]? = some (x, vk) → (vk = .loc ∧ sc.lookup x = some .local) ∨ (vk = .own ∧ sc.lookup x = some .cell ∧ x ∈ ownNames sc) := fun {i x vk} e => by
    have := okv _ (List.mem_of_getElem? e)
    cases vk with
    | loc => exact .inl ⟨rfl, by simpa using this⟩
    | own => simp only [Bool.and_eq_true, beq_iff_eq] at this; exact .inr ⟨rfl, this.1, by simpa using this.2⟩
    | fre => simp at this
  have hpl : pn.length = bv.length := by rw [hpn]; simp; omega
  have pget : ∀ {i : Nat} {x : Str}, pn[i]? = some x ↔ (i < bavs.length ∧ (vt.map (·.1))[i]? = some x) := fun {i x} => by
    rw [hpn, List.map_take, List.getElem?_take]
    by_cases hi : i < bavs.length
    · rw [if_pos hi]; simp [hi]
    · rw [if_neg hi]; simp [hi]
  have mapz : (pn.zip bv).map (·.1) = pn := by rw [List.map_fst_zip]; omega
  have ndp : ((pn.zip bv).map (·.1)).Nodup := by
    rw [mapz, hpn, List.map_take]
    exact List.Sublist.nodup (List.take_sublist _ _) nd
  refine codeAny_call_function (by have := G.dep; unfold recursionLimit; omega) (ok.k _ _ hlk) hdat F.co F.gen F.body (codeRec_of ok.k F.code) (hbind _ _ _ _ ?_)
  rw [F.clo]
  refine wpAny_newFunctionEnv_cells F.kind (fun x hx => ?_) fun env he s' x => ?_
  · have hm : x.1 ∈ pn := by rw [← mapz]; exact List.mem_map.mpr ⟨x, hx, rfl⟩
    obtain ⟨i, hi⟩ := List.getElem?_of_mem hm
    obtain ⟨hi1, hi2⟩ := pget.mp hi
    rw [List.getElem?_map] at hi2
    obtain ⟨⟨y, vk⟩, h3, h4⟩ := Option.map_eq_some_iff.mp hi2
    simp only at h4
    rw [F.names]
    rcases entry h3 with ⟨_, h5⟩ | ⟨_, h5, h6⟩
    · exact .inl (h4 ▸ h5)
    · refine .inr ⟨h4 ▸ h5, ?_⟩
      obtain ⟨a, ha⟩ := cf_some sc (s.heap.objs.size + 1) y h6
      rw [← h4, ha]; rfl
  · have hk : env.kindOf = fun x => sc.lookup x := by rw [he]; unfold Env.kindOf newEnv; rw [F.names]
    have hL : env.locals = s.heap.objs.size := by rw [he]; rfl
    have hcs : env.cells = cellsFrom (s.heap.objs.size + 1) sc [] := by rw [he, ← F.names]; rfl
    have S : Stat sc env := ⟨by rw [he]; exact F.kind, by rw [he]; exact F.names, by rw [he]; exact F.glob, by rw [he]; exact F.bui⟩
    obtain ⟨h', tk, rfl⟩ := x.toInCall.same
    have keep : Kp s.heap h' := x.toInCall.keep
    refine ⟨ok.nolimit.keeps keep, codeAny_func ?_⟩
    have hsz := Heap.get?_size s.heap
    have fresh : ∀ a, s.heap.objs.size ≤ a → s.heap.get? a = none := fun a ha => by
      cases e : s.heap.get? a with
      | none => rfl
      | some o' => exact absurd (Heap.lt_size e) (Nat.not_lt.mpr ha)
    have cab : ∀ n c, (n, c) ∈ env.cells → s.heap.objs.size < c := fun n c hm => hL ▸ x.above n c hm
    have ownf : ∀ a ∈ env.locals :: env.cells.map (·.2), s.heap.get? a = none := fun a q => by
      rcases List.mem_cons.mp q with q | q
      · exact fresh a (by rw [q, hL]; exact Nat.le_refl _)
      · obtain ⟨⟨n, c⟩, h1, h2⟩ := List.mem_map.mp q
        exact fresh a (by rw [← h2]; exact Nat.le_of_lt (cab n c h1))
    have nodOwn : (env.locals :: env.cells.map (·.2)).Nodup := by
      refine List.nodup_cons.mpr ⟨fun q => ?_, ?_⟩
      · obtain ⟨⟨n, c⟩, h1, h2⟩ := List.mem_map.mp q
        have := cab n c h1
        simp only at h2
        rw [h2, hL] at this
        exact Nat.lt_irrefl _ this
      · rw [List.nodup_iff_pairwise_ne, List.pairwise_map]
        exact x.apart
    have cellLive : ∀ n c, (n, c) ∈ env.cells → ∃ o, h'.get? c = some o := fun n c hm => by
      have hq : env.cells.lookup n = some c := lookup_of_mem (by rw [hcs]; exact cf_nodup sc _ ndsc) hm
      obtain ⟨o, e, _⟩ := x.cell n c hq; exact ⟨o, e⟩
    have hlive : ∀ a ∈ env.locals :: env.cells.map (·.2) ++ W, ∃ o, h'.get? a = some o := fun a q => by
      rcases List.mem_append.mp q with q | q
      · rcases List.mem_cons.mp q with q | q
        · obtain ⟨o, _, _, e, _⟩ := x.toInCall.ns
          exact ⟨o, q ▸ e⟩
        · obtain ⟨⟨n, c⟩, h1, h2⟩ := List.mem_map.mp q
          obtain ⟨o, e⟩ := cellLive n c h1
          exact ⟨o, by rw [← h2]; exact e⟩
      · obtain ⟨o, e⟩ := I.live a q
        exact ⟨o, keep _ _ e⟩
    have hw : ∀ a ∈ env.locals :: env.cells.map (·.2) ++ W, a ∈ W ∨ s.heap.get? a = none := fun a q => (List.mem_append.mp q).elim (fun q => .inr (ownf a q)) .inl
    have rr : ∀ {a : AV} {u : Value}, Rep C s.heap W ρ a u → Rep C h' (env.locals :: env.cells.map (·.2) ++ W) ρ a u := fun z => Rep.mono (fun b o _ g => keep b o g) hw (fun _ _ e => e) _ _ z
    have arg : ∀ {i : Nat} {y : Str} {vk : VK} {av : AV}, vt[i]? = some (y, vk) → (fmIn vt bavs)[i]? = some (some av) → ∃ v, (y, v) ∈ pn.zip bv ∧ Rep C s.heap W ρ av v := fun {i y vk av} h1 h2 => by
      unfold fmIn at h2
      by_cases hi : i < bavs.length
      · rw [List.getElem?_append_left (by simpa using hi), List.getElem?_map] at h2
        obtain ⟨a, h3, h4⟩ := Option.map_eq_some_iff.mp h2
        cases h4
        obtain ⟨v, h5, h6⟩ := r.get h3
        refine ⟨v, List.mem_of_getElem? (i := i) ?_, h6⟩
        rw [List.getElem?_zip_eq_some]
        exact ⟨pget.mpr ⟨hi, by rw [List.getElem?_map, h1]; rfl⟩, h5⟩
      · rw [List.getElem?_append_right (by simpa using hi)] at h2
        rw [List.getElem?_replicate] at h2
        split at h2 <;> cases h2
    have fr : FrR C vt env (env.locals :: env.cells.map (·.2)) (env.locals :: env.cells.map (·.2) ++ W) ρ (fmIn vt bavs) h' := by
      refine ⟨⟨_, x.toInCall.ns, fun i y av h1 h2 => ?_⟩, fun i y vk h1 h2 => ?_, fun i i' y y' vk vk' a a' h1 h1' h2 h2' hne l1 l2 q => ?_, nd, by unfold fmIn; simp; omega⟩
      · obtain ⟨v, h3, h4⟩ := arg h1 h2
        rcases entry h1 with ⟨_, h5⟩ | ⟨h5, _⟩
        · exact ⟨v, bindL_get _ _ _ _ ndp h3 (by rw [hk]; exact h5), rr h4⟩
        · cases h5
      · rcases entry h1 with ⟨h3, _⟩ | ⟨h3, h4, h5⟩
        · exact absurd h3 h2
        · obtain ⟨a, ha⟩ := cf_some sc (s.heap.objs.size + 1) y h5
          rw [← hcs] at ha
          refine ⟨a, _, ha, x.cell y a ha, fun _ => List.mem_cons_of_mem _ (List.mem_map.mpr ⟨(y, a), mem_of_lookup ha, rfl⟩), fun av h6 => ?_⟩
          obtain ⟨v, h7, h8⟩ := arg h1 h6
          exact ⟨v, bindC_get _ _ _ _ ndp h7 (by rw [hk]; simp [h4]), rr h8⟩
      · subst q
        have := name_of_addr x.apart (mem_of_lookup l1) (mem_of_lookup l2)
        exact hne (vt_name nd h1 (this ▸ h1'))
    have I' := I.enter (env' := env) keep ownf nodOwn hlive (fun a q => List.mem_append_right _ q) hw (fun a q => List.mem_append_left _ q) fr List.mem_cons_self
    refine hb (s := { s with heap := h', toks := tk }) (G.deeper env) S I' hf fun fv W' ρ' h₂ t₂ I₂ r₂ st => ?_
    refine hR _ W' ρ' h₂ t₂ I₂.zero ?_ ⟨fun b o h1 h2 e => ?_, fun a q => st.wsub a (List.mem_append_right _ q), fun a q => ?_, ?_⟩
    · cases fl with
      | next => obtain rfl : fv = .next := r₂; exact rfl
      | brk => obtain rfl : fv = .brk := r₂; exact rfl
      | ret a => obtain ⟨v, rfl, rv⟩ := r₂; exact rv
    · exact st.upd b o (fun q => by rw [ownf b q] at e; cases e) h2 (keep b o e)
    · rcases st.wnew a q with z | z
      · exact hw a z
      · exact .inr (none_of_kp keep z)
    · obtain ⟨e, h1, h2⟩ := st.rex
      exact ⟨e, h1, fun a q => none_of_kp keep (h2 a q)⟩
end

mutual
noncomputable def clean : AV → Bool
  | .list l => cleanL l
  | .tuple l => cleanL l
  | .inst _ _ fs => cleanL fs
  | .dict _ vs => cleanL vs
  | .mut _ => false
  | .mutl _ => false
  | _ => true
noncomputable def cleanL : List AV → Bool
  | [] => true
  | a :: l => clean a && cleanL l
end
section
variable {C : Cx} {h h' : Heap} {W T : List Addr} {ρ ρ' : List (List Addr)}
mutual
theorem Rep.clean (hT : ∀ a, a ∈ T → a ∈ W) : ∀ (av : AV) (v : Value), clean av = true → Rep C h W ρ av v → Rep C h T ρ' av v
  | .none, _, _, x => x
  | .bool _, _, _, x => x
  | .int _, _, _, x => x
  | .str _, _, _, x => x
  | .bytes _, _, _, x => x
  | .glob _, _, _, x => x
  | .list l, _, c, ⟨a, vs, e, hn, p, r⟩ => ⟨a, vs, e, fun q => hn (hT a q), p, Reps.clean hT l vs c r⟩
  | .tuple l, _, c, ⟨a, vs, e, hn, p, r⟩ => ⟨a, vs, e, fun q => hn (hT a q), p, Reps.clean hT l vs c r⟩
  | .inst _ _ fs, _, c, ⟨x, dx, vs, e, hx, hd, i, r⟩ => ⟨x, dx, vs, e, fun q => hx (hT x q), fun q => hd (hT dx q), i, Reps.clean hT fs vs c r⟩
  | .dict _ fs, _, c, ⟨a, vs, e, hn, m, r⟩ => ⟨a, vs, e, fun q => hn (hT a q), m, Reps.clean hT fs vs c r⟩
  | .any, _, _, _ => True.intro
theorem Reps.clean (hT : ∀ a, a ∈ T → a ∈ W) : ∀ (l : List AV) (vs : List Value), cleanL l = true → Reps C h W ρ l vs → Reps C h T ρ' l vs
  | [], _, _, e => e
  | a :: l, _, c, ⟨v, r, e, x, y⟩ => by
    unfold cleanL at c
    rw [Bool.and_eq_true] at c
    exact ⟨v, r, e, Rep.clean hT a v c.1 x, Reps.clean hT l r c.2 y⟩
end
end

noncomputable def frz (sto : Sto) : AV → Option AV
  | .mut i => match sget sto i with
    | some (.list l) => if cleanL l then some (.list l) else none
    | some (.inst c ns fs) => if cleanL fs then some (.inst c ns fs) else none
    | some (.hdr c n l) => if cleanL l then some (.inst c [n] [.list l]) else none
    | none => none
  | .mutl _ => none
  | a => if clean a then some a else none
noncomputable def frzL (sto : Sto) : List AV → Option (List AV)
  | [] => some []
  | a :: l => (frz sto a).bind fun b => (frzL sto l).bind fun m => some (b :: m)
section
variable {C : Cx} {h h' : Heap} {W T : List Addr} {ρ ρ' : List (List Addr)} {sto : Sto}
theorem frz_sound (hs : StoRep C h W ρ sto) (hT : ∀ a, a ∈ T → a ∈ W) (hρ : ∀ a, a ∈ T → a ∉ ρ.flatten) {a b : AV} {v : Value} (e : frz sto a = some b) (r : Rep C h W ρ a v) : Rep C h T ρ' b v := by
  have cl : ∀ {a : AV}, (if clean a then some a else none) = some b → Rep C h W ρ a v → Rep C h T ρ' b v := fun {a} e r => by
    split at e <;> cases e
    rename_i hc
    exact Rep.clean hT _ _ hc r
  cases a with
  | «mut» i =>
    unfold frz at e
    simp only at e
    obtain ⟨a, r', rfl, hi⟩ := r
    have fl : ∀ x, x ∈ a :: r' → x ∉ T := fun x hx q => hρ x q (List.mem_flatten.mpr ⟨_, List.mem_of_getElem? hi, hx⟩)
    split at e
    · rename_i l hg
      split at e <;> cases e
      rename_i hc
      rw [sget_eq] at hg
      obtain ⟨as, h1, x, vs, rfl, h2, h3⟩ := hs _ _ hg
      rw [hi] at h1; cases h1
      exact ⟨_, vs, rfl, fl _ (by simp), h2, Reps.clean hT _ _ hc h3⟩
    · rename_i c ns fs hg
      split at e <;> cases e
      rename_i hc
      rw [sget_eq] at hg
      obtain ⟨as, h1, x, dx, vs, rfl, h2, h3⟩ := hs _ _ hg
      rw [hi] at h1; cases h1
      exact ⟨_, dx, vs, rfl, fl _ (by simp), fl _ (by simp), h2, Reps.clean hT _ _ hc h3⟩
    · rename_i c n l hg
      split at e <;> cases e
      rename_i hc
      rw [sget_eq] at hg
      obtain ⟨as, h1, x, dx, lx, vs, rfl, h2, h3, h4⟩ := hs _ _ hg
      rw [hi] at h1; cases h1
      exact ⟨_, dx, [.ref lx], rfl, fl _ (by simp), fl _ (by simp), h2, Reps.cons ⟨lx, vs, rfl, fl _ (by simp), h3, Reps.clean hT _ _ hc h4⟩ Reps.nil⟩
    · cases e
  | mutl i => cases e
  | none => exact cl (a := .none) e r
  | bool z => exact cl (a := .bool z) e r
  | int z => exact cl (a := .int z) e r
  | str z => exact cl (a := .str z) e r
  | bytes z => exact cl (a := .bytes z) e r
  | glob z => exact cl (a := .glob z) e r
  | list => exact cl e r
  | tuple => exact cl e r
  | inst => exact cl e r
  | dict => exact cl e r
  | any => exact cl (a := .any) e r
theorem frzL_sound (hs : StoRep C h W ρ sto) (hT : ∀ a, a ∈ T → a ∈ W) (hρ : ∀ a, a ∈ T → a ∉ ρ.flatten) : ∀ {l m : List AV} {vs : List Value}, frzL sto l = some m → Reps C h W ρ l vs → Reps C h T ρ' m vs
  | [], _, _, e, r => by cases e; rw [show _ = [] from r]; rfl
  | a :: l, _, _, e, ⟨v, r, e', x, y⟩ => by
    unfold frzL at e
    obtain ⟨b, h1, e⟩ := Option.bind_eq_some_iff.mp e
    obtain ⟨m, h2, e⟩ := Option.bind_eq_some_iff.mp e
    cases e
    exact ⟨v, r, e', frz_sound hs hT hρ h1 x, frzL_sound hs hT hρ h2 y⟩
end

/-- a call that changes nothing old -/
noncomputable def FnT (C : Cx) (d : Nat) (fv : Value) (g : Sto → List AV → Option AV) : Prop :=
  ∀ {A : Around} {W : List Addr} {ρ : List (List Addr)} {sto : Sto} {s : Shared} {vs : List Value} {avs : List AV} {r : AV} {Q : Value → Shared → Prop} {E : Value → Shared → Prop},
    Good d A → Inv0 C W ρ sto s.heap → g sto avs = some r → Reps C s.heap W ρ avs vs → (∀ v h' tk, Kp s.heap h' → Rep C h' W ρ r v → Q v { s with heap := h', toks := tk }) → wpAny (model C.prog C.w) A (call fv vs) Q E s

noncomputable def runFn (vt : VT) (fb : SX) (bavs : List AV) : Option AV := (fb (fmIn vt bavs) []).bind fun r => frz r.2.2 (flAV r.1)
noncomputable def atomic : AV → Bool
  | .none => true
  | .bool _ => true
  | .int _ => true
  | .str _ => true
  | .bytes _ => true
  | _ => false
theorem Rep.atomic {C : Cx} {h : Heap} {W T : List Addr} {ρ ρ' : List (List Addr)} {a : AV} {v : Value} (c : atomic a = true) (r : Rep C h W ρ a v) : Rep C h T ρ' a v := by
  cases a <;> first | exact r | cases c

noncomputable def fnSem (n k : Nat) (vt : VT) (fb : SX) (sto : Sto) (avs : List AV) : Option AV :=
  if avs.length == n then (if cleanL avs then runFn vt fb (avs ++ List.replicate k .none) else
    (frzL sto avs).bind fun bs => (runFn vt fb (bs ++ List.replicate k .none)).bind fun r => if atomic r then some r else none) else none

section
variable {C : Cx} {d : Nat} {sc : List (Str × NameKind)} {vt : VT}
theorem Reps.nones {h : Heap} {W : List Addr} {ρ : List (List Addr)} : ∀ k, Reps C h W ρ (List.replicate k .none) (List.replicate k .none)
  | 0 => rfl
  | k + 1 => ⟨.none, _, rfl, rfl, Reps.nones k⟩
/-- run with no mutable objects -/
theorem run_pure {f : Addr} {fd : FuncData} {body : List Stmt} {fb : SX} (F : FnIs C f fd body sc vt) (hb : ExT C d sc vt body fb) {A : Around} {T : List Addr} {s : Shared} {args : Args} {bv : List Value} {bavs : List AV} {r : AV} {Q : Value → Shared → Prop} {E : Value → Shared → Prop}
    (G : Good (d + 1) A) (ok : C.Ok C.h0 ∧ Kp C.h0 s.heap) (hl : ∀ a ∈ T, ∃ o, s.heap.get? a = some o) (hbind : BindsTo s fd args (((vt.take bavs.length).map (·.1)).zip bv)) (hlen : bavs.length ≤ vt.length) (rr : Reps C s.heap T [] bavs bv) (hf : runFn vt fb bavs = some r)
    (hQ : ∀ v h' tk, Kp s.heap h' → (∀ ρ, Rep C h' T ρ r v) → Q v { s with heap := h', toks := tk }) : wpAny (model C.prog C.w) A (call (.ref f) args.pos args.kw) Q E s := by
  unfold runFn at hf
  obtain ⟨⟨fl, fm', sto'⟩, h1, h2⟩ := Option.bind_eq_some_iff.mp hf
  have I0 : Inv0 C T [] [] s.heap := ⟨⟨ok.1, ok.2, by simp⟩, fun i m e => by simp at e, by simp, hl, by simp, rfl⟩
  refine wpAny_call (fn_core (R := fun r s' => match r with | .ok (.ret v) => Q v s' | .ok _ => False | .error e => E e s') F hb G I0 hbind rfl hlen rr h1 fun v W' ρ' h' tk I' r' st => ?_)
  refine hQ v h' tk (fun b o e => st.upd b o (by simp) (by simp) e) fun ρ => ?_
  refine frz_sound I'.st st.wsub (fun a q z => ?_) h2 r'
  obtain ⟨e, h3, h4⟩ := st.rex
  rw [List.nil_append] at h3
  subst h3
  obtain ⟨o, g⟩ := hl a q
  rw [h4 a z] at g; cases g
theorem fn_pure {f : Addr} {fd : FuncData} {body : List Stmt} {fb : SX} (n k : Nat) (F : FnIs C f fd body sc vt) (hb : ExT C d sc vt body fb) (hn : n + k ≤ vt.length)
    (hbind : ∀ (s : Shared) (vs : List Value), C.K.In s.heap → vs.length = n → BindsTo s fd ⟨vs, []⟩ (((vt.take (n + k)).map (·.1)).zip (vs ++ List.replicate k .none))) : FnT C (d + 1) (.ref f) (fnSem n k vt fb) := by
  intro A W ρ sto s vs avs r Q E G I hf rr hQ
  unfold fnSem at hf
  split at hf
  case isFalse => cases hf
  rename_i hlen
  have hlen : avs.length = n := by simpa using hlen
  have hvl := rr.length
  have ok : C.Ok C.h0 ∧ Kp C.h0 s.heap := ⟨I.base.1, I.base.2.1⟩
  have hb' : ∀ bs : List AV, bs.length = n → BindsTo s fd ⟨vs, []⟩ (((vt.take (bs ++ List.replicate k AV.none).length).map (·.1)).zip (vs ++ List.replicate k .none)) := fun bs hbs => by
    rw [List.length_append, List.length_replicate, hbs]
    exact hbind s vs (ok.1.keep ok.2).k (by omega)
  split at hf
  · rename_i hc
    refine run_pure (args := ⟨vs, []⟩) F hb G ok I.live (hb' avs hlen) (by simp; omega) (Reps.append (Reps.clean (fun _ q => q) _ _ hc rr) (Reps.nones k)) hf fun v h' tk kp rv => hQ v h' tk kp (rv ρ)
  · obtain ⟨bs, h1, hf⟩ := Option.bind_eq_some_iff.mp hf
    obtain ⟨r', h2, hf⟩ := Option.bind_eq_some_iff.mp hf
    split at hf <;> cases hf
    rename_i hat
    have rb : Reps C s.heap [] [] bs vs := frzL_sound I.st (by simp) (by simp) h1 rr
    have hbl := rb.length
    refine run_pure (T := []) (args := ⟨vs, []⟩) F hb G ok (by simp) (hb' bs (by omega)) (by simp; omega) (Reps.append rb (Reps.nones k)) h2 fun v h' tk kp rv => hQ v h' tk kp (Rep.atomic hat (rv []))

/-- calls by name -/
theorem ev_call {x : Str} {p pos : Pos} {e : Expr} {es : List Expr} {fv : Value} {ga : SEs} {g : Sto → List AV → Option AV} (hf : EvT C d sc vt (.Name x p) (fun _ _ => some (.glob fv))) (ha : EvsT C d sc vt (e :: es) ga)
    (hk : keepIn C.K fv = true ∨ (∃ T, fv = .type T) ∨ (∃ T, fv = .builtin T)) (fn : FnT C d fv g) (he : ∀ env, starEach (e :: es) env = (false, eval e env) :: starEach es env) (hplain : ∀ env, (backTo pos (starEach es env)).any (·.1) = false) :
    EvT C d sc vt (.Call (.Name x p) (e :: es) [] pos) (fun fm st => (ga fm st).bind (g st)) := by
  intro A env own W ρ fm sto s av Q E G S I hf' hQ
  obtain ⟨l, hl, hg⟩ := Option.bind_eq_some_iff.mp hf'
  refine Call_ (hf G S I rfl fun v h₁ t₁ k₁ r₁ => ?_)
  obtain rfl : v = fv := r₁
  have I₁ := I.keep k₁
  have fin : wpAny (model C.prog C.w) A (spliced (backTo pos (starEach (e :: es) env))) (fun vs s₁ => C.K.In s₁.heap ∧ wpAny (model C.prog C.w) A (call v vs) Q E s₁) E { s with heap := h₁, toks := t₁ } :=
    ha G S I₁ hl fun vs h₂ t₂ k₂ r₂ => ⟨(I₁.keep k₂).ok.k, fn (s := { s with heap := h₂, toks := t₂ }) G (I₁.keep k₂).zero hg r₂ fun v h' tk k r => hQ v h' tk ((k₁.trans k₂).trans k) r⟩
  rcases hk with hk | ⟨T, rfl⟩ | ⟨T, rfl⟩
  · exact callWith_K I₁.ok.k hk (by simpa using fin) (he env) (hplain env)
  · exact PyProof.Rows.callWith_type1 (wpAny_mono fin (fun _ _ h => h.2) fun _ _ h => h) (he env) (hplain env)
  · exact PyProof.Rows.callWith_builtin1 (wpAny_mono fin (fun _ _ h => h.2) fun _ _ h => h) (he env) (hplain env)
theorem ev_call0 {x : Str} {p pos : Pos} {fv : Value} {g : Sto → List AV → Option AV} (hf : EvT C d sc vt (.Name x p) (fun _ _ => some (.glob fv)))
    (hk : keepIn C.K fv = true) (fn : FnT C d fv g) : EvT C d sc vt (.Call (.Name x p) [] [] pos) (fun fm st => g st []) := by
  intro A env own W ρ fm sto s av Q E G S I hf' hQ
  refine Call_ (hf G S I rfl fun v h₁ t₁ k₁ r₁ => ?_)
  obtain rfl : v = fv := r₁
  have I₁ := I.keep k₁
  exact callWith_K0 I₁.ok.k hk (fn (s := { s with heap := h₁, toks := t₁ }) G I₁.zero hf' rfl fun v h' tk k r => hQ v h' tk (k₁.trans k) r)
end

section
variable {prog : Program} {w : World} {A : Around} {E : Value → Shared → Prop} {s : Shared}
theorem setItem_plain {l : Addr} {items : Array Value} {k : Int} {t : Tok} {v : Value} {Q : Unit → Shared → Prop} (hl : s.heap.PlainList l items) (h0 : 0 ≤ k) (hfit : k < 2 ^ 63) (hn : k < items.size)
    (hQ : ∀ h', h'.PlainList l (items.setIfInBounds k.toNat v) → Heap.SameBut l s.heap h' → Q () { s with heap := h' }) : wpAny (model prog w) A (setItem (.ref l) (.int k t) v) Q E s := by
  obtain ⟨n, ho⟩ := id hl
  have hli := hl.isList
  unfold setItem
  try with_reducible refine wpAny_holding ?_
  first | refine wpAny_bind (wpAny_pure ?_) | skip
  refine wpAny_bind (wpAny_sequenceKey hli.typeIs (by decide) ?_)
  refine wpAny_bind (wpAny_callSpecial?_slot (name := Str.ofString "__setitem__") hli.typeIs slot_list_setitem (wpAny_call_entry slot_list_setitem hli.typeIs entry_list_setitem ?_ (args_list_setitem _ _ _)))
  show wpAny _ _ (Builtin.List.listSubscript? (.int k t) >>= _) _ _ s
  refine wpAny_bind (wpAny_listSubscript_int (fitsIndex_of h0 hfit) ?_)
  clear hfit
  obtain ⟨j, rfl⟩ := Int.eq_ofNat_of_zero_le h0
  have hj : j < items.size := by omega
  have hx' : items[j]? = some items[j] := Array.getElem?_eq_getElem hj
  show wpAny _ _ ((seqItemAt l j >>= fun r => pure (r.map (j, ·))) >>= _) _ _ s
  refine wpAny_bind (wpAny_bind (wpAny_seqItemAt ho rfl (wpAny_pure ?_)))
  rw [hx']
  show wpAny _ _ (setSeqItemAt l j v >>= _) _ _ s
  have hfin : (s.heap.update l (Obj.mapSeq (·.setIfInBounds j v))).PlainList l (items.setIfInBounds j v) := ⟨_, Heap.get?_update_self _ ho rfl⟩
  refine wpAny_bind (wpAny_setSeqItemAt ho rfl ?_)
  first
    | exact wpAny_bind (wpAny_pure (wpAny_pure ⟨.none, rfl, wpAny_pure (hQ _ hfin (Heap.SameBut.update ..))⟩))
    | exact wpAny_pure ⟨.none, rfl, wpAny_pure (hQ _ hfin (Heap.SameBut.update ..))⟩
end

section
variable {C : Cx} {d : Nat} {sc : List (Str × NameKind)} {vt : VT} {env : Env} {own W W' : List Addr} {ρ ρ' : List (List Addr)} {fm : Fm} {sto sto' : Sto} {h h' : Heap}
/-- one mutable object has changed -/
theorem Inv.setMo (I : Inv C vt env own W ρ fm sto h) {i : Nat} {as : List Addr} {m : MO} (hi : ρ[i]? = some as) (k : ∀ b o, b ∉ as → b ≠ env.locals → h.get? b = some o → h'.get? b = some o)
    (hNs : ∀ m, h.Ns env.locals m → h'.Ns env.locals m) (live : ∀ a ∈ as, ∃ o, h'.get? a = some o) (hm : MoRep C h' W ρ m as) : Inv C vt env own W ρ fm (sto.set i m) h' := by
  have asW : ∀ a ∈ as, a ∈ W := fun a q => I.rhoW as (List.mem_of_getElem? hi) a q
  have keepW : ∀ b o, b ∉ W → h.get? b = some o → h'.get? b = some o := fun b o hb g => k b o (fun q => hb (asW b q)) (fun q => hb (q ▸ I.ownW _ I.locO)) g
  have rr : ∀ {a : AV} {u : Value}, Rep C h W ρ a u → Rep C h' W ρ a u := fun z => Rep.mono keepW (fun _ q => .inl q) (fun _ _ e => e) _ _ z
  have asfl : ∀ a ∈ as, a ∈ ρ.flatten := fun a q => List.mem_flatten.mpr ⟨as, List.mem_of_getElem? hi, q⟩
  obtain ⟨m0, hm0, hm1⟩ := I.fr.loc
  refine ⟨?_, ⟨⟨m0, hNs _ hm0, fun k' x' av h1 h2 => let ⟨v, h3, h4⟩ := hm1 k' x' av h1 h2; ⟨v, h3, rr h4⟩⟩, fun k' x' vk h1 h2 => ?_, I.fr.apart, I.fr.names, I.fr.len⟩, fun j mo g => ?_, I.ownW, I.rhoW, I.locO, fun a q => ?_, I.nod, by rw [List.length_set]; exact I.rlen⟩
  · obtain ⟨a, b, c⟩ := I.base
    refine ⟨a, fun y o g => k y o (fun q => ?_) (fun q => ?_) (b y o g), c⟩
    · rw [c y (List.mem_append_right _ (asfl y q))] at g; cases g
    · rw [q, c _ (List.mem_append_left _ I.locO)] at g; cases g
  · obtain ⟨a, u, h3, ⟨o, g1, g2⟩, h5, h6⟩ := I.fr.cel k' x' vk h1 h2
    have hne : a ≠ env.locals := fun q => by subst q; exact ns_not_cell hm0 ⟨o, g1, g2⟩
    have has : a ∉ as := fun q => by
      obtain ⟨i', hi'⟩ : ∃ j, as[j]? = some a := List.getElem?_of_mem q
      -- a cell is not one of a mutable object's parts
      obtain ⟨mo, hmo⟩ : ∃ mo, sto[i]? = some mo := ⟨_, List.getElem?_eq_getElem (by rw [← I.rlen]; exact (List.getElem?_eq_some_iff.mp hi).1)⟩
      obtain ⟨as', e1, e2⟩ := I.st i mo hmo
      rw [hi] at e1; cases e1
      cases mo with
      | list l => obtain ⟨x, vs, rfl, ⟨n, e3⟩, _⟩ := e2; simp at q; subst q; rw [g1] at e3; cases e3; cases g2
      | inst c ns fs =>
        obtain ⟨x, dx, vs, rfl, ⟨e3, es, n, e4, _⟩, _⟩ := e2
        simp at q
        rcases q with q | q <;> subst q
        · rw [g1] at e3; cases e3; cases g2
        · rw [g1] at e4; cases e4; cases g2
      | hdr c ns fs =>
        obtain ⟨x, dx, lx, vs, rfl, ⟨e3, es, n, e4, _⟩, ⟨n', e5⟩, _⟩ := e2
        simp at q
        rcases q with q | q | q <;> subst q
        · rw [g1] at e3; cases e3; cases g2
        · rw [g1] at e4; cases e4; cases g2
        · rw [g1] at e5; cases e5; cases g2
    exact ⟨a, u, h3, ⟨o, k a o has hne g1, g2⟩, h5, fun av z => let ⟨w, p, q⟩ := h6 av z; ⟨w, p, rr q⟩⟩
  · by_cases hj : j = i
    · subst hj
      rw [List.getElem?_set_self (by rw [← I.rlen]; exact (List.getElem?_eq_some_iff.mp hi).1)] at g
      cases g
      exact ⟨as, hi, hm⟩
    · rw [List.getElem?_set_ne (by omega)] at g
      obtain ⟨as', h1, h2⟩ := I.st j mo g
      refine ⟨as', h1, h2.mono keepW (fun _ q => .inl q) (fun _ _ e => e) fun a ha o g => k a o (fun q => ?_) (fun q => ?_) g⟩
      · -- two different rows of rho share no address
        have nd := (List.nodup_append.mp I.nod).2.1
        have : ∀ (l : List (List Addr)) (i j : Nat) (x y : List Addr), l.flatten.Nodup → l[i]? = some x → l[j]? = some y → i ≠ j → a ∈ x → a ∈ y → False := by
          intro l
          induction l with
          | nil => intro i j x y _ e; simp at e
          | cons z l ih =>
            intro i j x y nd e1 e2 hne hx hy
            rw [List.flatten_cons] at nd
            obtain ⟨n1, n2, n3⟩ := List.nodup_append.mp nd
            cases i with
            | zero =>
              cases j with
              | zero => exact hne rfl
              | succ j =>
                simp at e1 e2; subst e1
                exact n3 a hx a (List.mem_flatten.mpr ⟨y, List.mem_of_getElem? e2, hy⟩) rfl
            | succ i =>
              cases j with
              | zero =>
                simp at e1 e2; subst e2
                exact n3 a hy a (List.mem_flatten.mpr ⟨x, List.mem_of_getElem? e1, hx⟩) rfl
              | succ j =>
                simp at e1 e2
                exact ih i j x y n2 e1 e2 (by omega) hx hy
        exact this ρ j i as' as nd h1 hi hj ha q
      · subst q
        exact nodup_apart I.nod I.locO (List.mem_flatten.mpr ⟨as', List.mem_of_getElem? h1, ha⟩)
  · by_cases q1 : a ∈ as
    · exact live a q1
    · by_cases q2 : a = env.locals
      · obtain ⟨o, _, _, e, _⟩ := hNs _ hm0
        exact ⟨o, q2 ▸ e⟩
      · obtain ⟨o, e⟩ := I.live a q
        exact ⟨o, k a o q1 q2 e⟩
theorem Step.mo {as : List Addr} (hi : as ∈ ρ) (lo : env.locals ∈ own) (k : ∀ b o, b ∉ as → b ≠ env.locals → h.get? b = some o → h'.get? b = some o) : Step own W ρ h W ρ h' :=
  ⟨fun b x h1 h2 e => k b x (fun q => h2 (List.mem_flatten.mpr ⟨as, hi, q⟩)) (fun q => h1 (q ▸ lo)) e, fun _ q => q, fun _ q => .inl q, [], by simp, by simp⟩

/-- a call has changed the mutable objects -/
theorem Inv.after (I : Inv C vt env own W ρ fm sto h) (I' : Inv0 C W' ρ' sto' h') (st : Step [] W ρ h W' ρ' h') : Inv C vt env own W' ρ' fm sto' h' := by
  have keepW := st.keepW (by simp) I.rhoW
  have rr : ∀ {a : AV} {u : Value}, Rep C h W ρ a u → Rep C h' W' ρ' a u := fun z => Rep.mono keepW st.wnew st.rho _ _ z
  have ownr : ∀ a ∈ own, a ∉ ρ.flatten := fun a q z => nodup_apart I.nod q z
  obtain ⟨e, he1, he2⟩ := st.rex
  refine ⟨⟨I'.base.1, I'.base.2.1, fun a q => ?_⟩, ⟨?_, fun k' x' vk h1 h2 => ?_, I.fr.apart, I.fr.names, I.fr.len⟩, I'.st, fun a q => st.wsub a (I.ownW a q), I'.rhoW, I.locO, I'.live, List.nodup_append.mpr ⟨(List.nodup_append.mp I.nod).1, I'.nod, fun a h1 b h2 q => ?_⟩, I'.rlen⟩
  · rcases List.mem_append.mp q with q | q
    · exact I.base.2.2 a (List.mem_append_left _ q)
    · exact I'.base.2.2 a q
  · obtain ⟨m, a, b⟩ := I.fr.loc
    exact ⟨m, a.at' fun o g => st.upd _ o (by simp) (ownr _ I.locO) g, fun k' x' av h1 h2 => let ⟨v, h3, h4⟩ := b k' x' av h1 h2; ⟨v, h3, rr h4⟩⟩
  · obtain ⟨a, u, h3, ⟨o, g1, g2⟩, h5, h6⟩ := I.fr.cel k' x' vk h1 h2
    refine ⟨a, u, h3, ⟨o, st.upd a o (by simp) (fun q => ?_) g1, g2⟩, h5, fun av z => let ⟨w, p, q⟩ := h6 av z; ⟨w, p, rr q⟩⟩
    obtain ⟨as, hm, ha⟩ := List.mem_flatten.mp q
    obtain ⟨i, hi⟩ := List.getElem?_of_mem hm
    obtain ⟨mo, hmo⟩ : ∃ mo, sto[i]? = some mo := ⟨_, List.getElem?_eq_getElem (by rw [← I.rlen]; exact (List.getElem?_eq_some_iff.mp hi).1)⟩
    obtain ⟨as', e1, e2⟩ := I.st i mo hmo
    rw [hi] at e1; cases e1
    cases mo with
    | list l => obtain ⟨x, vs, rfl, ⟨n, e3⟩, _⟩ := e2; simp at ha; subst ha; rw [g1] at e3; cases e3; cases g2
    | inst c ns fs =>
      obtain ⟨x, dx, vs, rfl, ⟨e3, es, n, e4, _⟩, _⟩ := e2
      simp at ha
      rcases ha with ha | ha <;> subst ha
      · rw [g1] at e3; cases e3; cases g2
      · rw [g1] at e4; cases e4; cases g2
    | hdr c ns fs =>
      obtain ⟨x, dx, lx, vs, rfl, ⟨e3, es, n, e4, _⟩, ⟨n', e5⟩, _⟩ := e2
      simp at ha
      rcases ha with ha | ha | ha <;> subst ha
      · rw [g1] at e3; cases e3; cases g2
      · rw [g1] at e4; cases e4; cases g2
      · rw [g1] at e5; cases e5; cases g2
  · subst q
    rw [he1, List.flatten_append, List.mem_append] at h2
    rcases h2 with h2 | h2
    · exact ownr a h1 h2
    · obtain ⟨o, g⟩ := I.live a (I.ownW a h1)
      rw [he2 a h2] at g; cases g

/-- l[i] = v -/
theorem sm_setitem {o ix value : Expr} {p pos : Pos} {fo fi fv : SE} (hv : EvT C d sc vt value fv) (ho : EvT C d sc vt o fo) (hi : EvT C d sc vt ix fi) (hs : ∀ env, swapsWith value (some (.Subscript o ix p)) pos.line env = pure false) :
    SmT C d sc vt (.Assign [.Subscript o ix p] value pos) (fun fm st => (fv fm st).bind fun v => (fo fm st).bind fun a => (fi fm st).bind fun i => match a, i with
      | .mut k, .int j => (match sget st k with
        | some (.list l) => if decide (0 ≤ j) && decide (j.toNat < l.length) && decide (j ≤ 4096) then some (.next, fm, st.set k (.list (l.set j.toNat v))) else none
        | _ => none)
      | _, _ => none) := by
  intro A env own W ρ fm sto s fl fm' sto' Q E G S I hf hQ
  obtain ⟨v, hv1, hf⟩ := Option.bind_eq_some_iff.mp hf
  obtain ⟨a, ha1, hf⟩ := Option.bind_eq_some_iff.mp hf
  obtain ⟨i, hi1, hf⟩ := Option.bind_eq_some_iff.mp hf
  split at hf
  case h_2 => cases hf
  rename_i k j hfo
  split at hf
  case h_2 => cases hf
  rename_i l hg
  split at hf
  case isFalse => cases hf
  rename_i hc
  simp only [Bool.and_eq_true, decide_eq_true_eq] at hc
  obtain ⟨⟨h0, h1⟩, h2⟩ := hc
  simp only [Option.some.injEq, Prod.mk.injEq] at hf
  obtain ⟨rfl, rfl, rfl⟩ := hf
  refine wpAny_Assign_Subscript (hv G S I hv1 fun vv h₁ t₁ k₁ r₁ => ?_) (hs env)
  refine ho (s := { s with heap := h₁, toks := t₁ }) G S (I.keep k₁) ha1 fun av h₂ t₂ k₂ r₂ => ?_
  refine hi (s := { s with heap := h₂, toks := t₂ }) G S ((I.keep k₁).keep k₂) hi1 fun iv h₃ t₃ k₃ r₃ => ?_
  have I₃ := ((I.keep k₁).keep k₂).keep k₃
  obtain ⟨ad, rr, rfl, hρ⟩ := r₂
  obtain ⟨tk, rfl⟩ := r₃
  rw [sget_eq] at hg
  obtain ⟨as, e1, ad', vs, rfl, pl, rs⟩ := I₃.st _ _ hg
  rw [hρ] at e1; cases e1
  have hl := rs.length
  refine setItem_plain (s := { s with heap := h₃, toks := t₃ }) pl h0 (by omega) (by rw [List.size_toArray]; omega) fun h₄ pl₄ sb => ?_
  generalize j.toNat = n at pl₄ hQ
  have keep : ∀ b o, b ∉ [ad] → b ≠ env.locals → h₃.get? b = some o → h₄.get? b = some o := fun b o hb _ e => sb.extBut b o (by simpa using hb) e
  have adW : ad ∈ W := I₃.rhoW _ (List.mem_of_getElem? hρ) _ (by simp)
  have keepW : ∀ b o, b ∉ W → h₃.get? b = some o → h₄.get? b = some o := fun b o hb e => sb.extBut b o (fun q => hb (q ▸ adW)) e
  have adL : env.locals ≠ ad := fun q => nodup_apart I₃.nod I₃.locO (List.mem_flatten.mpr ⟨_, List.mem_of_getElem? hρ, by rw [q]; simp⟩)
  have setR : ∀ {l : List AV} {ws : List Value} {n : Nat}, Reps C h₃ W ρ l ws → Reps C h₃ W ρ (l.set n v) (ws.set n vv) := by
    intro l
    induction l with
    | nil => intro ws n r; obtain rfl : ws = [] := r; exact rfl
    | cons a l ih =>
      intro ws n r
      obtain ⟨u, r', rfl, q1, q2⟩ := r
      cases n with
      | zero => exact ⟨vv, r', rfl, (r₁.keep k₂).keep k₃, q2⟩
      | succ n => exact ⟨u, r'.set n vv, rfl, q1, ih q2⟩
  have hm : MoRep C h₄ W ρ (.list (l.set n v)) [ad] := ⟨ad, vs.set n vv, rfl, by simpa using pl₄, Reps.mono keepW (fun _ q => .inl q) (fun _ _ e => e) _ _ (setR rs)⟩
  have I₄ := I₃.setMo hρ keep (fun m z => z.sameBut sb adL) (fun a q => by rw [List.mem_singleton.mp q]; obtain ⟨n', g⟩ := pl₄; exact ⟨_, g⟩) hm
  exact hQ _ W ρ h₄ t₃ I₄ rfl (((Step.mo (List.mem_of_getElem? hρ) I.locO keep).kp_left k₃).kp_left k₂ |>.kp_left k₁)

/-- l.append(e) -/
theorem append_core {o e : Expr} {apos cpos : Pos} {fe : SE} (he : EvT C d sc vt e fe) {A : Around} {s : Shared} {v : AV} {ad : Addr} {l : List AV} {k : Nat} {as : List Addr} {m : MO} {vs : List Value} {Q : Value → Shared → Prop} {E : Value → Shared → Prop}
    (G : Good d A) (S : Stat sc env) (I : Inv C vt env own W ρ fm sto s.heap) (hv : fe fm sto = some v) (hρ : ρ[k]? = some as) (had : ad ∈ as) (pl : s.heap.PlainList ad vs.toArray) (rs : Reps C s.heap W ρ l vs) (hlen : l.length < 4096)
    (hmo : ∀ h' v', Kp s.heap h' ∨ True → h'.PlainList ad (vs ++ [v']).toArray → (∀ b o, b ≠ ad → s.heap.get? b = some o → h'.get? b = some o) → Reps C h' W ρ (l ++ [v]) (vs ++ [v']) → MoRep C h' W ρ m as)
    (hQ : ∀ h' tk, Inv C vt env own W ρ fm (sto.set k m) h' → Step own W ρ s.heap W ρ h' → Q .none { s with heap := h', toks := tk }) :
    wpAny (model C.prog C.w) A (eval e env) (fun y s₂ => wpAny (model C.prog C.w) A (call (.builtin "list.append") [.ref ad, y]) Q E s₂) E s := by
  refine he G S I hv fun vv h₂ t₂ k₂ r₂ => ?_
  have I₂ := I.keep k₂
  have hl := rs.length
  have adW : ad ∈ W := I₂.rhoW _ (List.mem_of_getElem? hρ) _ had
  refine wpAny_list_append_plain (s := { s with heap := h₂, toks := t₂ }) (pl.at fun o e => k₂ _ o e) (fun h₃ pl₃ sb => ?_) (by rw [List.size_toArray, sizeLine_eq]; omega)
  have keep : ∀ b o, b ∉ as → b ≠ env.locals → h₂.get? b = some o → h₃.get? b = some o := fun b o hb _ e => sb.extBut b o (fun q => hb (q ▸ had)) e
  have keepW : ∀ b o, b ∉ W → h₂.get? b = some o → h₃.get? b = some o := fun b o hb e => sb.extBut b o (fun q => hb (q ▸ adW)) e
  have adL : env.locals ≠ ad := fun q => nodup_apart I₂.nod I₂.locO (List.mem_flatten.mpr ⟨_, List.mem_of_getElem? hρ, by rw [q]; exact had⟩)
  have rr : Reps C h₃ W ρ (l ++ [v]) (vs ++ [vv]) := Reps.mono keepW (fun _ q => .inl q) (fun _ _ e => e) _ _ (Reps.append (rs.keep k₂) (Reps.cons r₂ Reps.nil))
  have hm := hmo h₃ vv (.inr trivial) (by simpa using pl₃) (fun b o hb e => sb.extBut b o hb (k₂ b o e)) rr
  have I₃ := I₂.setMo hρ keep (fun m z => z.sameBut sb adL) (fun a q => by
    by_cases q' : a = ad
    · obtain ⟨n', g⟩ := pl₃; exact ⟨_, q' ▸ g⟩
    · obtain ⟨o, g⟩ := I₂.live a (I₂.rhoW _ (List.mem_of_getElem? hρ) _ q)
      exact ⟨o, sb.extBut a o q' g⟩) hm
  exact hQ h₃ t₂ I₃ ((Step.mo (List.mem_of_getElem? hρ) I.locO keep).kp_left k₂)
theorem sm_append {o e : Expr} {apos cpos pos : Pos} {fo fe : SE} (ho : EvT C d sc vt o fo) (he : EvT C d sc vt e fe)
    (hbase : ∀ env, attributeBase o "append" env (eval o env) = eval o env) (hst : ∀ env, backTo cpos (starEach [e] env) = [(false, eval e env)]) (hline : (apos.endLine == cpos.line) = true) :
    SmT C d sc vt (.Expr (.Call (.Attribute o "append" apos) [e] [] cpos) pos) (fun fm st => (fo fm st).bind fun a => (fe fm st).bind fun v => match a with
      | .mut k => (match sget st k with
        | some (.list l) => if l.length < 4096 then some (.next, fm, st.set k (.list (l ++ [v]))) else none
        | _ => none)
      | .mutl k => (match sget st k with
        | some (.hdr c n l) => if l.length < 4096 then some (.next, fm, st.set k (.hdr c n (l ++ [v]))) else none
        | _ => none)
      | _ => none) := by
  intro A env own W ρ fm sto s fl fm' sto' Q E G S I hf hQ
  obtain ⟨a, ha1, hf⟩ := Option.bind_eq_some_iff.mp hf
  obtain ⟨v, hv1, hf⟩ := Option.bind_eq_some_iff.mp hf
  have hint : interactive env = false := by unfold interactive; rw [S.kind]; rfl
  refine wpAny_Expr_any ?_ hint rfl
  refine wpAny_Call_append (hbase env) (by rw [hst]; rfl) hline (hst env) (ho G S I ha1 fun av h₁ t₁ k₁ r₁ => ?_)
  have I₁ := I.keep k₁
  split at hf
  · rename_i k
    split at hf
    case h_2 => cases hf
    rename_i l hg
    split at hf
    case isFalse => cases hf
    rename_i hlen
    simp only [Option.some.injEq, Prod.mk.injEq] at hf
    obtain ⟨rfl, rfl, rfl⟩ := hf
    obtain ⟨ad, rr, rfl, hρ⟩ := r₁
    rw [sget_eq] at hg
    obtain ⟨as, e1, ad', vs, rfl, pl, rs⟩ := I₁.st _ _ hg
    rw [hρ] at e1; cases e1
    refine ⟨ad, vs.toArray, rfl, ⟨_, pl.choose, pl.choose_spec, rfl, rfl, rfl⟩, append_core (m := .list (l ++ [v])) (o := o) (apos := apos) (cpos := cpos) (s := { s with heap := h₁, toks := t₁ }) he G S I₁ hv1 hρ (by simp) pl rs hlen (fun h' v' _ pl' _ rr' => ⟨ad, _, rfl, pl', rr'⟩) fun h' tk I' st => ?_⟩
    exact hQ _ W ρ h' tk I' rfl (st.kp_left k₁)
  · rename_i k
    split at hf
    case h_2 => cases hf
    rename_i c n l hg
    split at hf
    case isFalse => cases hf
    rename_i hlen
    simp only [Option.some.injEq, Prod.mk.injEq] at hf
    obtain ⟨rfl, rfl, rfl⟩ := hf
    obtain ⟨x, dx, ad, rfl, hρ⟩ := r₁
    rw [sget_eq] at hg
    obtain ⟨as, e1, x', dx', lx', vs, rfl, ii, pl, rs⟩ := I₁.st _ _ hg
    rw [hρ] at e1; cases e1
    have nd : [x, dx, ad].Nodup := by
      have := (List.nodup_append.mp I₁.nod).2.1
      exact (List.sublist_flatten_of_mem (List.mem_of_getElem? hρ)).nodup this
    simp at nd
    refine ⟨ad, vs.toArray, rfl, ⟨_, pl.choose, pl.choose_spec, rfl, rfl, rfl⟩, append_core (m := .hdr c n (l ++ [v])) (o := o) (apos := apos) (cpos := cpos) (s := { s with heap := h₁, toks := t₁ }) he G S I₁ hv1 hρ (by simp) pl rs hlen (fun h' v' _ pl' kk rr' => ?_) fun h' tk I' st => ?_⟩
    · obtain ⟨i1, es, nn, i2, i3⟩ := ii
      exact ⟨x, dx, ad, _, rfl, ⟨kk _ _ (fun q => nd.1.2 q) i1, es, nn, kk _ _ (fun q => nd.2 q) i2, i3⟩, pl', rr'⟩
    · exact hQ _ W ρ h' tk I' rfl (st.kp_left k₁)
  · cases hf
end

noncomputable def nameAt : List Str → List AV → Str → Option AV
  | n :: ns, f :: fs, x => if n == x then some f else nameAt ns fs x
  | _, _, _ => none
theorem getL_keyed {x : Str} : ∀ {ns : List Str} {vs : List Value} {es : List DictEntry}, Keyed ns vs es → (x ∉ ns → getL x es = some none) ∧ (es.any (·.refKey) = false)
  | [], _, _, ⟨e1, e2⟩ => by subst e1 e2; exact ⟨fun _ => rfl, rfl⟩
  | n :: ns, _, _, ⟨v, r, e, r', e1, e2, ⟨t, e3⟩, e4, k⟩ => by
    subst e1 e2
    obtain ⟨h1, h2⟩ := getL_keyed (x := x) k
    have hr : e.refKey = false := by simp [DictEntry.refKey, e3]
    refine ⟨fun hx => ?_, by rw [List.any_cons, hr, h2]; rfl⟩
    simp only [List.mem_cons, not_or] at hx
    have := h1 hx.2
    unfold getL at this ⊢
    rw [List.find?_cons]
    have hk : e.key.isStr x = false := by rw [e3]; simp [Value.isStr]; intro q; exact hx.1 q.symm
    rw [hk, List.any_cons, hr]
    simpa using this
theorem getL_at {C : Cx} {h : Heap} {W : List Addr} {ρ : List (List Addr)} {x : Str} : ∀ {ns : List Str} {fs : List AV} {vs : List Value} {es : List DictEntry} {a : AV}, Keyed ns vs es → Reps C h W ρ fs vs → nameAt ns fs x = some a → ∃ v, getL x es = some (some v) ∧ Rep C h W ρ a v
  | [], _, _, _, _, _, _, e => by simp [nameAt] at e
  | n :: ns, [], _, _, _, _, _, e => by simp [nameAt] at e
  | n :: ns, f :: fs, _, _, a, ⟨v, r, e, r', e1, e2, ⟨t, e3⟩, e4, k⟩, ⟨v', q, e5, r1, r2⟩, he => by
    subst e1 e2
    cases e5
    unfold nameAt at he
    unfold getL
    rw [List.find?_cons]
    by_cases hn : n = x
    · subst hn
      simp at he; subst he
      have hk : e.key.isStr n = true := by rw [e3]; simp [Value.isStr]
      rw [hk]
      exact ⟨v, by simp [e4], r1⟩
    · have hnb : (n == x) = false := by simpa using hn
      rw [hnb] at he
      have hk : e.key.isStr x = false := by rw [e3]; simp [Value.isStr]; exact hn
      rw [hk, List.any_cons]
      have hr : e.refKey = false := by simp [DictEntry.refKey, e3]
      rw [hr]
      obtain ⟨u, h1, h2⟩ := getL_at k r2 (by simpa using he)
      unfold getL at h1
      exact ⟨u, by simpa using h1, h2⟩

/-- the class and the names of an object -/
noncomputable def clsOf (st : Sto) : AV → Option (Nat × List Str × List AV)
  | .inst c ns fs => some (c, ns, fs)
  | .mut i => match sget st i with
    | some (.inst c ns fs) => some (c, ns, fs)
    | some (.hdr c n l) => some (c, [n], [.mutl i])
    | _ => none
  | _ => none
noncomputable def plainAV : AV → Bool
  | .glob _ => false
  | .any => false
  | _ => true
theorem handed_of {C : Cx} {h : Heap} {W : List Addr} {ρ : List (List Addr)} {a : AV} {v : Value} (p : plainAV a = true) (r : Rep C h W ρ a v) : handedIn v = true := by
  cases a <;> first | cases p | skip
  · rw [show v = _ from r]; rfl
  · rw [show v = _ from r]; rfl
  · obtain ⟨t, rfl⟩ := r; rfl
  · obtain ⟨t, rfl⟩ := r; rfl
  · obtain ⟨t, rfl⟩ := r; rfl
  · obtain ⟨a, vs, rfl, _⟩ := r; rfl
  · obtain ⟨a, vs, rfl, _⟩ := r; rfl
  · obtain ⟨a, b, vs, rfl, _⟩ := r; rfl
  · obtain ⟨a, vs, rfl, _⟩ := r; rfl
  · obtain ⟨a, vs, rfl, _⟩ := r; rfl
  · obtain ⟨a, b, vs, rfl, _⟩ := r; rfl

section
variable {C : Cx} {d : Nat} {sc : List (Str × NameKind)} {vt : VT} {h : Heap} {W : List Addr} {ρ : List (List Addr)} {sto : Sto}
theorem cls_sound {a : AV} {c : Nat} {ns : List Str} {fs : List AV} {v : Value} (hs : StoRep C h W ρ sto) (e : clsOf sto a = some (c, ns, fs)) (r : Rep C h W ρ a v) :
    ∃ x dx vs, v = .ref x ∧ InstIs h x dx c ns vs ∧ Reps C h W ρ fs vs := by
  unfold clsOf at e
  split at e
  · cases e; obtain ⟨x, dx, vs, h1, _, _, h2, h3⟩ := r; exact ⟨x, dx, vs, h1, h2, h3⟩
  · split at e <;> cases e
    · rename_i hg
      rw [sget_eq] at hg
      obtain ⟨as, e1, x, dx, vs, rfl, h2, h3⟩ := hs _ _ hg
      obtain ⟨a', r', rfl, h4⟩ := r
      rw [h4] at e1; cases e1
      exact ⟨_, dx, vs, rfl, h2, h3⟩
    · rename_i i _ n l hg
      rw [sget_eq] at hg
      obtain ⟨as, e1, x, dx, lx, vs, rfl, h2, h3, h4⟩ := hs _ _ hg
      obtain ⟨a', r', rfl, h5⟩ := r
      rw [h5] at e1; cases e1
      exact ⟨_, dx, _, rfl, h2, Reps.cons ⟨_, _, _, rfl, h5⟩ Reps.nil⟩
  · cases e
theorem instAt_of {x dx : Addr} {c : Nat} {ns : List Str} {vs : List Value} (i : InstIs h x dx c ns vs) : ∃ es n, InstAt h x (instObj c dx) c (some (dictOf es n)) ∧ Keyed ns vs es := by
  obtain ⟨i1, es, n, i2, i3⟩ := i
  exact ⟨es, n, ⟨i1, rfl, rfl, i2⟩, i3⟩

/-- what is asked of a class so that the attributes of its objects are read plainly -/
structure ClsOk (K : Frag) (c : Nat) (name : Str) : Prop where
  get : plainGet K c name = true
  dict : hasDictIn K c = true
  find : findIn K (.ref c) name = some none
theorem ev_attr {x : Str} {p : Pos} {name : Str} {pos : Pos} {fo : SE} (c : Nat) (ho : EvT C d sc vt (.Name x p) fo) (hc : ClsOk C.K c name) :
    EvT C d sc vt (.Attribute (.Name x p) name pos) (fun fm st => (fo fm st).bind fun a => (clsOf st a).bind fun x => if x.1 == c then (nameAt x.2.1 x.2.2 name).bind fun v => if plainAV v then some v else none else none) := by
  intro A env own W ρ fm sto s av Q E G S I hf hQ
  obtain ⟨a, ha, hf1⟩ := Option.bind_eq_some_iff.mp hf
  obtain ⟨⟨c', ns, fs⟩, hcl, hf2⟩ := Option.bind_eq_some_iff.mp hf1
  split at hf2
  case isFalse => cases hf2
  rename_i hcc
  have hcc' : c' = c := by simpa using hcc
  rw [hcc'] at hcl
  obtain ⟨v, hv, hf3⟩ := Option.bind_eq_some_iff.mp hf2
  split at hf3
  case isFalse => cases hf3
  rename_i hp
  simp only [Option.some.injEq] at hf3
  subst hf3
  refine Attribute_name (ho G S I ha fun ov h₁ t₁ k₁ r₁ => ?_)
  have I₁ := I.keep k₁
  obtain ⟨x, dx, vs, rfl, ii, rf⟩ := cls_sound I₁.st hcl r₁
  obtain ⟨es, n, ia, kk⟩ := instAt_of ii
  obtain ⟨u, hu, ru⟩ := getL_at kk rf hv
  exact get_value (s := { s with heap := h₁, toks := t₁ }) I₁.ok.k ia (plainGet_of hc.get).1 (findObj_own hc.dict hc.find rfl (by rw [lookIn_dict]; exact hu)) (handed_of hp ru) (hQ u h₁ _ k₁ ru)

/-- C.x for a class of the program -/
theorem ev_clsattr {x : Str} {p pos : Pos} {name : Str} {c : Nat} {mc v : Value} {av : AV} (ho : EvT C d sc vt (.Name x p) (fun _ _ => some (.glob (.ref c)))) (hr : readsIn C.K c mc = true) (e : findCls C.K (.ref c) mc name = some (.val v)) (hh : handedIn v = true)
    (hv : ∀ h W ρ, Rep C h W ρ av v) : EvT C d sc vt (.Attribute (.Name x p) name pos) (fun _ _ => some av) := by
  intro A env own W ρ fm sto s av' Q E G S I hf hQ
  cases hf
  refine Attribute_name (ho G S I rfl fun ov h₁ t₁ k₁ r₁ => ?_)
  obtain rfl : ov = .ref c := r₁
  exact cls_value (s := { s with heap := h₁, toks := t₁ }) (I.keep k₁).ok.k hr e hh (hQ v h₁ _ k₁ (hv _ _ _))

/-- what is asked of a class's method -/
structure MethOk (K : Frag) (c : Nat) (name : Str) (f : Nat) : Prop where
  get : plainGet K c name = true
  find : findIn K (.ref c) name = some (some (.ref f))
  fn : isFn K (.ref f) = true
  keep : keepIn K (.ref f) = true
theorem meth_get {A : Around} {s : Shared} {c f : Nat} {name : Str} {ns : List Str} {fs : List AV} {a : AV} {v : Value} {pl : Sem Bool} {Q : Value × List Value → Shared → Prop} {E : Value → Shared → Prop} (K : C.K.In s.heap) (hs : StoRep C s.heap W ρ sto)
    (m : MethOk C.K c name f) (hc : clsOf sto a = some (c, ns, fs)) (hn : name ∉ ns) (r : Rep C s.heap W ρ a v) (h : Q (.ref f, [v]) s) : wpAny (model C.prog C.w) A (getMethod v name pl) Q E s := by
  obtain ⟨x, dx, vs, rfl, ii, rf⟩ := cls_sound hs hc r
  obtain ⟨es, n, ia, kk⟩ := instAt_of ii
  exact method_fn K ia (plainGet_of m.get).1 (plainGet_of m.get).2 m.find (beq_iff_eq.mp m.fn) (by show (lookIn name (dictOf es n)).map _ = _; rw [lookIn_dict, (getL_keyed kk).1 hn]; rfl) h

/-- o.m(args), nothing old changed -/
theorem ev_mcall {o e : Expr} {es : List Expr} {name : Str} {apos pos : Pos} {pl : Env → Sem Bool} {fo : SE} {ga : SEs} {g : Sto → List AV → Option AV} (c f : Nat) (m : MethOk C.K c name f) (ho : EvT C d sc vt o fo) (ha : EvsT C d sc vt (e :: es) ga) (fn : FnT C d (.ref f) g)
    (hs : ∀ env, starEach (e :: es) env = (false, eval e env) :: starEach es env) (hplain : ∀ env, (backTo pos (starEach es env)).any (·.1) = false)
    (he : ∀ env, eval (.Call (.Attribute o name apos) (e :: es) [] pos) env = (do
      let ov ← eval o env
      standAt apos.atName
      let (f, first) ← holding [ov] (getMethod ov name (pl env))
      callWith pos f first (backTo pos (starEach (e :: es) env)) [])) :
    EvT C d sc vt (.Call (.Attribute o name apos) (e :: es) [] pos) (fun fm st => (fo fm st).bind fun a => (ga fm st).bind fun l => (clsOf st a).bind fun x => if x.1 == c && !x.2.1.contains name then g st (a :: l) else none) := by
  intro A env own W ρ fm sto s av Q E G S I hf hQ
  obtain ⟨a, ha1, hf1⟩ := Option.bind_eq_some_iff.mp hf
  obtain ⟨l, hl, hf2⟩ := Option.bind_eq_some_iff.mp hf1
  obtain ⟨⟨c', ns, fs⟩, hcl, hf3⟩ := Option.bind_eq_some_iff.mp hf2
  split at hf3
  case isFalse => cases hf3
  rename_i hcc
  simp only [Bool.and_eq_true, beq_iff_eq, Bool.not_eq_true', List.contains_eq_mem, decide_eq_false_iff_not] at hcc
  obtain ⟨hcc1, hn⟩ := hcc
  rw [hcc1] at hcl
  refine MethodCall_ (ho G S I ha1 fun ov h₁ t₁ k₁ r₁ => ?_) (he env)
  have I₁ := I.keep k₁
  refine meth_get (s := { s with heap := h₁, toks := t₁ }) I₁.ok.k I₁.st m hcl hn r₁ ?_
  refine callWith_K I₁.ok.k m.keep (ha (s := { s with heap := h₁, toks := t₁ }) G S I₁ hl fun vs h₂ t₂ k₂ r₂ => ⟨(I₁.keep k₂).ok.k, ?_⟩) (hs env) (hplain env)
  exact fn (s := { s with heap := h₂, toks := t₂ }) G (I₁.keep k₂).zero hf3 (Reps.cons (r₁.keep k₂) r₂) fun v h' tk k r => hQ v h' tk ((k₁.trans k₂).trans k) r
theorem ev_mcall0 {o : Expr} {name : Str} {apos pos : Pos} {pl : Env → Sem Bool} {fo : SE} {g : Sto → List AV → Option AV} (c f : Nat) (m : MethOk C.K c name f) (ho : EvT C d sc vt o fo) (fn : FnT C d (.ref f) g)
    (he : ∀ env, eval (.Call (.Attribute o name apos) [] [] pos) env = (do
      let ov ← eval o env
      standAt apos.atName
      let (f, first) ← holding [ov] (getMethod ov name (pl env))
      callWith pos f first (backTo pos (starEach [] env)) [])) :
    EvT C d sc vt (.Call (.Attribute o name apos) [] [] pos) (fun fm st => (fo fm st).bind fun a => (clsOf st a).bind fun x => if x.1 == c && !x.2.1.contains name then g st [a] else none) := by
  intro A env own W ρ fm sto s av Q E G S I hf hQ
  obtain ⟨a, ha1, hf1⟩ := Option.bind_eq_some_iff.mp hf
  obtain ⟨⟨c', ns, fs⟩, hcl, hf3⟩ := Option.bind_eq_some_iff.mp hf1
  split at hf3
  case isFalse => cases hf3
  rename_i hcc
  simp only [Bool.and_eq_true, beq_iff_eq, Bool.not_eq_true', List.contains_eq_mem, decide_eq_false_iff_not] at hcc
  obtain ⟨hcc1, hn⟩ := hcc
  rw [hcc1] at hcl
  refine MethodCall_ (ho G S I ha1 fun ov h₁ t₁ k₁ r₁ => ?_) (he env)
  have I₁ := I.keep k₁
  refine meth_get (s := { s with heap := h₁, toks := t₁ }) I₁.ok.k I₁.st m hcl hn r₁ ?_
  refine callWith_K0 I₁.ok.k m.keep ?_
  exact fn (s := { s with heap := h₁, toks := t₁ }) G I₁.zero hf3 (Reps.cons r₁ Reps.nil) fun v h' tk k r => hQ v h' tk (k₁.trans k) r

/-- a class is called: an object is made and `__init__` run on it -/
noncomputable def ctorSem (c : Nat) (n k : Nat) (vt : VT) (fb : SX) (sto : Sto) (avs : List AV) : Option AV :=
  if avs.length == n && cleanL avs then (fb (fmIn vt (.mut 0 :: avs ++ List.replicate k .none)) [.inst c [] []]).bind fun r => match flAV r.1 with
    | .none => frz r.2.2 (.mut 0)
    | _ => none
  else none
theorem fn_ctor {c f : Addr} {fd : FuncData} {body : List Stmt} {fb : SX} (n k : Nat) (F : FnIs C f fd body sc vt) (hb : ExT C d sc vt body fb) (hn : 1 + n + k ≤ vt.length) (hmk : makesIn C.K c = true) (hi : findIn C.K (.ref c) "__init__" = some (some (.ref f))) (hf : isFn C.K (.ref f) = true)
    (hbind : ∀ (s : Shared) (vs : List Value), C.K.In s.heap → vs.length = 1 + n → BindsTo s fd ⟨vs, []⟩ (((vt.take (1 + n + k)).map (·.1)).zip (vs ++ List.replicate k .none))) : FnT C (d + 2) (.ref c) (ctorSem c n k vt fb) := by
  intro A W ρ sto s vs avs r Q E G I hg rr hQ
  unfold ctorSem at hg
  split at hg
  case isFalse => cases hg
  rename_i hc
  simp only [Bool.and_eq_true, beq_iff_eq] at hc
  obtain ⟨hlen, hcl⟩ := hc
  obtain ⟨⟨fl, fm', sto'⟩, hrun, hfz⟩ := Option.bind_eq_some_iff.mp hg
  have hvl := rr.length
  have ok : C.Ok s.heap := I.base.1.keep I.base.2.1
  have hnone : flAV fl = .none := by
    simp only at hfz
    split at hfz
    · assumption
    · cases hfz
  rw [hnone] at hfz
  simp only at hfz
  refine wpAny_call ?_
  obtain ⟨hh, g, dr, t, os⟩ := s
  have h0f := Heap.get?_size hh
  have h1f := Heap.get?_size (hh.push emptyDict)
  rw [Heap.size_push] at h1f
  have k1 : Kp hh (hh.push emptyDict) := Kp.push _ _
  have k2 : Kp (hh.push emptyDict) ((hh.push emptyDict).push (instObj c hh.objs.size)) := Kp.push _ _
  have gx : ((hh.push emptyDict).push (instObj c hh.objs.size)).get? (hh.objs.size + 1) = some (instObj c hh.objs.size) := by
    have := Heap.get?_push_size (hh.push emptyDict) (o := instObj c hh.objs.size) rfl
    rwa [Heap.size_push] at this
  have gd : ((hh.push emptyDict).push (instObj c hh.objs.size)).get? hh.objs.size = some emptyDict := k2 _ _ (Heap.get?_push_size _ rfl)
  refine make_core (makes_of ok.k hmk) (looks_findIn ok.k hi) (fun self => bind_fn ok.k self (beq_iff_eq.mp hf)) (.inl rfl) ?_
  generalize (hh.push emptyDict).push (instObj c hh.objs.size) = H at gx gd k2
  have kk : Kp hh H := k1.trans k2
  have n0 : hh.get? hh.objs.size = none := h0f
  have n1 : hh.get? (hh.objs.size + 1) = none := none_of_kp k1 h1f
  have G' : Good (d + 1) (A.under (.builtin "type.__call__" ⟨.ref c :: vs, []⟩)) := by
    have w1 : Code.weight (.builtin "type.__call__" ⟨.ref c :: vs, []⟩) = 1 := by kernel_rfl
    have w2 : Code.cUnits (.builtin "type.__call__" ⟨.ref c :: vs, []⟩) = 1 := by kernel_rfl
    refine ⟨G.h, ?_, ?_⟩
    · have := G.dep
      show A.depth + Code.weight (.builtin "type.__call__" ⟨.ref c :: vs, []⟩) + 4 * (d + 1) + 4 ≤ 900
      rw [w1]; omega
    · have := G.un
      show A.units + Code.cUnits (.builtin "type.__call__" ⟨.ref c :: vs, []⟩) + 40 * (d + 1) + 60 ≤ 9000
      rw [w2]; omega
  have asf : ∀ a ∈ [hh.objs.size + 1, hh.objs.size], hh.get? a = none := fun a q => by
    simp at q; rcases q with q | q
    · rw [q]; exact n1
    · rw [q]; exact n0
  have I1 : Inv0 C ([hh.objs.size + 1, hh.objs.size] ++ W) [[hh.objs.size + 1, hh.objs.size]] [.inst c [] []] H := by
    refine ⟨⟨I.base.1, I.base.2.1.trans kk, fun a q => none_of_kp I.base.2.1 (asf a (by simpa using q))⟩, fun i mo e => ?_, fun r q a z => ?_, fun a q => ?_, by simp, rfl⟩
    · cases i with
      | zero =>
        simp at e; subst e
        exact ⟨_, rfl, hh.objs.size + 1, hh.objs.size, [], rfl, ⟨gx, [], 0, gd, rfl, rfl⟩, rfl⟩
      | succ i => simp at e
    · obtain rfl : r = _ := by simpa using q
      exact List.mem_append_left _ z
    · rcases List.mem_append.mp q with q | q
      · simp at q; rcases q with q | q
        · exact ⟨_, q ▸ gx⟩
        · exact ⟨_, q ▸ gd⟩
      · obtain ⟨o, e⟩ := I.live a q
        exact ⟨o, kk _ _ e⟩
  have ra : Reps C H ([hh.objs.size + 1, hh.objs.size] ++ W) [[hh.objs.size + 1, hh.objs.size]] (.mut 0 :: avs ++ List.replicate k .none) (.ref (hh.objs.size + 1) :: vs ++ List.replicate k .none) := by
    refine Reps.cons (a := .mut 0) (l := avs ++ List.replicate k .none) (r := vs ++ List.replicate k .none) (show Rep C H ([hh.objs.size + 1, hh.objs.size] ++ W) [[hh.objs.size + 1, hh.objs.size]] (.mut 0) (.ref (hh.objs.size + 1)) from ⟨hh.objs.size + 1, [hh.objs.size], rfl, rfl⟩) (Reps.append ?_ (Reps.nones k))
    refine Reps.mono (W := W) (ρ := []) (h := hh) (fun b o _ e => kk b o e) (fun a q => (List.mem_append.mp q).elim (fun q => .inr (asf a q)) .inl) (by simp) _ _ (Reps.clean (fun _ q => q) _ _ hcl rr)
  have hbl : (AV.mut 0 :: avs ++ List.replicate k AV.none).length = 1 + n + k := by simp; omega
  refine fn_core (s := ⟨H, g, dr, t, os⟩) F hb G' I1 (pn := (vt.take (1 + n + k)).map (·.1)) (bv := .ref (hh.objs.size + 1) :: vs ++ List.replicate k .none) (hbind _ (.ref (hh.objs.size + 1) :: vs) (ok.keep kk).k (by simp; omega)) (by rw [hbl]) (by omega) ra hrun fun v W' ρ' h' tk I' r' st => ?_
  rw [hnone] at r'
  refine ⟨r', ?_⟩
  have st0 : ∀ b o, hh.get? b = some o → h'.get? b = some o := fun b o e => st.upd b o (by simp) (fun q => by rw [asf b (by simpa using q)] at e; cases e) (kk b o e)
  obtain ⟨e, he1, he2⟩ := st.rex
  have self : Rep C h' W' ρ' (.mut 0) (.ref (hh.objs.size + 1)) := ⟨_, [hh.objs.size], rfl, by rw [he1]; rfl⟩
  refine hQ (.ref (hh.objs.size + 1)) h' tk st0 (frz_sound I'.st (fun a q => st.wsub a (List.mem_append_right _ q)) (fun a q z => ?_) hfz self)
  obtain ⟨o, g⟩ := I.live a q
  rw [he1, List.flatten_append, List.mem_append] at z
  rcases z with z | z
  · rw [asf a (by simpa using z)] at g; cases g
  · rw [none_of_kp kk (he2 a z)] at g; cases g
end
section
variable {C : Cx} {d : Nat} {sc : List (Str × NameKind)} {vt : VT}
theorem ts_debug {x : Str} {p : Pos} (hx : x = "__debug__") : TsT C d sc vt (.Name x p) (fun _ _ => some true) := by
  intro A env own W ρ fm sto s b Q E G S I hf hQ
  cases hf
  subst hx
  show wpAny _ _ (do let v ← eval (.Name "__debug__" p) env; standAt p; holding [v] (truthy v)) _ _ _
  refine wpAny_bind ?_
  show wpAny _ _ (do standAt p; debugConstant) _ _ _
  refine wpAny_bind (wpAny_standAt ?_)
  unfold debugConstant
  exact wpAny_bind (wpAny_rule (wpAny_pure (wpAny_bind (wpAny_standAt (wpAny_holding (wpAny_truthy_bool (hQ s.heap s.toks (Kp.refl _))))))))

/-- a, b = e -/
theorem sm_pair {tg e : Expr} {pos : Pos} {k l : Nat} {f : SE} (t : Tg sc vt tg [k, l]) (htg : ∃ es n p, tg = .Tuple es n p) (h : EvT C d sc vt e f) (hs : ∀ env, swapsWithSole [tg] e pos.line env = pure false) (hw : ∀ env, Stat sc env → swappedStores [tg] e env = pure none) :
    SmT C d sc vt (.Assign [tg] e pos) (fun fm st => (f fm st).bind fun a => match a with
      | .tuple [a, b] => some (.next, fset (fset fm k a) l b, st)
      | _ => none) := by
  intro A env own W ρ fm sto s fl fm' sto' Q E G S I hf hQ
  obtain ⟨a, ha, hf1⟩ := Option.bind_eq_some_iff.mp hf
  split at hf1
  case h_2 => cases hf1
  rename_i a b
  simp only [Option.some.injEq, Prod.mk.injEq] at hf1
  obtain ⟨rfl, rfl, rfl⟩ := hf1
  obtain ⟨es, n, p, rfl⟩ := htg
  refine Assign_Tuple (h G S I ha fun v h₁ t₁ k₁ r₁ => ?_) (hs env) (hw env S)
  obtain ⟨T, vs, rfl, hW, ⟨n', ht⟩, rr⟩ := r₁
  refine assign_sound (s := { s with heap := h₁, toks := t₁ }) (as := [a, b]) t G.h S (I.keep k₁) ⟨T, rfl, _, ht, rfl, n', rfl⟩ rr rfl fun h₂ t₂ I₂ k₂ => ?_
  exact hQ _ W ρ h₂ t₂ I₂ rfl ((Step.own_upd k₂).kp_left k₁)
/-- a, b = (e1, e2) where the stores are made in the other order -/
theorem sm_swap {x y : Str} {p1 p2 p pos : Pos} {n : Nat} {e : Expr} {k l : Nat} {f : SE} (n1 : NmOk sc vt k x) (n2 : NmOk sc vt l y) (h : EvT C d sc vt e f) (hs : ∀ env, swapsWithSole [.Tuple [.Name x p1, .Name y p2] n p] e pos.line env = pure false)
    (hw : ∀ env, Stat sc env → swappedStores [.Tuple [.Name x p1, .Name y p2] n p] e env = pure (some [x, y])) :
    SmT C d sc vt (.Assign [.Tuple [.Name x p1, .Name y p2] n p] e pos) (fun fm st => (f fm st).bind fun a => match a with
      | .tuple [a, b] => some (.next, fset (fset fm l b) k a, st)
      | _ => none) := by
  intro A env own W ρ fm sto s fl fm' sto' Q E G S I hf hQ
  obtain ⟨a, ha, hf1⟩ := Option.bind_eq_some_iff.mp hf
  split at hf1
  case h_2 => cases hf1
  rename_i a b
  simp only [Option.some.injEq, Prod.mk.injEq] at hf1
  obtain ⟨rfl, rfl, rfl⟩ := hf1
  refine Assign_Tuple_swapped (h G S I ha fun v h₁ t₁ k₁ r₁ => ?_) (hs env) (hw env S)
  obtain ⟨T, vs, rfl, hW, ⟨n', ht⟩, rr⟩ := r₁
  obtain ⟨u, r', e1, ru, w, r'', e2, rw', e3⟩ := rr
  cases e1; cases e2; cases e3
  refine wpAny_unpackItems_tuple (s := { s with heap := h₁, toks := t₁ }) (items := #[u, w]) G.h ⟨_, ht, rfl, n', rfl⟩ fun h₂ k₂ => ?_
  have kp : Kp h₁ h₂ := fun b o e => k₂ b o (Nat.ne_of_lt (Heap.lt_size e)) e
  show wpAny _ _ (assignInOrder [bindName env y, bindName env x] [w, u]) _ E _
  refine wpAny_bind (wpAny_holding (wpAny_bindName (store_sound (s := { s with heap := h₂, toks := t₁ }) n2 S ((I.keep k₁).keep kp) (rw'.keep kp) fun h₃ t₃ I₃ k₃ => ?_)))
  have ru' : Rep C h₃ W ρ a u := Rep.mono (fun b o hb e => k₃ b o (fun q => hb (I.ownW _ q)) e) (fun _ q => .inl q) (fun _ _ e => e) _ _ (ru.keep kp)
  refine wpAny_bind (wpAny_holding (wpAny_bindName (store_sound (s := { s with heap := h₃, toks := t₃ }) n1 S I₃ ru' fun h₄ t₄ I₄ k₄ => ?_)))
  exact wpAny_pure (hQ _ W ρ h₄ t₄ I₄ rfl (((Step.own_upd k₃).tr (Step.own_upd k₄) ((I.keep k₁).keep kp) I₃).kp_left (k₁.trans kp)))
/-- a = b = c = e -/
theorem sm_three {x y z : Str} {p1 p2 p3 pos : Pos} {e : Expr} {k l m : Nat} {f : SE} (n1 : NmOk sc vt k x) (n2 : NmOk sc vt l y) (n3 : NmOk sc vt m z) (h : EvT C d sc vt e f) (hw : ∀ env, swappedStores [.Name x p1, .Name y p2, .Name z p3] e env = pure none) :
    SmT C d sc vt (.Assign [.Name x p1, .Name y p2, .Name z p3] e pos) (fun fm st => (f fm st).map fun a => (.next, fset (fset (fset fm k a) l a) m a, st)) := by
  intro A env own W ρ fm sto s fl fm' sto' Q E G S I hf hQ
  obtain ⟨a, ha, hf1⟩ := Option.map_eq_some_iff.mp hf
  simp only [Prod.mk.injEq] at hf1
  obtain ⟨rfl, rfl, rfl⟩ := hf1
  refine wpAny_Assign_three (h G S I ha fun v h₁ t₁ k₁ r₁ => ?_) rfl (hw env)
  have st : ∀ {h h' : Heap}, (∀ b o, b ∉ own → h.get? b = some o → h'.get? b = some o) → Rep C h W ρ a v → Rep C h' W ρ a v := fun k r => Rep.mono (fun b o hb e => k b o (fun q => hb (I.ownW _ q)) e) (fun _ q => .inl q) (fun _ _ e => e) _ _ r
  have I₁ := I.keep k₁
  refine wpAny_assign_Name (store_sound (s := { s with heap := h₁, toks := t₁ }) n1 S I₁ r₁ fun h₂ t₂ I₂ k₂ => ?_)
  refine wpAny_assign_Name (store_sound (s := { s with heap := h₂, toks := t₂ }) n2 S I₂ (st k₂ r₁) fun h₃ t₃ I₃ k₃ => ?_)
  refine wpAny_assign_Name (store_sound (s := { s with heap := h₃, toks := t₃ }) n3 S I₃ (st k₃ (st k₂ r₁)) fun h₄ t₄ I₄ k₄ => ?_)
  exact hQ _ W ρ h₄ t₄ I₄ rfl ((((Step.own_upd k₂).tr (Step.own_upd k₃) I₁ I₂).tr (Step.own_upd k₄) I₁ I₃).kp_left k₁)

/-- self.x = e -/
structure SetOk (K : Frag) (c : Nat) (name : Str) : Prop where
  set : findIn K (.ref c) "__setattr__" = some (some (.builtin "object.__setattr__"))
  over : plainOver K c = true
  take : takerIn K c name = some none
  dict : hasDictIn K c = true
noncomputable def allObjs (h : Heap) : List (Addr × Obj) := (List.range h.objs.size).filterMap fun a => (h.get? a).map fun o => (a, o)
theorem mem_allObjs {h : Heap} {a : Addr} {o : Obj} : (a, o) ∈ allObjs h ↔ h.get? a = some o := by
  unfold allObjs
  rw [List.mem_filterMap]
  constructor
  · rintro ⟨b, _, hb⟩
    obtain ⟨o', h1, h2⟩ := Option.map_eq_some_iff.mp hb
    cases h2; exact h1
  · intro e
    exact ⟨a, List.mem_range.mpr (Heap.lt_size e), by rw [e]; rfl⟩
theorem keyed_put {x : Str} {hsh : Int} {t : Tok} {v : Value} : ∀ {ns : List Str} {vs : List Value} {es : List DictEntry}, Keyed ns vs es → x ∉ ns → Keyed (ns ++ [x]) (vs ++ [v]) (putL x hsh (.str x t) v es)
  | [], _, _, ⟨e1, e2⟩, _ => by subst e1 e2; exact ⟨v, [], ⟨hsh, .str x t, v⟩, [], rfl, rfl, ⟨t, rfl⟩, rfl, rfl, rfl⟩
  | n :: ns, _, _, ⟨w, r, e, r', e1, e2, ⟨u, e3⟩, e4, k⟩, hx => by
    subst e1 e2
    simp only [List.mem_cons, not_or] at hx
    unfold putL
    have hk : e.key.isStr x = false := by rw [e3]; simp [Value.isStr]; intro q; exact hx.1 q.symm
    rw [hk]
    exact ⟨w, r ++ [v], e, _, rfl, rfl, ⟨u, e3⟩, e4, keyed_put k hx.2⟩
theorem Keyed.length : ∀ {ns : List Str} {vs : List Value} {es : List DictEntry}, Keyed ns vs es → es.length = ns.length
  | [], _, _, ⟨_, e2⟩ => by rw [e2]; rfl
  | n :: ns, _, _, ⟨w, r, e, r', e1, e2, _, _, k⟩ => by rw [e2]; simp [Keyed.length k]
theorem putL_len {x : Str} {hsh : Int} {key v : Value} : ∀ es : List DictEntry, (putL x hsh key v es).length ≤ es.length + 1
  | [] => Nat.le_refl _
  | e :: r => by
    unfold putL
    split
    · simp
    · simp; have := putL_len (x := x) (hsh := hsh) (key := key) (v := v) r; omega
theorem sm_setattr {x : Str} {p ap pos : Pos} {name : Str} {e : Expr} {fo fe : SE} (c : Nat) (ho : EvT C d sc vt (.Name x p) fo) (he : EvT C d sc vt e fe) (so : SetOk C.K c name) (hs : ∀ env, swapsWith e (some (.Attribute (.Name x p) name ap)) pos.line env = pure false) :
    SmT C d sc vt (.Assign [.Attribute (.Name x p) name ap] e pos) (fun fm st => (fe fm st).bind fun v => (fo fm st).bind fun a => match a with
      | .mut i => (match sget st i with
        | some (.inst c' ns fs) => if c' == c && !ns.contains name && decide (ns.length ≤ 20) then some (.next, fm, st.set i (.inst c' (ns ++ [name]) (fs ++ [v]))) else none
        | _ => none)
      | _ => none) := by
  intro A env own W ρ fm sto s fl fm' sto' Q E G S I hf hQ
  obtain ⟨v, hv, hf1⟩ := Option.bind_eq_some_iff.mp hf
  obtain ⟨a, ha, hf2⟩ := Option.bind_eq_some_iff.mp hf1
  split at hf2
  case h_2 => cases hf2
  rename_i i _
  split at hf2
  case h_2 => cases hf2
  rename_i c' ns fs hg
  split at hf2
  case isFalse => cases hf2
  rename_i hcc
  simp only [Bool.and_eq_true, beq_iff_eq, Bool.not_eq_true', List.contains_eq_mem, decide_eq_false_iff_not, decide_eq_true_eq] at hcc
  obtain ⟨⟨hcc, hn⟩, hlen⟩ := hcc
  simp only [Option.some.injEq, Prod.mk.injEq] at hf2
  obtain ⟨rfl, rfl, rfl⟩ := hf2
  subst hcc
  refine plainObj_wpAny_Assign_Attribute (he G S I hv fun vv h₁ t₁ k₁ r₁ => ?_) (hs env)
  refine ho (s := { s with heap := h₁, toks := t₁ }) G S (I.keep k₁) ha fun ov h₂ t₂ k₂ r₂ => ?_
  have I₂ := (I.keep k₁).keep k₂
  have r₁ := r₁.keep k₂
  obtain ⟨ad, rr, rfl, hρ⟩ := r₂
  rw [sget_eq] at hg
  obtain ⟨as, e1, x', dx, vs, rfl, ii, rf⟩ := I₂.st _ _ hg
  rw [hρ] at e1; cases e1
  obtain ⟨i1, es, nn, i2, i3⟩ := ii
  have ia : InstAt h₂ ad (instObj c' dx) c' (some (dictOf es nn)) := ⟨i1, rfl, rfl, i2⟩
  obtain ⟨m, hm, _⟩ := I₂.fr.loc
  have hLfl : ∀ a ∈ [ad, dx], a ≠ env.locals := fun a q z => nodup_apart I₂.nod I₂.locO (List.mem_flatten.mpr ⟨_, List.mem_of_getElem? hρ, z ▸ q⟩)
  have nd : [ad, dx].Nodup := (List.sublist_flatten_of_mem (List.mem_of_getElem? hρ)).nodup (List.nodup_append.mp I₂.nod).2.1
  simp at nd
  have hl := (getL_keyed i3 (x := name)).1 hn
  -- everything else stands
  let h00 : Heap := {}
  have g00 : ∀ b o, h00.get? b = some o → False := fun b o e => by have := Heap.lt_size e; exact absurd this (Nat.not_lt_zero _)
  have F : Fr h00 env.locals h₂ m := ⟨hm, fun b o e => (g00 b o e).elim, Nat.zero_le _⟩
  have g0n : ∀ b, h00.get? b = none := fun b => by
    cases e : h00.get? b with
    | none => rfl
    | some o => exact (g00 b o e).elim
  have N : News h00 env.locals h₂ ([] ++ (dx, dictOf es nn) :: (allObjs h₂).filter fun p => decide (p.1 ≠ dx ∧ p.1 ≠ env.locals)) := fun q hq => by
    rw [List.nil_append] at hq
    rcases List.mem_cons.mp hq with e | e
    · rw [e]; exact ⟨i2, hLfl dx (by simp), g0n _⟩
    · obtain ⟨e1, e2⟩ := List.mem_filter.mp e
      simp only [decide_eq_true_eq] at e2
      exact ⟨mem_allObjs.mp e1, e2.2, g0n _⟩
  refine set_plain (s := { s with heap := h₂, toks := t₂ }) I₂.ok.k ia so.set ?_
  refine osa_dict (s := { s with heap := h₂, toks := t₂ + 1 }) (pre := []) F N I₂.ok.k ia rfl so.over so.take so.dict (by rw [lookIn_dict, hl]; rfl) (by simp) (fun p hp => (by simpa using (List.mem_filter.mp hp).2 : p.1 ≠ dx ∧ p.1 ≠ env.locals).1) (putName_dict ..) rfl ?_ fun h₃ F' N' => ?_
  · have h1 := Keyed.length i3
    refine Nat.le_trans (putL_len es) ?_
    omega
  · have keep : ∀ b o, b ∉ [ad, dx] → b ≠ env.locals → h₂.get? b = some o → h₃.get? b = some o := fun b o hb hL e => by
      have : (b, o) ∈ (allObjs h₂).filter fun p => decide (p.1 ≠ dx ∧ p.1 ≠ env.locals) := List.mem_filter.mpr ⟨mem_allObjs.mpr e, by simp at hb ⊢; exact ⟨hb.2, hL⟩⟩
      exact (N' (b, o) (by simp only [List.nil_append]; exact List.mem_cons_of_mem _ this)).1
    have kad : h₃.get? ad = some (instObj c' dx) := (N' (ad, instObj c' dx) (by
      simp only [List.nil_append]
      refine List.mem_cons_of_mem _ (List.mem_filter.mpr ⟨mem_allObjs.mpr i1, ?_⟩)
      have := hLfl ad (by simp)
      simp [nd, this])).1
    have kdx := (N' _ (by simp only [List.nil_append]; exact List.mem_cons_self)).1
    have adW : ∀ a ∈ [ad, dx], a ∈ W := fun a q => I₂.rhoW _ (List.mem_of_getElem? hρ) a q
    have keepW : ∀ b o, b ∉ W → h₂.get? b = some o → h₃.get? b = some o := fun b o hb e => keep b o (fun q => hb (adW b q)) (fun q => hb (q ▸ I₂.ownW _ I₂.locO)) e
    have hmo : MoRep C h₃ W ρ (.inst c' (ns ++ [name]) (fs ++ [v])) [ad, dx] :=
      ⟨ad, dx, vs ++ [vv], rfl, ⟨kad, _, _, kdx, keyed_put i3 hn⟩, Reps.mono keepW (fun _ q => .inl q) (fun _ _ e => e) _ _ (Reps.append rf (Reps.cons r₁ Reps.nil))⟩
    have I₃ := I₂.setMo hρ keep (fun m' hm' => by
      -- the namespace is the same
      have e : m' = m := by
        obtain ⟨o, es1, ep1, a1, a2, a3, a4⟩ := hm'
        obtain ⟨o2, es2, ep2, b1, b2, b3, b4⟩ := hm
        rw [a1] at b1; cases b1
        rw [a2] at b2; cases b2
        funext x; rw [← a4 x, ← b4 x]
      rw [e]; exact F'.ns) (fun a q => by
        simp at q
        rcases q with q | q
        · exact ⟨_, q ▸ kad⟩
        · exact ⟨_, q ▸ kdx⟩) hmo
    exact hQ _ W ρ h₃ _ I₃ rfl (((Step.mo (List.mem_of_getElem? hρ) I.locO keep).kp_left k₂).kp_left k₁)
end
section
variable {C : Cx} {d : Nat} {sc : List (Str × NameKind)} {vt : VT}
/-- a += b -/
theorem sm_aug (k : Nat) {x : Str} {p pos : Pos} {e : Expr} {f : SE} (hv : vt[k]? = some (x, VK.loc)) (hk : sc.lookup x = some .local) (h : EvT C d sc vt e f) :
    SmT C d sc vt (.AugAssign (.Name x p) .Add e pos) (fun fm st => (fget fm k).bind fun a => (f fm st).bind fun b => match a, b with
      | .int a, .int b => some (.next, fset fm k (.int (a + b)), st)
      | _, _ => none) := by
  intro A env own W ρ fm sto s fl fm' sto' Q E G S I hf hQ
  obtain ⟨a, ha, hf1⟩ := Option.bind_eq_some_iff.mp hf
  obtain ⟨b, hb, hf2⟩ := Option.bind_eq_some_iff.mp hf1
  split at hf2
  case h_2 => cases hf2
  rename_i a b
  simp only [Option.some.injEq, Prod.mk.injEq] at hf2
  obtain ⟨rfl, rfl, rfl⟩ := hf2
  obtain ⟨m, hm, q⟩ := I.fr.loc
  obtain ⟨v, hv1, t, rfl⟩ := q k x _ hv (fget_some ha)
  refine wpAny_AugAssign_Name (wpAny_loadName_local S.kind (S.kindOf hk) hm hv1 ?_)
  refine h G S I hb fun v h₁ t₁ k₁ r₁ => ?_
  obtain ⟨u, rfl⟩ := r₁
  refine wpAny_iadd_int (s := { s with heap := h₁, toks := t₁ }) ?_
  refine store_sound (s := { s with heap := h₁, toks := t₁ + 1 }) (.inl ⟨hv, hk⟩) S (I.keep k₁) (av := .int (a + b)) ⟨_, rfl⟩ fun h₂ t₂ I₂ k₂ => ?_
  exact hQ _ W ρ h₂ t₂ I₂ rfl ((Step.own_upd k₂).kp_left k₁)
/-- an expression for nothing -/
theorem sm_expr {e : Expr} {pos : Pos} {f : SE} (h : EvT C d sc vt e f) (hs : ∀ env, swapsWith e none pos.line env = pure false) : SmT C d sc vt (.Expr e pos) (fun fm st => (f fm st).map fun _ => (.next, fm, st)) := by
  intro A env own W ρ fm sto s fl fm' sto' Q E G S I hf hQ
  obtain ⟨a, ha, hf1⟩ := Option.map_eq_some_iff.mp hf
  simp only [Prod.mk.injEq] at hf1
  obtain ⟨rfl, rfl, rfl⟩ := hf1
  have hint : interactive env = false := by unfold interactive; rw [S.kind]; rfl
  exact wpAny_Expr_any (h G S I ha fun v h₁ t₁ k₁ r₁ => hQ _ W ρ h₁ t₁ (I.keep k₁) rfl (.of_kp k₁)) hint (hs env)

/-- o.m(args, kw=b) where the callee does not look at o -/
theorem ev_mkw {o e : Expr} {name : Str} {apos pos : Pos} {pl : Env → Sem Bool} {fo fe : SE} {kn : Str} {kb : Bool} {kt : Nat} {kp kp2 : Pos} {c f : Nat} {fd : FuncData} {body : List Stmt} {sc' : List (Str × NameKind)} {vt' : VT} {fb : SX} (m : MethOk C.K c name f)
    (F : FnIs C f fd body sc' vt') (hb : ExT C d sc' vt' body fb) (hvt : 3 ≤ vt'.length) (ho : EvT C (d + 1) sc vt o fo) (hev : EvT C (d + 1) sc vt e fe)
    (hbind : ∀ (s : Shared) (a b c : Value), C.K.In s.heap → BindsTo s fd ⟨[a, b], [(kn, c)]⟩ (((vt'.take 3).map (·.1)).zip [a, b, c]))
    (hs : ∀ env, starEach [e] env = [(false, eval e env)])
    (he : ∀ env, eval (.Call (.Attribute o name apos) [e] [⟨some kn, .Constant (.bool kb) kt kp, kp2⟩] pos) env = (do
      let ov ← eval o env
      standAt apos.atName
      let (f, first) ← holding [ov] (getMethod ov name (pl env))
      callWith pos f first (backTo pos (starEach [e] env)) (backToKw pos (keywordEach [⟨some kn, .Constant (.bool kb) kt kp, kp2⟩] env)))) :
    EvT C (d + 1) sc vt (.Call (.Attribute o name apos) [e] [⟨some kn, .Constant (.bool kb) kt kp, kp2⟩] pos) (fun fm st => (fo fm st).bind fun a => (fe fm st).bind fun v => (clsOf st a).bind fun x =>
      if x.1 == c && !x.2.1.contains name && atomic v then (runFn vt' fb [.any, v, .bool kb]).bind fun r => if atomic r then some r else none else none) := by
  intro A env own W ρ fm sto s av Q E G S I hf hQ
  obtain ⟨a, ha1, hf1⟩ := Option.bind_eq_some_iff.mp hf
  obtain ⟨v, hv, hf2⟩ := Option.bind_eq_some_iff.mp hf1
  obtain ⟨⟨c', ns, fs⟩, hcl, hf3⟩ := Option.bind_eq_some_iff.mp hf2
  split at hf3
  case isFalse => cases hf3
  rename_i hcc
  simp only [Bool.and_eq_true, beq_iff_eq, Bool.not_eq_true', List.contains_eq_mem, decide_eq_false_iff_not] at hcc
  obtain ⟨⟨hcc1, hn⟩, hat⟩ := hcc
  rw [hcc1] at hcl
  obtain ⟨r, hr, hf4⟩ := Option.bind_eq_some_iff.mp hf3
  split at hf4
  case isFalse => cases hf4
  rename_i har
  simp only [Option.some.injEq] at hf4
  subst hf4
  refine methodCall_KW (ho G S I ha1 fun ov h₁ t₁ k₁ r₁ => ?_) (he env)
  have I₁ := I.keep k₁
  refine meth_get (s := { s with heap := h₁, toks := t₁ }) I₁.ok.k I₁.st m hcl hn r₁ ?_
  refine callWith_KW I₁.ok.k m.keep rfl ?_ (by rw [hs]; rfl) (hs env)
  rw [hs]
  refine Calls.spliced_cons ?_
  show wpAny _ _ (eval e env) _ _ _
  refine hev (s := { s with heap := h₁, toks := t₁ }) G S I₁ hv fun vv h₂ t₂ k₂ r₂ => Calls.spliced_nil ?_
  refine evalAll_cons (wpAny_bind (wpAny_Constant_bool (wpAny_bind (wpAny_standAt (wpAny_pure (evalAll_nil ?_))))))
  have I₂ := I₁.keep k₂
  refine ⟨I₂.ok.k, ?_⟩
  refine run_pure (T := []) (s := { s with heap := h₂, toks := t₂ }) (args := ⟨[ov, vv], [(kn, .bool kb)]⟩) (bv := [ov, vv, .bool kb]) (bavs := [.any, v, .bool kb]) F hb G ⟨I₂.base.1, I₂.base.2.1⟩ (by simp) (hbind _ _ _ _ I₂.ok.k) hvt
    (Reps.cons trivial (Reps.cons (Rep.atomic hat r₂) (Reps.cons rfl Reps.nil))) hr fun w h' tk kp rv => hQ w h' tk ((k₁.trans k₂).trans kp) (Rep.atomic har (rv []))

/-- o.m(args), which may change the mutable objects -/
theorem sm_mcall {o e : Expr} {es : List Expr} {name : Str} {apos cpos pos : Pos} {pl : Env → Sem Bool} {fo : SE} {ga : SEs} {c f : Nat} {fd : FuncData} {body : List Stmt} {sc' : List (Str × NameKind)} {vt' : VT} {fb : SX} (n : Nat) (m : MethOk C.K c name f)
    (F : FnIs C f fd body sc' vt') (hb : ExT C d sc' vt' body fb) (hn' : n ≤ vt'.length) (ho : EvT C (d + 1) sc vt o fo) (ha : EvsT C (d + 1) sc vt (e :: es) ga)
    (hbind : ∀ (s : Shared) (vs : List Value), C.K.In s.heap → vs.length = n → BindsTo s fd ⟨vs, []⟩ (((vt'.take n).map (·.1)).zip vs))
    (hs : ∀ env, starEach (e :: es) env = (false, eval e env) :: starEach es env) (hplain : ∀ env, (backTo cpos (starEach es env)).any (·.1) = false)
    (he : ∀ env, eval (.Call (.Attribute o name apos) (e :: es) [] cpos) env = (do
      let ov ← eval o env
      standAt apos.atName
      let (f, first) ← holding [ov] (getMethod ov name (pl env))
      callWith cpos f first (backTo cpos (starEach (e :: es) env)) [])) :
    SmT C (d + 1) sc vt (.Expr (.Call (.Attribute o name apos) (e :: es) [] cpos) pos) (fun fm st => (fo fm st).bind fun a => (ga fm st).bind fun l => (clsOf st a).bind fun x => if x.1 == c && !x.2.1.contains name && (l.length + 1 == n) then
      (fb (fmIn vt' (a :: l)) st).map fun r => (.next, fm, r.2.2) else none) := by
  intro A env own W ρ fm sto s fl fm' sto' Q E G S I hf hQ
  obtain ⟨a, ha1, hf1⟩ := Option.bind_eq_some_iff.mp hf
  obtain ⟨l, hl, hf2⟩ := Option.bind_eq_some_iff.mp hf1
  obtain ⟨⟨c', ns, fs⟩, hcl, hf3⟩ := Option.bind_eq_some_iff.mp hf2
  split at hf3
  case isFalse => cases hf3
  rename_i hcc
  simp only [Bool.and_eq_true, beq_iff_eq, Bool.not_eq_true', List.contains_eq_mem, decide_eq_false_iff_not] at hcc
  obtain ⟨⟨hcc1, hn⟩, hlen⟩ := hcc
  rw [hcc1] at hcl
  obtain ⟨⟨fl0, fm0, sto0⟩, hrun, hf4⟩ := Option.map_eq_some_iff.mp hf3
  simp only [Prod.mk.injEq] at hf4
  obtain ⟨rfl, rfl, rfl⟩ := hf4
  have hint : interactive env = false := by unfold interactive; rw [S.kind]; rfl
  refine wpAny_Expr_any ?_ hint rfl
  refine MethodCall_ (ho G S I ha1 fun ov h₁ t₁ k₁ r₁ => ?_) (he env)
  have I₁ := I.keep k₁
  refine meth_get (s := { s with heap := h₁, toks := t₁ }) I₁.ok.k I₁.st m hcl hn r₁ ?_
  refine callWith_K I₁.ok.k m.keep (ha (s := { s with heap := h₁, toks := t₁ }) G S I₁ hl fun vs h₂ t₂ k₂ r₂ => ⟨(I₁.keep k₂).ok.k, ?_⟩) (hs env) (hplain env)
  have I₂ := I₁.keep k₂
  have rr : Reps C h₂ W ρ (a :: l) (ov :: vs) := Reps.cons (r₁.keep k₂) r₂
  have hvl := rr.length
  have e1 : (a :: l).length = n := by simpa using hlen
  refine wpAny_call (fn_core (R := fun r s' => match r with | .ok (.ret v) => Q .next s' | .ok _ => False | .error e => E e s') (s := { s with heap := h₂, toks := t₂ }) F hb G I₂.zero (hbind _ (ov :: vs) I₂.ok.k (by omega)) (by rw [e1]) (by omega) rr hrun fun v W' ρ' h' tk I' r' st => ?_)
  refine hQ .next W' ρ' h' tk (I₂.after I' st) rfl ?_
  have st' : Step own W ρ h₂ W' ρ' h' := ⟨fun b x _ h2 e => st.upd b x (by simp) h2 e, st.wsub, st.wnew, st.rex⟩
  exact (st'.kp_left k₂).kp_left k₁

/-- x = C(): a new object with one list, to be changed -/
theorem sm_thaw (k : Nat) {x y : Str} {p p2 cp pos : Pos} {fv : Value} {g : Sto → List AV → Option AV} (nm : NmOk sc vt k x) (hf : EvT C d sc vt (.Name y p2) (fun _ _ => some (.glob fv))) (hk : keepIn C.K fv = true) (fn : FnT C d fv g)
    (hs : ∀ env, Stat sc env → swapsWith (.Call (.Name y p2) [] [] cp) (some (.Name x p)) pos.line env = pure false) :
    SmT C d sc vt (.Assign [.Name x p] (.Call (.Name y p2) [] [] cp) pos) (fun fm st => (g [] []).bind fun a => match a with
      | .inst c [n] [.list []] => some (.next, fset fm k (.mut st.length), st ++ [.hdr c n []])
      | _ => none) := by
  intro A env own W ρ fm sto s fl fm' sto' Q E G S I hff hQ
  obtain ⟨a, ha, hf1⟩ := Option.bind_eq_some_iff.mp hff
  split at hf1
  case h_2 => cases hf1
  rename_i c n
  simp only [Option.some.injEq, Prod.mk.injEq] at hf1
  obtain ⟨rfl, rfl, rfl⟩ := hf1
  refine wpAny_Assign_Name (Call_ (hf G S I rfl fun v h₁ t₁ k₁ r₁ => ?_)) (hs env S)
  obtain rfl : v = fv := r₁
  have I₁ := I.keep k₁
  refine callWith_K0 I₁.ok.k hk ?_
  -- every live address is to be avoided
  have I0 : Inv0 C ((allObjs h₁).map (·.1)) [] [] h₁ := ⟨⟨I₁.base.1, I₁.base.2.1, by simp⟩, fun i m e => by simp at e, by simp, fun a q => by
    obtain ⟨⟨b, o⟩, h2, h3⟩ := List.mem_map.mp q
    exact ⟨o, by rw [← h3]; exact mem_allObjs.mp h2⟩, by simp, rfl⟩
  refine fn (s := { s with heap := h₁, toks := t₁ }) G I0 ha rfl fun v h₂ t₂ k₂ r₂ => ?_
  obtain ⟨ix, dx, vs, rfl, hx, hd, ii, rv⟩ := r₂
  obtain ⟨v1, r1, e1, r3, e2⟩ := rv
  subst e1
  obtain rfl : r1 = [] := e2
  obtain ⟨lx, ws, rfl, hl, pl, rw'⟩ := r3
  have fr : ∀ a, a ∉ (allObjs h₁).map (·.1) → h₁.get? a = none := fun a q => by
    cases e : h₁.get? a with
    | none => rfl
    | some o => exact absurd (List.mem_map.mpr ⟨(a, o), mem_allObjs.mpr e, rfl⟩) q
  have asf : ∀ a ∈ [ix, dx, lx], h₁.get? a = none := fun a q => by
    simp at q
    rcases q with q | q | q <;> subst q
    · exact fr _ hx
    · exact fr _ hd
    · exact fr _ hl
  obtain ⟨i1, es, nn, i2, i3⟩ := ii
  obtain ⟨pn, pl'⟩ := pl
  have nd : [ix, dx, lx].Nodup := by
    simp only [List.nodup_cons, List.mem_cons, List.not_mem_nil, or_false, not_or, not_false_eq_true, List.nodup_nil, and_true]
    refine ⟨⟨fun q => ?_, fun q => ?_⟩, fun q => ?_⟩
    · rw [q, i2] at i1; cases i1
    · rw [q, pl'] at i1; cases i1
    · rw [q, pl'] at i2; injection i2 with i2; have := congrArg Obj.data i2; cases this
  have kk := k₁.trans k₂
  have hm : MoRep C h₂ ([ix, dx, lx] ++ W) (ρ ++ [[ix, dx, lx]]) (.hdr c n []) [ix, dx, lx] := ⟨ix, dx, lx, ws, rfl, ⟨i1, es, nn, i2, i3⟩, ⟨pn, pl'⟩, rw'⟩
  have asf0 : ∀ a ∈ [ix, dx, lx], s.heap.get? a = none := fun a q => none_of_kp k₁ (asf a q)
  have I₂ := I.more kk asf0 nd (fun a q => by
    simp at q
    rcases q with q | q | q <;> subst q
    · exact ⟨_, i1⟩
    · exact ⟨_, i2⟩
    · exact ⟨_, pl'⟩) hm
  have rv : Rep C h₂ ([ix, dx, lx] ++ W) (ρ ++ [[ix, dx, lx]]) (.mut sto.length) (.ref ix) := ⟨ix, [dx, lx], rfl, by rw [List.getElem?_append_right (by rw [I.rlen]; omega), I.rlen]; simp⟩
  refine store_sound (s := { s with heap := h₂, toks := t₂ }) nm S I₂ rv fun h₃ t₃ I₃ k₃ => ?_
  exact hQ _ _ _ h₃ t₃ I₃ rfl ((Step.more kk asf0).tr (Step.own_upd k₃) I I₂)
end
section
variable {C : Cx} {d : Nat} {sc : List (Str × NameKind)} {vt : VT}
theorem ev_nothing {e : Expr} : EvT C d sc vt e (fun _ _ => none) := by intro A env own W ρ fm sto s av Q E G S I hf; cases hf
theorem sm_nothing {e : Stmt} : SmT C d sc vt e (fun _ _ => none) := by intro A env own W ρ fm sto s fl fm' sto' Q E G S I hf; cases hf
theorem ex_nothing {e : List Stmt} : ExT C d sc vt e (fun _ _ => none) := by intro A env own W ρ fm sto s fl fm' sto' Q E G S I hf; cases hf

noncomputable def lenAV (sto : Sto) : List AV → Option AV
  | [.str s] => if s.length ≤ 100000 then some (.int s.length) else none
  | [.tuple l] => if l.length ≤ 100000 then some (.int l.length) else none
  | [a] => (listOf? sto a).bind fun l => if l.length ≤ 100000 then some (.int l.length) else none
  | _ => none
theorem fn_len : FnT C d (.builtin "len") lenAV := by
  intro A W ρ sto s vs avs r Q E G I hf rr hQ
  unfold lenAV at hf
  split at hf
  · split at hf
    case isFalse => cases hf
    rename_i y hl
    obtain ⟨v, r', rfl, r1, r2⟩ := rr
    obtain rfl : r' = [] := r2
    obtain ⟨t, rfl⟩ := r1
    simp only [Option.some.injEq] at hf; subst hf
    refine len_str (by show ¬ ((y.length : Int) ≥ _); omega) ?_
    exact hQ _ s.heap _ (Kp.refl _) ⟨_, rfl⟩
  · split at hf
    case isFalse => cases hf
    rename_i l hl
    obtain ⟨v, r', rfl, r1, r2⟩ := rr
    obtain rfl : r' = [] := r2
    obtain ⟨ad, ws, rfl, _, ⟨n, ht⟩, rs⟩ := r1
    simp only [Option.some.injEq] at hf; subst hf
    have e := rs.length
    refine PySem.P.len_tuple ht (by rw [List.size_toArray]; omega) ?_
    rw [List.size_toArray, e]
    exact hQ _ s.heap _ (Kp.refl _) ⟨_, rfl⟩
  · obtain ⟨l, hl, hf1⟩ := Option.bind_eq_some_iff.mp hf
    split at hf1
    case isFalse => cases hf1
    rename_i hle
    simp only [Option.some.injEq] at hf1; subst hf1
    obtain ⟨v, r', rfl, r1, r2⟩ := rr
    obtain rfl : r' = [] := r2
    obtain ⟨ad, ws, rfl, pl, rs⟩ := listOf_sound hl r1 I.st
    have e := rs.length
    refine call_len_list (Heap.PlainList.isList pl) (by rw [List.size_toArray]; omega) ?_
    rw [List.size_toArray, e]
    exact hQ _ s.heap _ (Kp.refl _) ⟨_, rfl⟩
  · cases hf

noncomputable def maxAV (sto : Sto) : List AV → Option AV
  | [.int a, .int b] => some (.int (if b > a then b else a))
  | _ => none
theorem fn_max2 : FnT C d (.builtin "max") maxAV := by
  intro A W ρ sto s vs avs r Q E G I hf rr hQ
  unfold maxAV at hf
  split at hf
  case h_2 => cases hf
  simp only [Option.some.injEq] at hf; subst hf
  obtain ⟨v, r', rfl, ⟨t, rfl⟩, u, r'', rfl, ⟨t', rfl⟩, r2⟩ := rr
  obtain rfl : r'' = [] := r2
  refine max_two_ints G.h fun h' tk k => hQ _ h' tk k ?_
  split
  · exact ⟨_, rfl⟩
  · exact ⟨_, rfl⟩

noncomputable def absAV (sto : Sto) : List AV → Option AV
  | [.int a] => some (.int (if a < 0 then -a else a))
  | _ => none
theorem fn_abs : FnT C d (.builtin "abs") absAV := by
  intro A W ρ sto s vs avs r Q E G I hf rr hQ
  unfold absAV at hf
  split at hf
  case h_2 => cases hf
  simp only [Option.some.injEq] at hf; subst hf
  obtain ⟨v, r', rfl, ⟨t, rfl⟩, r2⟩ := rr
  obtain rfl : r' = [] := r2
  exact PyProof.Rows.call_abs_int fun u tk => hQ _ s.heap tk (Kp.refl _) ⟨_, rfl⟩
noncomputable def intAV (sto : Sto) : List AV → Option AV
  | [.int a] => some (.int a)
  | _ => none
theorem fn_int : FnT C d (.type "int") intAV := by
  intro A W ρ sto s vs avs r Q E G I hf rr hQ
  unfold intAV at hf
  split at hf
  case h_2 => cases hf
  simp only [Option.some.injEq] at hf; subst hf
  obtain ⟨v, r', rfl, ⟨t, rfl⟩, r2⟩ := rr
  obtain rfl : r' = [] := r2
  exact call_int_int (hQ _ s.heap s.toks (Kp.refl _) ⟨_, rfl⟩)
noncomputable def divmodAV (sto : Sto) : List AV → Option AV
  | [.int a, .int b] => if small b && b != 0 then some (.tuple [.int (a.fdiv b), .int (a.fmod b)]) else none
  | _ => none
theorem fn_divmod : FnT C d (.builtin "divmod") divmodAV := by
  intro A W ρ sto s vs avs r Q E G I hf rr hQ
  unfold divmodAV at hf
  split at hf
  case h_2 => cases hf
  split at hf
  case isFalse => cases hf
  rename_i q
  simp only [Bool.and_eq_true, bne_iff_ne, ne_eq] at q
  have q1 := small_iff q.1
  simp only [Option.some.injEq] at hf; subst hf
  obtain ⟨v, r', rfl, ⟨t, rfl⟩, u, r'', rfl, ⟨t', rfl⟩, r2⟩ := rr
  obtain rfl : r'' = [] := r2
  refine PyProof.Rows.divmod_int q.2 ?_ (hp := Or.inl (PyProof.noPylong_small (by omega)))
  exact hQ _ _ _ (Kp.push _ _) ⟨_, _, rfl, (fun z => by obtain ⟨o, e⟩ := I.live _ z; exact absurd (Heap.lt_size e) (Nat.lt_irrefl _)), ⟨_, Heap.get?_push_size _ rfl⟩, Reps.cons ⟨_, rfl⟩ (Reps.cons ⟨_, rfl⟩ Reps.nil)⟩
noncomputable def tupleAV (sto : Sto) : List AV → Option AV
  | [a] => (listOf? sto a).bind fun l => if l.length ≤ 4096 then some (.tuple l) else none
  | _ => none
theorem fn_tuple : FnT C d (.type "tuple") tupleAV := by
  intro A W ρ sto s vs avs r Q E G I hf rr hQ
  unfold tupleAV at hf
  split at hf
  case h_2 => cases hf
  obtain ⟨l, hl, hf1⟩ := Option.bind_eq_some_iff.mp hf
  split at hf1
  case isFalse => cases hf1
  rename_i hle
  simp only [Option.some.injEq] at hf1; subst hf1
  obtain ⟨v, r', rfl, r1, r2⟩ := rr
  obtain rfl : r' = [] := r2
  obtain ⟨ad, ws, rfl, pl, rs⟩ := listOf_sound hl r1 I.st
  have e := rs.length
  refine call_tuple_list (Heap.PlainList.isList pl) (fun h' k => ?_) (by rw [List.size_toArray, sizeLine_eq]; omega)
  have kk : Kp s.heap h' := k
  have hs := Heap.get?_size h'
  refine hQ _ _ _ (kk.trans (Kp.push _ _)) ⟨_, ws, rfl, (fun z => by obtain ⟨o, e⟩ := I.live _ z; have := kk _ _ e; rw [hs] at this; cases this), ⟨_, Heap.get?_push_size _ rfl⟩, rs.keep (kk.trans (Kp.push _ _))⟩
noncomputable def typeAV (sto : Sto) : List AV → Option AV
  | [.str _] => some (.glob (.type "str"))
  | [a] => (listOf? sto a).map fun _ => .glob (.type "list")
  | _ => none
theorem fn_type : FnT C d (.type "type") typeAV := by
  intro A W ρ sto s vs avs r Q E G I hf rr hQ
  unfold typeAV at hf
  split at hf
  · simp only [Option.some.injEq] at hf; subst hf
    obtain ⟨v, r', rfl, ⟨t, rfl⟩, r2⟩ := rr
    obtain rfl : r' = [] := r2
    exact call_type_of (typeIs_str _ _ _) (by decide) (hQ _ s.heap s.toks (Kp.refl _) rfl)
  · obtain ⟨l, hl, rfl⟩ := Option.map_eq_some_iff.mp hf
    obtain ⟨v, r', rfl, r1, r2⟩ := rr
    obtain rfl : r' = [] := r2
    obtain ⟨ad, ws, rfl, pl, rs⟩ := listOf_sound hl r1 I.st
    exact call_type_of (Heap.PlainList.isList pl).typeIs (by decide) (hQ _ s.heap s.toks (Kp.refl _) rfl)
  · cases hf

/-- methods of str -/
noncomputable def strsOf : List AV → Option (List (List Nat))
  | [] => some []
  | .str s :: l => (strsOf l).map (s :: ·)
  | _ => none
theorem strsOf_sound {h : Heap} {W : List Addr} {ρ : List (List Addr)} : ∀ {l : List AV} {vs : List Value} {ys : List (List Nat)}, strsOf l = some ys → Reps C h W ρ l vs → StrsAre vs (ys.map fun y => (⟨y.toArray⟩ : Str))
  | [], _, _, e, r => by cases e; rw [show _ = [] from r]; exact .nil
  | .str y :: l, _, _, e, ⟨v, r, e1, ⟨t, e2⟩, e3⟩ => by
    unfold strsOf at e
    obtain ⟨ys, h1, rfl⟩ := Option.map_eq_some_iff.mp e
    subst e1 e2
    exact .cons _ _ (strsOf_sound h1 e3)
theorem strRep {h : Heap} {W : List Addr} {ρ : List (List Addr)} (x : Str) (t : Tok) : Rep C h W ρ (.str x.cps.toList) (.str x t) := ⟨t, by rw [Array.toArray_toList]⟩
/-- methods without arguments -/
theorem ev_lower {o : Expr} {apos pos : Pos} {fo : SE} (ho : EvT C d sc vt o fo) (hbase : ∀ env, attributeBase o "lower" env (eval o env) = eval o env) (hline : (apos.endLine == pos.line) = true) :
    EvT C d sc vt (.Call (.Attribute o "lower" apos) [] [] pos) (fun fm st => (fo fm st).bind fun a => match a with
      | .str x => if Builtin.Str.tooLong (Txt.lower ⟨x.toArray⟩).length then none else some (.str (Txt.lower ⟨x.toArray⟩).cps.toList)
      | _ => none) := by
  intro A env own W ρ fm sto s av Q E G S I hf hQ
  obtain ⟨a, ha, hf1⟩ := Option.bind_eq_some_iff.mp hf
  split at hf1
  case h_2 => cases hf1
  rename_i x
  split at hf1
  case isTrue => cases hf1
  rename_i hl
  simp only [Option.some.injEq] at hf1; subst hf1
  refine Call_method0 (hbase env) hline (ho G S I ha fun v h₁ t₁ k₁ r₁ => ?_)
  obtain ⟨t, rfl⟩ := r₁
  exact SB.lower (by simpa using hl) (hQ _ h₁ _ k₁ (strRep _ _))
theorem ev_find {o e : Expr} {apos pos : Pos} {fo fe : SE} (ho : EvT C d sc vt o fo) (he : EvT C d sc vt e fe) (hbase : ∀ env, attributeBase o "find" env (eval o env) = eval o env) (hs : ∀ env, starEach [e] env = [(false, eval e env)]) (hline : (apos.endLine == pos.line) = true) :
    EvT C d sc vt (.Call (.Attribute o "find" apos) [e] [] pos) (fun fm st => (fo fm st).bind fun a => (fe fm st).bind fun b => match a, b with
      | .str x, .str y => some (.int (Txt.find ⟨x.toArray⟩ ⟨y.toArray⟩))
      | _, _ => none) := by
  intro A env own W ρ fm sto s av Q E G S I hf hQ
  obtain ⟨a, ha, hf1⟩ := Option.bind_eq_some_iff.mp hf
  obtain ⟨b, hb, hf2⟩ := Option.bind_eq_some_iff.mp hf1
  split at hf2
  case h_2 => cases hf2
  rename_i x y
  simp only [Option.some.injEq] at hf2; subst hf2
  refine Call_method1 (hbase env) (hs env) hline (ho G S I ha fun v h₁ t₁ k₁ r₁ => ?_)
  obtain ⟨t, rfl⟩ := r₁
  refine SB.find (he (s := { s with heap := h₁, toks := t₁ }) G S (I.keep k₁) hb fun v h₂ t₂ k₂ r₂ => ?_)
  obtain ⟨u, rfl⟩ := r₂
  exact ⟨_, u, rfl, hQ _ h₂ _ (k₁.trans k₂) ⟨_, rfl⟩⟩
theorem ev_lstrip {o e : Expr} {apos pos : Pos} {fo fe : SE} (ho : EvT C d sc vt o fo) (he : EvT C d sc vt e fe) (hbase : ∀ env, attributeBase o "lstrip" env (eval o env) = eval o env) (hs : ∀ env, starEach [e] env = [(false, eval e env)]) (hline : (apos.endLine == pos.line) = true) :
    EvT C d sc vt (.Call (.Attribute o "lstrip" apos) [e] [] pos) (fun fm st => (fo fm st).bind fun a => (fe fm st).bind fun b => match a, b with
      | .str x, .str y => if x.length ≤ 4096 then some (.str (Txt.lstripChars ⟨x.toArray⟩ ⟨y.toArray⟩).cps.toList) else none
      | _, _ => none) := by
  intro A env own W ρ fm sto s av Q E G S I hf hQ
  obtain ⟨a, ha, hf1⟩ := Option.bind_eq_some_iff.mp hf
  obtain ⟨b, hb, hf2⟩ := Option.bind_eq_some_iff.mp hf1
  split at hf2
  case h_2 => cases hf2
  rename_i x y
  split at hf2
  case isFalse => cases hf2
  rename_i hle
  simp only [Option.some.injEq] at hf2; subst hf2
  refine Call_method1 (hbase env) (hs env) hline (ho G S I ha fun v h₁ t₁ k₁ r₁ => ?_)
  obtain ⟨t, rfl⟩ := r₁
  refine SB.lstripChars (he (s := { s with heap := h₁, toks := t₁ }) G S (I.keep k₁) hb fun v h₂ t₂ k₂ r₂ => ?_) (by rw [sizeLine_eq]; show x.length ≤ _; omega)
  obtain ⟨u, rfl⟩ := r₂
  exact ⟨_, u, rfl, fun t' k => hQ _ h₂ _ (k₁.trans k₂) (strRep _ _)⟩
theorem ev_join {o e : Expr} {apos pos : Pos} {fo fe : SE} (ho : EvT C d sc vt o fo) (he : EvT C d sc vt e fe) (hbase : ∀ env, attributeBase o "join" env (eval o env) = eval o env) (hs : ∀ env, starEach [e] env = [(false, eval e env)]) (hline : (apos.endLine == pos.line) = true) :
    EvT C d sc vt (.Call (.Attribute o "join" apos) [e] [] pos) (fun fm st => (fo fm st).bind fun a => (fe fm st).bind fun b => match a with
      | .str x => (listOf? st b).bind fun l => (strsOf l).bind fun ys => if x.length ≤ 16 && decide (((ys.map fun y => (⟨y.toArray⟩ : Str)).map (·.length)).sum + (ys.map fun y => (⟨y.toArray⟩ : Str)).length ≤ 4096) then some (.str (Txt.join ⟨x.toArray⟩ (ys.map fun y => (⟨y.toArray⟩ : Str))).cps.toList) else none
      | _ => none) := by
  intro A env own W ρ fm sto s av Q E G S I hf hQ
  obtain ⟨a, ha, hf1⟩ := Option.bind_eq_some_iff.mp hf
  obtain ⟨b, hb, hf2⟩ := Option.bind_eq_some_iff.mp hf1
  split at hf2
  case h_2 => cases hf2
  rename_i x
  obtain ⟨l, hl, hf3⟩ := Option.bind_eq_some_iff.mp hf2
  obtain ⟨ys, hys, hf4⟩ := Option.bind_eq_some_iff.mp hf3
  split at hf4
  case isFalse => cases hf4
  rename_i hle
  simp only [Bool.and_eq_true, decide_eq_true_eq] at hle
  simp only [Option.some.injEq] at hf4; subst hf4
  refine Call_method1 (hbase env) (hs env) hline (ho G S I ha fun v h₁ t₁ k₁ r₁ => ?_)
  obtain ⟨t, rfl⟩ := r₁
  refine ⟨"str", "str.join", F.plainAttrs_str, F.slot_str_join, F.type_str_join, typeIs_str _ _ _, fun _ e => (by cases e), ?_⟩
  refine Calls.callWith_builtin rfl (Calls.evalArgs_plain (Calls.spliced_cons (he (s := { s with heap := h₁, toks := t₁ }) G S (I.keep k₁) hb fun v h₂ t₂ k₂ r₂ => Calls.spliced_nil ?_)))
  obtain ⟨ad, ws, rfl, pl, rs⟩ := listOf_sound hl r₂ ((I.keep k₁).keep k₂).st
  refine join_listW (s := { s with heap := h₂, toks := t₂ }) (Heap.PlainList.isList pl) (by simpa using strsOf_sound hys rs) hle.1 (Nat.le_trans hle.2 (by decide)) fun t' k => ?_
  exact hQ _ h₂ _ (k₁.trans k₂) (strRep _ _)
end
section
variable {C : Cx} {d : Nat} {sc : List (Str × NameKind)} {vt : VT}
noncomputable def intsOf : List AV → Option (List Int)
  | [] => some []
  | .int i :: l => (intsOf l).map (i :: ·)
  | _ => none
theorem intsOf_get {h : Heap} {W : List Addr} {ρ : List (List Addr)} : ∀ {l : List AV} {vs : List Value} {ys : List Int}, intsOf l = some ys → Reps C h W ρ l vs → ys.length = vs.length ∧ ∀ (i : Nat) (v : Value), vs[i]? = some v → ∃ t, v = Value.int (ys.getD i 0) t
  | [], _, _, e, r => by cases e; rw [show _ = [] from r]; exact ⟨rfl, fun i v e => by simp at e⟩
  | .int y :: l, _, _, e, ⟨v, r, e1, ⟨t, e2⟩, e3⟩ => by
    unfold intsOf at e
    obtain ⟨ys, h1, rfl⟩ := Option.map_eq_some_iff.mp e
    subst e1 e2
    obtain ⟨h2, h3⟩ := intsOf_get h1 e3
    refine ⟨by simp [h2], fun i v e => ?_⟩
    cases i with
    | zero => simp at e; exact ⟨t, e.symm⟩
    | succ i => simp at e; simpa using h3 i v e
noncomputable def inL (i : Int) : Bool := decide (-(2 ^ 63) ≤ i) && decide (i < 2 ^ 63)
theorem inL_of {i : Int} (h : inL i = true) : InLong i := by
  unfold inL at h; rw [Bool.and_eq_true, decide_eq_true_eq, decide_eq_true_eq] at h; exact h
noncomputable def sumAV (sto : Sto) : List AV → Option AV
  | [a] => (listOf? sto a).bind fun l => (intsOf l).bind fun ys => if (List.range ys.length).all fun j => inL (ys.getD j 0) && inL (preSum (fun i => ys.getD i 0) (j + 1)) then some (.int (preSum (fun i => ys.getD i 0) ys.length)) else none
  | _ => none
theorem iter_list {A : Around} {s : Shared} {ad : Addr} {vs : List Value} {Q : Value → Shared → Prop} {E : Value → Shared → Prop} (hl : s.heap.IsList ad vs.toArray) (hh : A.handled = none)
    (h : ∀ (s₂ : Shared) h₂, s₂ = { s with heap := h₂ } → Kp s.heap h₂ → (∀ A' : Around, A'.handled = none → Walks C.prog C.w A' s.heap.objs.size [s.heap.objs.size, ad] [s.heap.objs.size] vs.toArray.size (fun i v => vs.toArray[i]? = some v) (fun i h => h.IsListIter s.heap.objs.size ad i ∧ h.IsList ad vs.toArray)) →
      (h₂.IsListIter s.heap.objs.size ad 0 ∧ h₂.IsList ad vs.toArray) → (∀ b ∈ [s.heap.objs.size, ad], b < h₂.objs.size) → Q (.ref s.heap.objs.size) s₂) : wpAny (model C.prog C.w) A (pyIter (.ref ad)) Q E s := by
  have hne : ad ≠ s.heap.objs.size := by obtain ⟨o, e, _⟩ := hl; exact Nat.ne_of_lt (Heap.lt_size e)
  have hlt : ad < s.heap.objs.size := by obtain ⟨o, e, _⟩ := hl; exact Heap.lt_size e
  refine wpAny_pyIter_list hl (h _ _ rfl (Kp.push _ _) (fun A' hA => Walks.list hA _ ad hne vs.toArray) ⟨⟨_, Heap.get?_push_size _ rfl, rfl, rfl⟩, hl.push _⟩ fun b hb => ?_)
  rw [Heap.size_push]
  simp at hb
  rcases hb with hb | hb
  · rw [hb]; exact Nat.lt_succ_self _
  · rw [hb]; exact Nat.lt_succ_of_lt hlt
theorem fn_sum : FnT C d (.builtin "sum") sumAV := by
  intro A W ρ sto s vs avs r Q E G I hf rr hQ
  unfold sumAV at hf
  split at hf
  case h_2 => cases hf
  obtain ⟨l, hl, hf1⟩ := Option.bind_eq_some_iff.mp hf
  obtain ⟨ys, hy, hf2⟩ := Option.bind_eq_some_iff.mp hf1
  split at hf2
  case isFalse => cases hf2
  rename_i hall
  simp only [Option.some.injEq] at hf2; subst hf2
  obtain ⟨v, r', rfl, r1, r2⟩ := rr
  obtain rfl : r' = [] := r2
  obtain ⟨ad, ws, rfl, pl, rs⟩ := listOf_sound hl r1 I.st
  obtain ⟨hlen, hget⟩ := intsOf_get hy rs
  rw [List.all_eq_true] at hall
  refine call_sum_walk (iter_list (Heap.PlainList.isList pl) G.h fun s₂ h₂ e k₂ W st hfp => ?_)
  subst e
  refine ⟨_, _, _, _, _, _, fun i => ys.getD i 0, rfl, W _ G.h, st, hfp, fun i v hv => hget i v (by simpa using hv), fun j hj => ?_, fun h' tk t' hk => ?_⟩
  · have := hall j (List.mem_range.mpr (by rw [hlen]; simpa using hj))
    rw [Bool.and_eq_true] at this
    exact ⟨inL_of this.1, inL_of this.2⟩
  · rw [List.size_toArray, ← hlen]
    refine hQ _ h' tk (fun b o e => hk b o (fun q => ?_) (k₂ b o e)) ⟨_, rfl⟩
    rw [List.mem_singleton.mp q] at e
    exact absurd (Heap.lt_size e) (Nat.lt_irrefl _)

noncomputable def maxsAV (sto : Sto) : List AV → Option AV
  | [a] => (listOf? sto a).bind fun l => (strsOf l).bind fun ys => if ys.length == 0 then none else (ys[argBest (fun i j => decide ((ys.getD j []) < (ys.getD i []))) (ys.length - 1)]?).map .str
  | _ => none
theorem strsOf_get {h : Heap} {W : List Addr} {ρ : List (List Addr)} : ∀ {l : List AV} {vs : List Value} {ys : List (List Nat)}, strsOf l = some ys → Reps C h W ρ l vs → ys.length = vs.length ∧ ∀ (i : Nat) (v : Value), vs[i]? = some v → ∃ t, v = Value.str ⟨(ys.getD i []).toArray⟩ t
  | [], _, _, e, r => by cases e; rw [show _ = [] from r]; exact ⟨rfl, fun i v e => by simp at e⟩
  | .str y :: l, _, _, e, ⟨v, r, e1, ⟨t, e2⟩, e3⟩ => by
    unfold strsOf at e
    obtain ⟨ys, h1, rfl⟩ := Option.map_eq_some_iff.mp e
    subst e1 e2
    obtain ⟨h2, h3⟩ := strsOf_get h1 e3
    refine ⟨by simp [h2], fun i v e => ?_⟩
    cases i with
    | zero => simp at e; exact ⟨t, e.symm⟩
    | succ i => simp at e; simpa using h3 i v e
theorem fn_maxs : FnT C d (.builtin "max") maxsAV := by
  intro A W ρ sto s vs avs r Q E G I hf rr hQ
  unfold maxsAV at hf
  split at hf
  case h_2 => cases hf
  obtain ⟨l, hl, hf1⟩ := Option.bind_eq_some_iff.mp hf
  obtain ⟨ys, hy, hf2⟩ := Option.bind_eq_some_iff.mp hf1
  split at hf2
  case isTrue => cases hf2
  rename_i hne
  obtain ⟨m, hm, rfl⟩ := Option.map_eq_some_iff.mp hf2
  obtain ⟨v, r', rfl, r1, r2⟩ := rr
  obtain rfl : r' = [] := r2
  obtain ⟨ad, ws, rfl, pl, rs⟩ := listOf_sound hl r1 I.st
  obtain ⟨hlen, hget⟩ := strsOf_get hy rs
  have hn0 : ys.length ≠ 0 := by simpa using hne
  refine call_max_walk (iter_list (Heap.PlainList.isList pl) G.h fun s₂ h₂ e k₂ W st hfp => ?_)
  subst e
  refine ⟨_, _, _, _, _, _, fun i j => decide ((ys.getD j []) < (ys.getD i [])), rfl, W _ G.h, st, hfp, by rw [List.size_toArray]; omega, ?_, fun v h' tk hP hk => ?_⟩
  · intro i j vi vj s Q E hi hj h
    obtain ⟨t, rfl⟩ := hget i vi (by simpa using hi)
    obtain ⟨u, rfl⟩ := hget j vj (by simpa using hj)
    exact richCompare_gives (op := .Gt) (typeIs_str s _ t) (typeIs_str s _ u) F.slot_str_gt F.entry_str_gt (F.args_str_gt_2 _ _) (gives_str_gt _ _ t u) (fun x => nomatch x) h
  · have e1 : ws.toArray.size = ys.length := by rw [List.size_toArray, hlen]
    rw [e1] at hP
    generalize argBest (fun i j => decide ((ys.getD j []) < (ys.getD i []))) (ys.length - 1) = k at hP hm
    obtain ⟨t, rfl⟩ := hget _ v (by simpa using hP)
    refine hQ _ h' tk (fun b o e => hk b o (fun q => ?_) (k₂ b o e)) ⟨t, ?_⟩
    · rw [List.mem_singleton.mp q] at e
      exact absurd (Heap.lt_size e) (Nat.lt_irrefl _)
    · rw [List.getD_eq_getElem?_getD, hm]; rfl
end
end Mine
open PySem PySem.W PyProof.Rows PySem.Calls PySem.Builtin
namespace Mine
theorem dec_entry (c : UInt8) (cs : List UInt8) (t u : Tok) : «bytes.decode» ⟨[.bytes (c :: cs).toArray t, .str (Str.ofString "ascii") u], []⟩ = (mkStr (Str.ofString "utf-8") >>= fun _ => mkStr (Str.ofString "ascii") >>= fun e => mkStr (Str.ofString "bytes.decode") >>= fun d =>
    call (.builtin "_codecs.decode.text") [.bytes (c :: cs).toArray t, e, .none, d] >>= fun v => ret v) := by kernel_rfl
theorem dec_args (a b : Value) : argsOk "bytes.decode" ⟨[a, b], []⟩ := by
  unfold argsOk; rw [signature?_of (id := "bytes.decode") (n := ['e', 'd', 'o', 'c', 'e', 'd']) (o := ['s', 'e', 't', 'y', 'b']) (by kernel_rfl) FB.owner_bytes]; kernel_rfl
theorem dec_road {id : String} {b : Array UInt8} : _codecs.decodeRoad id b (Str.ofString "ascii") none [] = (_codecs.runDecoder id _codecs.asciiDecoder none true b 0 [] >>= fun r => mkStr ⟨r.1⟩) := by kernel_rfl
theorem run1 (id : String) (c0 : UInt8) (h0 : c0.toNat < 128) : _codecs.runDecoder id _codecs.asciiDecoder none true [c0].toArray 0 [] = pure (([c0].map UInt8.toNat).toArray, 1) := by
  unfold _codecs.runDecoder
  simp [_codecs.asciiDecoder, _codecs.Found.char, Std.Legacy.Range.forIn_eq_forIn_range', Std.Legacy.Range.size, List.range', h0, sizeLine]
theorem run2 (id : String) (c0 c1 : UInt8) (h0 : c0.toNat < 128) (h1 : c1.toNat < 128) : _codecs.runDecoder id _codecs.asciiDecoder none true [c0, c1].toArray 0 [] = pure (([c0, c1].map UInt8.toNat).toArray, 2) := by
  unfold _codecs.runDecoder
  simp [_codecs.asciiDecoder, _codecs.Found.char, Std.Legacy.Range.forIn_eq_forIn_range', Std.Legacy.Range.size, List.range', h0, h1, sizeLine]
theorem run3 (id : String) (c0 c1 c2 : UInt8) (h0 : c0.toNat < 128) (h1 : c1.toNat < 128) (h2 : c2.toNat < 128) : _codecs.runDecoder id _codecs.asciiDecoder none true [c0, c1, c2].toArray 0 [] = pure (([c0, c1, c2].map UInt8.toNat).toArray, 3) := by
  unfold _codecs.runDecoder
  simp [_codecs.asciiDecoder, _codecs.Found.char, Std.Legacy.Range.forIn_eq_forIn_range', Std.Legacy.Range.size, List.range', h0, h1, h2, sizeLine]
theorem run4 (id : String) (c0 c1 c2 c3 : UInt8) (h0 : c0.toNat < 128) (h1 : c1.toNat < 128) (h2 : c2.toNat < 128) (h3 : c3.toNat < 128) : _codecs.runDecoder id _codecs.asciiDecoder none true [c0, c1, c2, c3].toArray 0 [] = pure (([c0, c1, c2, c3].map UInt8.toNat).toArray, 4) := by
  unfold _codecs.runDecoder
  simp [_codecs.asciiDecoder, _codecs.Found.char, Std.Legacy.Range.forIn_eq_forIn_range', Std.Legacy.Range.size, List.range', h0, h1, h2, h3, sizeLine]
theorem run5 (id : String) (c0 c1 c2 c3 c4 : UInt8) (h0 : c0.toNat < 128) (h1 : c1.toNat < 128) (h2 : c2.toNat < 128) (h3 : c3.toNat < 128) (h4 : c4.toNat < 128) : _codecs.runDecoder id _codecs.asciiDecoder none true [c0, c1, c2, c3, c4].toArray 0 [] = pure (([c0, c1, c2, c3, c4].map UInt8.toNat).toArray, 5) := by
  unfold _codecs.runDecoder
  simp [_codecs.asciiDecoder, _codecs.Found.char, Std.Legacy.Range.forIn_eq_forIn_range', Std.Legacy.Range.size, List.range', h0, h1, h2, h3, h4, sizeLine]
theorem run_ascii (id : String) (b : List UInt8) (h0 : b ≠ []) (h5 : b.length ≤ 5) (ha : b.all (fun c => decide (c.toNat < 128)) = true) : ∃ n, _codecs.runDecoder id _codecs.asciiDecoder none true b.toArray 0 [] = pure ((b.map UInt8.toNat).toArray, n) := by
  rw [List.all_eq_true] at ha
  simp only [decide_eq_true_eq] at ha
  match b, h0, h5, ha with
  | [a], _, _, ha => exact ⟨_, run1 id a (ha a (by simp))⟩
  | [a, b], _, _, ha => exact ⟨_, run2 id a b (ha a (by simp)) (ha b (by simp))⟩
  | [a, b, c], _, _, ha => exact ⟨_, run3 id a b c (ha a (by simp)) (ha b (by simp)) (ha c (by simp))⟩
  | [a, b, c, d], _, _, ha => exact ⟨_, run4 id a b c d (ha a (by simp)) (ha b (by simp)) (ha c (by simp)) (ha d (by simp))⟩
  | [a, b, c, d, e], _, _, ha => exact ⟨_, run5 id a b c d e (ha a (by simp)) (ha b (by simp)) (ha c (by simp)) (ha d (by simp)) (ha e (by simp))⟩
  | _ :: _ :: _ :: _ :: _ :: _ :: _, _, h5, _ => simp at h5
section
variable {prog : Program} {w : World} {A : Around} {E : Value → Shared → Prop} {s : Shared}
theorem dec_text {b : Array UInt8} {t t1 t2 : Tok} {dd : Str} {x : Str} {n : Nat} (hd : ∀ id, ∃ n, _codecs.runDecoder id _codecs.asciiDecoder none true b 0 [] = pure (x.cps, n)) :
    Meets («_codecs.decode.text» ⟨[.bytes b t, .str (Str.ofString "ascii") t1, .none, .str dd t2], []⟩) (fun _ R s => x.length ≤ sizeLine ∧ R (.ok (.ret (.str x s.toks))) { s with toks := s.toks + 1 }) := by
  refine .of_wp fun prog w A R s hS => ?_
  obtain ⟨hsz, h⟩ := hS
  show wpAny _ _ (Bytes.bytesLike _ (.bytes b t) >>= fun r => _) _ _ s
  refine wpAny_bind (wpAny_of_eq KBd.like_eq ?_)
  refine wpAny_bind (wpAny_of_eq KBd.held_eq ?_)
  show wpAny _ _ (_codecs.decodeRoad _ b (Str.ofString "ascii") none [] >>= fun v => _) _ _ s
  obtain ⟨n, hn⟩ := hd dd.toString
  rw [dec_road, hn]
  refine wpAny_bind (wpAny_bind (wpAny_pure ?_))
  exact wpAny_mkStr (wpAny_pure ⟨_, rfl, h⟩) hsz
theorem dec_call {c : UInt8} {cs : List UInt8} {t u : Tok} {x : Str} {Q : Value → Shared → Prop} (hd : ∀ id, ∃ n, _codecs.runDecoder id _codecs.asciiDecoder none true (c :: cs).toArray 0 [] = pure (x.cps, n)) (hsz : x.length ≤ sizeLine)
    (h : ∀ t' k, Q (.str x t') { s with toks := k }) : wpAny (model prog w) A (call (.builtin "bytes.decode") [.bytes (c :: cs).toArray t, .str (Str.ofString "ascii") u]) Q E s := by
  refine wpAny_call_entry FB.slot_bytes_decode (typeIs_bytes _ _ _) FB.entry_bytes_decode ?_ (dec_args _ _)
  rw [dec_entry]
  refine wpAny_bind (wpAny_mkStr ?_ (by decide))
  refine wpAny_bind (wpAny_mkStr ?_ (by decide))
  refine wpAny_bind (wpAny_mkStr ?_ (by decide))
  exact wpAny_bind (call_function_meets KBd.kind_text KBd.plain_text KBd.entry_text (KBd.args_text _ _ _ _) (dec_text (n := 0) hd) ⟨hsz, wpAny_pure ⟨_, rfl, h _ _⟩⟩)
end
section
variable {C : Cx} {d : Nat} {sc : List (Str × NameKind)} {vt : VT}
noncomputable def decAV (b : List UInt8) (y : List Nat) : Option AV :=
  if !b.isEmpty && decide (b.length ≤ 5) && b.all (fun c => decide (c.toNat < 128)) && y == (Str.ofString "ascii").cps.toList then some (.str (b.map UInt8.toNat)) else none
theorem ev_decode {o e : Expr} {apos pos : Pos} {fo fe : SE} (ho : EvT C d sc vt o fo) (he : EvT C d sc vt e fe) (hbase : ∀ env, attributeBase o "decode" env (eval o env) = eval o env) (hs : ∀ env, starEach [e] env = [(false, eval e env)]) (hline : (apos.endLine == pos.line) = true) :
    EvT C d sc vt (.Call (.Attribute o "decode" apos) [e] [] pos) (fun fm st => (fo fm st).bind fun a => (fe fm st).bind fun b => match a, b with
      | .bytes x, .str y => decAV x y
      | _, _ => none) := by
  intro A env own W ρ fm sto s av Q E G S I hf hQ
  obtain ⟨a, ha, hf1⟩ := Option.bind_eq_some_iff.mp hf
  obtain ⟨b, hb, hf2⟩ := Option.bind_eq_some_iff.mp hf1
  split at hf2
  case h_2 => cases hf2
  rename_i x y
  unfold decAV at hf2
  split at hf2
  case isFalse => cases hf2
  rename_i hc
  simp only [Bool.and_eq_true, Bool.not_eq_true', decide_eq_true_eq, beq_iff_eq] at hc
  obtain ⟨⟨⟨h1, h2⟩, h3⟩, h4⟩ := hc
  simp only [Option.some.injEq] at hf2; subst hf2
  refine Call_method1 (hbase env) (hs env) hline (ho G S I ha fun v h₁ t₁ k₁ r₁ => ?_)
  obtain ⟨t, rfl⟩ := r₁
  refine ⟨"bytes", "bytes.decode", FB.plainAttrs_bytes, FB.slot_bytes_decode, FB.type_bytes_decode, typeIs_bytes _ _ _, fun _ e => (by cases e), ?_⟩
  refine Calls.callWith_builtin rfl (Calls.evalArgs_plain (Calls.spliced_cons (he (s := { s with heap := h₁, toks := t₁ }) G S (I.keep k₁) hb fun v h₂ t₂ k₂ r₂ => Calls.spliced_nil ?_)))
  obtain ⟨u, rfl⟩ := r₂
  have e1 : (⟨y.toArray⟩ : Str) = Str.ofString "ascii" := by rw [h4]
  rw [e1]
  cases x with
  | nil => simp at h1
  | cons c cs =>
    refine dec_call (x := ⟨((c :: cs).map UInt8.toNat).toArray⟩) (fun id => run_ascii id (c :: cs) (by simp) h2 h3) (by rw [sizeLine_eq]; show (((c :: cs).map UInt8.toNat).toArray).size ≤ _; simp at h2 ⊢; omega) fun t' k => ?_
    exact hQ _ h₂ _ (k₁.trans k₂) ⟨_, rfl⟩

/-- a pattern that finds nothing -/
theorem plainAttrs_pat : PlainAttrs "re.Pattern" :=
  ⟨⟨"object.__getattribute__", by rw [typeLookup_type, builtinLookup_eq_fast]; kernel_rfl, by decide +kernel⟩, by rw [typeLookup_type, builtinLookup_eq_fast]; kernel_rfl⟩
theorem slot_pat : Slot "re.Pattern" "search" "re.Pattern.search" :=
  .of (owner := "re.Pattern") (n := "search") (by rw [typeLookup_type, builtinLookup_eq_fast]; kernel_rfl) (by decide +kernel) (by decide +kernel) (by decide +kernel)
    (by first | exact .inl (by decide +kernel) | exact .inr (by decide +kernel)) (by rw [isSubtype_type]; kernel_rfl)
theorem type_pat : typeOf (.builtin "re.Pattern.search") = pure (.type "method_descriptor") := by show builtinType _ = _; rw [builtinType_eq_fast]; kernel_rfl
theorem entry_pat : entryFor table "re.Pattern.search" = some Builtin.«re.Pattern.search» := entryFor_of_tree (by kernel_rfl)
theorem args_pat (a b : Value) : argsOk "re.Pattern.search" ⟨[a, b], []⟩ := by unfold argsOk; kernel_rfl
structure PatOk (C : Cx) (p : Addr) (ok : List Nat → Bool) : Prop where
  obj : ∃ o, C.K.lookup p = some o ∧ o.cls = .type "re.Pattern" ∧ o.dict = none
  miss : ∀ x t, ok x = true → peek C.K ⟨C.prog, C.w.params⟩ (Builtin.«re.Pattern.search» ⟨[.ref p, .str ⟨x.toArray⟩ t], []⟩) = some (.done (.ret .none))
theorem ts_search {o e : Expr} {apos pos : Pos} {fo fe : SE} {p q : Addr} {ok : List Nat → Bool} (hp : PatOk C p ok) (hq : PatOk C q ok) (ho : EvT C d sc vt o fo) (he : EvT C d sc vt e fe)
    (hbase : ∀ env, attributeBase o "search" env (eval o env) = eval o env) (hs : ∀ env, starEach [e] env = [(false, eval e env)]) (hline : (apos.endLine == pos.line) = true) :
    EvT C d sc vt (.Call (.Attribute o "search" apos) [e] [] pos) (fun fm st => (fo fm st).bind fun a => (fe fm st).bind fun b => match a, b with
      | .glob (.ref r), .str y => if (r == p || r == q) && ok y then some .none else none
      | _, _ => none) := by
  intro A env own W ρ fm sto s av Q E G S I hf hQ
  obtain ⟨a, ha, hf1⟩ := Option.bind_eq_some_iff.mp hf
  obtain ⟨b, hb, hf2⟩ := Option.bind_eq_some_iff.mp hf1
  split at hf2
  case h_2 => cases hf2
  rename_i r y
  split at hf2
  case isFalse => cases hf2
  rename_i hc
  simp only [Bool.and_eq_true, Bool.or_eq_true, beq_iff_eq] at hc
  simp only [Option.some.injEq] at hf2; subst hf2
  have pr : PatOk C r ok := hc.1.elim (fun z => z ▸ hp) fun z => z ▸ hq
  obtain ⟨ob, ho1, ho2, ho3⟩ := pr.obj
  refine Call_method1 (hbase env) (hs env) hline (ho G S I ha fun v h₁ t₁ k₁ r₁ => ?_)
  obtain rfl : v = .ref r := r₁
  have I₁ := I.keep k₁
  refine ⟨"re.Pattern", "re.Pattern.search", plainAttrs_pat, slot_pat, type_pat, ⟨ob, I₁.ok.k _ _ ho1, ho2⟩, fun _ e => (by cases e; exact ⟨ob, I₁.ok.k _ _ ho1, ho3⟩), ?_⟩
  refine Calls.callWith_builtin rfl (Calls.evalArgs_plain (Calls.spliced_cons (he (s := { s with heap := h₁, toks := t₁ }) G S I₁ hb fun v h₂ t₂ k₂ r₂ => Calls.spliced_nil ?_)))
  obtain ⟨u, rfl⟩ := r₂
  have I₂ := I₁.keep k₂
  refine wpAny_call_entry slot_pat ⟨ob, I₂.ok.k _ _ ho1, ho2⟩ entry_pat ?_ (args_pat _ _)
  exact (Looks.of_peek (M := model C.prog C.w) I₂.ok.k (pr.miss y u hc.2)).here ⟨_, rfl, hQ _ h₂ _ (k₁.trans k₂) rfl⟩
end
section
variable {C : Cx} {d : Nat} {sc : List (Str × NameKind)} {vt : VT}
noncomputable def rangeLs (a b : Int) : List (List AV) := (List.range (b - a).toNat).map fun (i : Nat) => [AV.int (a + (i : Int))]
theorem range_core {A : Around} {s s₀ : Shared} {W : List Addr} {ρ : List (List Addr)} {r : Addr} {a b : Int} {t u v : Tok} {x : Str} {p : Pos} {Q : Value → Shared → Prop} {E : Value → Shared → Prop} (hr : IsRange s.heap r a b 1 t u v) (ha : small a = true) (hb : small b = true)
    (k : Kp s₀.heap s.heap) (hW : s.heap.objs.size ∉ W) (he : s = { s₀ with heap := s.heap, toks := s.toks })
    (hQ : ∀ I fp wr P St h' tk, (∀ A' : Around, A'.handled = none → WX C.prog C.w A' (.Name x p) I fp wr (rangeLs a b).length P St) → St 0 h' → Kp s₀.heap h' → (∀ b ∈ wr, s₀.heap.get? b = none) → (∀ b ∈ fp, b ∉ W) →
      (∀ i vs as, P i vs → (rangeLs a b)[i]? = some as → Reps C h' (wr ++ W) ρ as vs) → Q (.ref I) { s₀ with heap := h', toks := tk }) : wpAny (model C.prog C.w) A (pyIter (.ref r)) Q E s := by
  have a1 := small_iff ha
  have b1 := small_iff hb
  have hn : ((b - a).toNat : Int) = Builtin.Range.rangeSize a b 1 := by rw [rangeSize_one]; split <;> omega
  refine wpAny_pyIter_range hr (small_one (by omega) (by omega) (by omega) (by omega)) ?_
  have hs := Heap.get?_size s.heap
  have e0 : ({ s with heap := s.heap.push { cls := .type "range_iterator", data := .fields #[rawInt a, rawInt (Builtin.Range.rangeSize a b 1), rawInt 1] } } : Shared) = { s₀ with heap := s.heap.push { cls := .type "range_iterator", data := .fields #[rawInt a, rawInt (Builtin.Range.rangeSize a b 1), rawInt 1] }, toks := s.toks } := by rw [he]
  rw [e0]
  refine hQ s.heap.objs.size [s.heap.objs.size] [s.heap.objs.size] (fun i vs => ∃ v, vs = [v] ∧ ∃ t, v = .int (a + i * 1) t) (fun i h => IsRangeIter h s.heap.objs.size (a + (i : Nat) * 1) (((b - a).toNat : Int) - (i : Nat)) 1) _ s.toks (fun A' hA => ?_) ?_ (k.trans (Kp.push _ _))
    (fun c q => by rw [List.mem_singleton.mp q]; exact none_of_kp k hs) (fun c q => by rw [List.mem_singleton.mp q]; exact hW) fun i vs as hp hg => ?_
  · have w := Walks.wx (Walks.range (prog := C.prog) (w := C.w) hA s.heap.objs.size a 1 (b - a).toNat) x p (fun i h st c q => by rw [List.mem_singleton.mp q]; exact ⟨_, st⟩)
    have e : (rangeLs a b).length = (b - a).toNat := by simp [rangeLs]
    rw [e]; exact w
  · have := Heap.get?_push_size s.heap (o := { cls := .type "range_iterator", data := .fields #[rawInt a, rawInt (Builtin.Range.rangeSize a b 1), rawInt 1] }) rfl
    rw [← hn] at this ⊢
    show (_ : Heap).get? _ = _
    simpa using this
  · obtain ⟨v, rfl, tk, rfl⟩ := hp
    unfold rangeLs at hg
    rw [List.getElem?_map] at hg
    obtain ⟨j, hj, rfl⟩ := Option.map_eq_some_iff.mp hg
    have : j = i := by
      have h1 := (List.getElem?_eq_some_iff.mp hj)
      obtain ⟨h2, h3⟩ := h1
      simpa using h3.symm
    subst this
    exact Reps.cons ⟨tk, by rw [Int.mul_one]⟩ Reps.nil
theorem it_range1 {x y : Str} {p np pos : Pos} {e : Expr} {f : SE} (hf : EvT C d sc vt (.Name y np) (fun _ _ => some (.glob (.type "range")))) (he : EvT C d sc vt e f) (hs : ∀ env, starEach [e] env = [(false, eval e env)]) :
    ItT C d sc vt (.Name x p) (.Call (.Name y np) [e] [] pos) (fun fm st => (f fm st).bind fun a => match a with
      | .int n => if small n then some (rangeLs 0 n) else none
      | _ => none) := by
  intro A env own W ρ fm sto s ls Q E G S I hf' hQ
  obtain ⟨a, ha, hf1⟩ := Option.bind_eq_some_iff.mp hf'
  split at hf1
  case h_2 => cases hf1
  rename_i n
  split at hf1
  case isFalse => cases hf1
  rename_i hsm
  simp only [Option.some.injEq] at hf1; subst hf1
  refine Call_ (hf G S I rfl fun v h₁ t₁ k₁ r₁ => ?_)
  obtain rfl : v = .type "range" := r₁
  refine PyProof.Rows.callWith_type1 ?_ (by rw [hs]; rfl) rfl
  rw [hs]
  refine Calls.spliced_cons (he (s := { s with heap := h₁, toks := t₁ }) G S (I.keep k₁) ha fun v h₂ t₂ k₂ r₂ => Calls.spliced_nil ?_)
  obtain ⟨t, rfl⟩ := r₂
  refine call_range_1 (s := { s with heap := h₂, toks := t₂ }) ?_
  refine range_core (s₀ := s) (IsRange.new _ _ _ _ _ _ _) rfl hsm ((k₁.trans k₂).trans (Kp.push _ _)) (fun q => ?_) rfl hQ
  obtain ⟨o, g⟩ := ((I.keep k₁).keep k₂).live _ q
  have := Heap.lt_size g
  rw [Heap.size_push] at this
  exact absurd this (Nat.not_lt.mpr (Nat.le_succ _))
theorem it_range2 {x y : Str} {p np pos : Pos} {e e' : Expr} {f f' : SE} (hf : EvT C d sc vt (.Name y np) (fun _ _ => some (.glob (.type "range")))) (he : EvT C d sc vt e f) (he' : EvT C d sc vt e' f') (hs : ∀ env, starEach [e, e'] env = [(false, eval e env), (false, eval e' env)]) (hs2 : ∀ env, starEach [e'] env = [(false, eval e' env)]) :
    ItT C d sc vt (.Name x p) (.Call (.Name y np) [e, e'] [] pos) (fun fm st => (f fm st).bind fun a => (f' fm st).bind fun b => match a, b with
      | .int a, .int b => if small a && small b then some (rangeLs a b) else none
      | _, _ => none) := by
  intro A env own W ρ fm sto s ls Q E G S I hf' hQ
  obtain ⟨a, ha, hf1⟩ := Option.bind_eq_some_iff.mp hf'
  obtain ⟨b, hb, hf2⟩ := Option.bind_eq_some_iff.mp hf1
  split at hf2
  case h_2 => cases hf2
  rename_i a b
  split at hf2
  case isFalse => cases hf2
  rename_i hsm
  simp only [Bool.and_eq_true] at hsm
  simp only [Option.some.injEq] at hf2; subst hf2
  refine Call_ (hf G S I rfl fun v h₁ t₁ k₁ r₁ => ?_)
  obtain rfl : v = .type "range" := r₁
  refine PyProof.Rows.callWith_type1 ?_ (by rw [hs, hs2]) (by rw [hs2]; rfl)
  rw [hs]
  refine Calls.spliced_cons (he (s := { s with heap := h₁, toks := t₁ }) G S (I.keep k₁) ha fun v h₂ t₂ k₂ r₂ => ?_)
  refine Calls.spliced_cons (he' (s := { s with heap := h₂, toks := t₂ }) G S ((I.keep k₁).keep k₂) hb fun v' h₃ t₃ k₃ r₃ => Calls.spliced_nil ?_)
  obtain ⟨t, rfl⟩ := r₂
  obtain ⟨u, rfl⟩ := r₃
  refine call_range_2 (s := { s with heap := h₃, toks := t₃ }) ?_
  refine range_core (s₀ := s) (IsRange.new _ _ _ _ _ _ _) hsm.1 hsm.2 (((k₁.trans k₂).trans k₃).trans (Kp.push _ _)) (fun q => ?_) rfl hQ
  obtain ⟨o, g⟩ := (((I.keep k₁).keep k₂).keep k₃).live _ q
  have := Heap.lt_size g
  rw [Heap.size_push] at this
  exact absurd this (Nat.not_lt.mpr (Nat.le_succ _))

noncomputable def enumLs : Nat → List AV → List (List AV)
  | _, [] => []
  | k, a :: l => [.int k, a] :: enumLs (k + 1) l
theorem enumLs_get : ∀ (l : List AV) (k i : Nat), (enumLs k l)[i]? = (l[i]?).map fun a => [.int ((k + i : Nat) : Int), a]
  | [], _, _ => by simp [enumLs]
  | a :: l, k, 0 => by simp [enumLs]
  | a :: l, k, i + 1 => by
    simp only [enumLs, List.getElem?_cons_succ]
    rw [enumLs_get l (k + 1) i]
    congr 1
    funext a
    congr 3
    omega
theorem enumLs_len : ∀ (l : List AV) (k : Nat), (enumLs k l).length = l.length
  | [], _ => rfl
  | _ :: l, k => by simp [enumLs, enumLs_len l]
theorem it_enum {es : List Expr} {n : Nat} {p np pos : Pos} {y : Str} {e : Expr} {f : SE} (hf : EvT C d sc vt (.Name y np) (fun _ _ => some (.glob (.type "enumerate")))) (he : EvT C d sc vt e f) (hs : ∀ env, starEach [e] env = [(false, eval e env)]) :
    ItT C d sc vt (.Tuple es n p) (.Call (.Name y np) [e] [] pos) (fun fm st => (f fm st).bind fun a => match a with
      | .list l => some (enumLs 0 l)
      | _ => none) := by
  intro A env own W ρ fm sto s ls Q E G S I hf' hQ
  obtain ⟨a, ha, hf1⟩ := Option.bind_eq_some_iff.mp hf'
  split at hf1
  case h_2 => cases hf1
  rename_i l
  simp only [Option.some.injEq] at hf1; subst hf1
  refine Call_ (hf G S I rfl fun v h₁ t₁ k₁ r₁ => ?_)
  obtain rfl : v = .type "enumerate" := r₁
  refine PyProof.Rows.callWith_type1 ?_ (by rw [hs]; rfl) rfl
  rw [hs]
  refine Calls.spliced_cons (he (s := { s with heap := h₁, toks := t₁ }) G S (I.keep k₁) ha fun v h₂ t₂ k₂ r₂ => Calls.spliced_nil ?_)
  obtain ⟨ad, vs, rfl, hW, pl, rs⟩ := r₂
  have I₂ := (I.keep k₁).keep k₂
  have hlt : ad < h₂.objs.size := by obtain ⟨m, e⟩ := pl; exact Heap.lt_size e
  have hl := Heap.PlainList.isList pl
  have hn0 := Heap.get?_size h₂
  have hn1 : h₂.get? (h₂.objs.size + 1) = none := by
    cases e : h₂.get? (h₂.objs.size + 1) with
    | none => rfl
    | some o => exact absurd (Heap.lt_size e) (Nat.not_lt.mpr (Nat.le_succ _))
  refine call_enumerate_list (s := { s with heap := h₂, toks := t₂ }) hl fun h₃ ie il hsz kk => ?_
  refine wpAny_pyIter_enum (s := { s with heap := h₃, toks := t₂ }) ie ?_
  have kk : Kp h₂ h₃ := kk
  have nW : ∀ a, h₂.get? a = none → a ∉ W := fun a e q => by obtain ⟨o, g⟩ := I₂.live a q; rw [e] at g; cases g
  have hlen := rs.length
  refine hQ (h₂.objs.size + 1) [h₂.objs.size + 1, h₂.objs.size, ad] [h₂.objs.size + 1, h₂.objs.size] (fun i vs' => ∃ t x, vs.toArray[i]? = some x ∧ vs'.toArray = #[.int i t, x])
    (fun i h => (∃ old, IsEnum h (h₂.objs.size + 1) h₂.objs.size i old) ∧ h.IsListIter h₂.objs.size ad i ∧ h.IsList ad vs.toArray) h₃ t₂ (fun A' hA => ?_) ⟨⟨_, ie⟩, il, hl.at fun o e => kk _ _ e⟩ ((k₁.trans k₂).trans kk) (fun b q => ?_) (fun b q => ?_) fun i ws as hp hg => ?_
  · have w := WalksU.wx (WalksT.enumerate (prog := C.prog) (w := C.w) hA (h₂.objs.size + 1) h₂.objs.size ad (Nat.succ_ne_self _) (Nat.ne_of_lt (Nat.lt_succ_of_lt hlt)) (Nat.ne_of_lt hlt) vs.toArray).toU es n p (fun i h st b q => by
      obtain ⟨⟨old, h1⟩, ⟨o2, h2, _⟩, ⟨o3, h3, _⟩⟩ := st
      simp at q
      rcases q with q | q | q <;> subst q
      · exact ⟨_, h1⟩
      · exact ⟨_, h2⟩
      · exact ⟨_, h3⟩)
    have e : (enumLs 0 l).length = vs.toArray.size := by rw [enumLs_len, List.size_toArray, hlen]
    rw [e]; exact w
  · simp at q
    rcases q with q | q <;> subst q
    · exact none_of_kp (k₁.trans k₂) hn1
    · exact none_of_kp (k₁.trans k₂) hn0
  · simp at q
    rcases q with q | q | q <;> subst q
    · exact nW _ hn1
    · exact nW _ hn0
    · exact hW
  · obtain ⟨t, x, h1, h2⟩ := hp
    rw [enumLs_get] at hg
    obtain ⟨a, ha', rfl⟩ := Option.map_eq_some_iff.mp hg
    obtain ⟨u, h3, h4⟩ := rs.get ha'
    have : u = x := by simpa [h3] using h1
    subst this
    have e : ws = [.int i t, u] := by simpa using congrArg Array.toList h2
    subst e
    refine Reps.cons ⟨t, by simp⟩ (Reps.cons ?_ Reps.nil)
    refine Rep.mono (h := h₂) (W := W) (fun b o _ e => kk _ _ e) (fun a q => ?_) (fun _ _ e => e) _ _ h4
    rcases List.mem_append.mp q with q | q
    · simp at q
      rcases q with q | q <;> subst q
      · exact .inr hn1
      · exact .inr hn0
    · exact .inl q

/-- a list of pairs -/
noncomputable def pairsOf : List AV → Option (List (List AV))
  | [] => some []
  | .tuple l :: r => (pairsOf r).map (l :: ·)
  | _ => none
theorem pairs_get {h : Heap} {W : List Addr} {ρ : List (List Addr)} : ∀ {l : List AV} {vs : List Value} {ls : List (List AV)}, pairsOf l = some ls → Reps C h W ρ l vs → ls.length = vs.length ∧ ∀ j : Nat, ∃ p : Addr × List Value, j < vs.length → vs[j]? = some (.ref p.1) ∧ (∃ n, IsT h p.1 p.2.toArray n) ∧ p.1 ∉ W ∧ ∀ as, ls[j]? = some as → Reps C h W ρ as p.2
  | [], _, _, e, r => by cases e; rw [show _ = [] from r]; exact ⟨rfl, fun j => ⟨(0, []), fun q => by simp at q⟩⟩
  | .tuple y :: l, _, _, e, ⟨v, r, e1, ⟨a, ws, e2, hW, ht, hr⟩, e3⟩ => by
    unfold pairsOf at e
    obtain ⟨ys, h1, rfl⟩ := Option.map_eq_some_iff.mp e
    subst e1 e2
    obtain ⟨h2, h3⟩ := pairs_get h1 e3
    refine ⟨by simp [h2], fun j => ?_⟩
    cases j with
    | zero => exact ⟨(a, ws), fun _ => ⟨by simp, ht, hW, fun as e => by simp at e; subst e; exact hr⟩⟩
    | succ j =>
      obtain ⟨p, hp⟩ := h3 j
      exact ⟨p, fun q => by simpa using hp (by simpa using q)⟩
theorem it_pairs {es : List Expr} {n : Nat} {p : Pos} {e : Expr} {f : SE} (he : EvT C d sc vt e f) : ItT C d sc vt (.Tuple es n p) e (fun fm st => (f fm st).bind fun a => match a with
    | .list l => pairsOf l
    | _ => none) := by
  intro A env own W ρ fm sto s ls Q E G S I hf' hQ
  obtain ⟨a, ha, hf1⟩ := Option.bind_eq_some_iff.mp hf'
  split at hf1
  case h_2 => cases hf1
  rename_i l
  refine he G S I ha fun v h₁ t₁ k₁ r₁ => ?_
  obtain ⟨ad, vs, rfl, hW, pl, rs⟩ := r₁
  have I₁ := I.keep k₁
  obtain ⟨hlen, hget⟩ := pairs_get hf1 rs
  obtain ⟨F, hF⟩ := Classical.axiomOfChoice hget
  have hl := Heap.PlainList.isList pl
  have hs := Heap.get?_size h₁
  have lt_ne : ∀ {b o}, h₁.get? b = some o → b ≠ h₁.objs.size := fun e => Nat.ne_of_lt (Heap.lt_size e)
  obtain ⟨pn, pe⟩ := pl
  refine wpAny_pyIter_list hl ?_
  have tup : ∀ k, k < vs.length → (h₁.push { cls := .type "list_iterator", data := .fields #[.ref ad, .int 0 0] }).IsTuple (F k).1 (F k).2.toArray := fun k hk => by
    obtain ⟨_, ⟨m, hm⟩, _⟩ := hF k hk
    exact ⟨_, Heap.get?_push_of_some _ hm, rfl, m, rfl⟩
  refine hQ h₁.objs.size (h₁.objs.size :: ad :: (List.range vs.toArray.size).map fun j => (F j).1) [h₁.objs.size] (fun j vs' => vs'.toArray = (F j).2.toArray)
    (fun j h => h.IsListIter h₁.objs.size ad j ∧ h.IsList ad vs.toArray ∧ ∀ k, k < vs.toArray.size → h.IsTuple (F k).1 (F k).2.toArray) _ t₁ (fun A' hA => ?_) ⟨⟨_, Heap.get?_push_size _ rfl, rfl, rfl⟩, hl.push _, fun k hk => tup k (by simpa using hk)⟩ (k₁.trans (Kp.push _ _))
    (fun b q => by rw [List.mem_singleton.mp q]; exact none_of_kp k₁ hs) (fun b q => ?_) fun i ws as hp hg => ?_
  · have w := WalksU.wx (WalksU.listOfTuples (prog := C.prog) (w := C.w) hA h₁.objs.size ad (lt_ne pe) vs.toArray (fun j => (F j).1) (fun j => (F j).2.toArray) (fun j hj => by simpa using (hF j (by simpa using hj)).1)
      (fun j hj => by obtain ⟨_, ⟨m, hm⟩, _⟩ := hF j (by simpa using hj); exact lt_ne hm)) es n p (fun i h st b q => by
        obtain ⟨⟨o1, h1, _⟩, ⟨o2, h2, _⟩, h3⟩ := st
        rcases List.mem_cons.mp q with q | q
        · exact ⟨o1, q ▸ h1⟩
        · rcases List.mem_cons.mp q with q | q
          · exact ⟨o2, q ▸ h2⟩
          · obtain ⟨k, hk, rfl⟩ := List.mem_map.mp q
            obtain ⟨o, e, _⟩ := h3 k (List.mem_range.mp hk)
            exact ⟨o, e⟩)
    have e : ls.length = vs.toArray.size := by rw [hlen, List.size_toArray]
    rw [e]; exact w
  · rcases List.mem_cons.mp q with q | q
    · rw [q]; exact I₁.newW
    · rcases List.mem_cons.mp q with q | q
      · rw [q]; exact hW
      · obtain ⟨k, hk, rfl⟩ := List.mem_map.mp q
        exact (hF k (by simpa using hk)).2.2.1
  · have hi : i < vs.length := by rw [← hlen]; exact (List.getElem?_eq_some_iff.mp hg).1
    obtain ⟨_, _, _, h4⟩ := hF i hi
    have e : ws = (F i).2 := by simpa using congrArg Array.toList hp
    subst e
    exact Reps.mono (h := h₁) (W := W) (fun b o _ e => Kp.push _ _ _ _ e) (fun a q => (List.mem_append.mp q).elim (fun q => .inr (by rw [List.mem_singleton.mp q]; exact hs)) .inl) (fun _ _ e => e) _ _ (h4 as hg)
end
abbrev zsH1 (h : Heap) (x : Str) (t : Tok) : Heap := h.push { cls := .type "str_ascii_iterator", data := .fields #[.str x t, .int 0 0] }
abbrev zsH2 (h : Heap) (x y : Str) (t u : Tok) : Heap := (zsH1 h x t).push { cls := .type "str_ascii_iterator", data := .fields #[.str y u, .int 0 0] }
abbrev zsH3 (h : Heap) (x y : Str) (t u : Tok) : Heap := (zsH2 h x y t u).push { cls := .type "tuple", data := .seq #[.ref h.objs.size, .ref (zsH1 h x t).objs.size] }
abbrev zsH4 (h : Heap) (x y : Str) (t u : Tok) : Heap := (zsH3 h x y t u).push { cls := .type "tuple", data := .seq #[.none, .none] }
abbrev zsH5 (h : Heap) (x y : Str) (t u : Tok) : Heap := (zsH4 h x y t u).push { cls := .type "zip", data := .fields #[.none, .bool false, .bool false, .ref (zsH2 h x y t u).objs.size, .ref (zsH3 h x y t u).objs.size] }
set_option maxHeartbeats 4000000 in
theorem meets_zip_strs (x y : Str) (t u : Tok) (hx : x.cps.all (· < 128) = true) (hy : y.cps.all (· < 128) = true) :
    Meets (Builtin.«zip.__new__» ⟨[.type "zip", .str x t, .str y u], []⟩) (fun _ R s => R (.ok (.ret (.ref (zsH4 s.heap x y t u).objs.size))) { s with heap := zsH5 s.heap x y t u }) :=
  .of_wp fun prog w A R s h => by
    obtain ⟨hp, g, d, tk, os⟩ := s
    have hsub := sub_zip
    wp_walk using wpAny_pyIter_ascii hx, wpAny_pyIter_ascii hy
    exact ⟨_, rfl, h⟩

structure ZA (z TI TO i1 i2 : Addr) : Prop where
  TIz : TI ≠ z
  TOz : TO ≠ z
  i1z : i1 ≠ z
  i2z : i2 ≠ z
  TITO : TI ≠ TO
  TIi1 : TI ≠ i1
  TIi2 : TI ≠ i2
  TOi1 : TO ≠ i1
  TOi2 : TO ≠ i2
  i12 : i1 ≠ i2
section
variable {prog : Program} {w : World} {A : Around} {E : Value → Shared → Prop} {s : Shared}
abbrev SI (h : Heap) (i : Addr) (x : Str) (t : Tok) (k : Nat) : Prop := h.IsStrIter i "str_ascii_iterator" x t k
theorem SI.keep {h h' : Heap} {i : Addr} {x : Str} {t : Tok} {k : Nat} (a : SI h i x t k) (e : ∀ o, h.get? i = some o → h'.get? i = some o) : SI h' i x t k := let ⟨o, p, q⟩ := a; ⟨o, e o p, q⟩
theorem zs_item {z TI TO i1 i2 : Addr} {x y : Str} {t u : Tok} {k c1 c2 : Nat} {a b : Value} {Q : Value → Shared → Prop} (D : ZA z TI TO i1 i2)
    (hz : IsZip s.heap z TI TO .none) (hTI : IsPair s.heap TI (.ref i1) (.ref i2)) (hTO : IsPair s.heap TO a b) (h1 : SI s.heap i1 x t k) (h2 : SI s.heap i2 y u k) (hx : x.cps[k]? = some c1) (hy : y.cps[k]? = some c2)
    (hQ : ∀ h' tk t1 t2, IsZip h' z TI TO (rawInt s.heap.objs.size) → (∃ a b, IsPair h' TO a b) → SI h' i1 x t (k + 1) → SI h' i2 y u (k + 1) → IsPair h' s.heap.objs.size (.str ⟨#[c1]⟩ t1) (.str ⟨#[c2]⟩ t2) →
      (∀ c o, c ≠ z → c ≠ TO → c ≠ i1 → c ≠ i2 → s.heap.get? c = some o → h'.get? c = some o) → Q (.ref s.heap.objs.size) { s with heap := h', toks := tk }) :
    wpAny (model prog w) A (Builtin.«zip.__next__» ⟨[.ref z], []⟩) (fun fin s' => ∃ v, fin = .done (.ret v) ∧ Q v s') E s := by
  show wpAny _ _ (field (.ref z) 2 >>= _) _ _ _
  refine wpAny_bind (wpAny_field hz rfl (x := .bool false) rfl ?_)
  show wpAny _ _ (field (.ref z) 3 >>= _) _ _ _
  refine wpAny_bind (wpAny_field hz rfl (x := .ref TI) rfl (wpAny_bind (wpAny_seqItems hTI rfl ?_)))
  show wpAny _ _ (Builtin.SmallTypes.ownedTupleIsFree (.ref z) >>= _) _ _ _
  refine wpAny_bind ?_
  unfold Builtin.SmallTypes.ownedTupleIsFree
  refine wpAny_bind (wpAny_field hz rfl (x := .none) rfl (wpAny_pure ?_))
  simp only [if_true]
  refine wpAny_bind (wpAny_rule (wpAny_bind (wpAny_field hz rfl (x := .ref TO) rfl (wpAny_bind (wpAny_setField_rec hz (by simp) fun g₁ hz₁ e₁ => ?_)))))
  replace hz₁ : IsZip g₁ z TI TO .ellipsis := hz₁
  refine wpAny_bind ?_
  simp only [List.zipIdx_cons, List.zipIdx_nil, List.forIn_cons, List.forIn_nil]
  refine wpAny_bind (wpAny_bind (wpAny_onRaise ?_))
  show wpAny _ _ (Builtin.SmallTypes.nextOf (.ref i1) >>= _) _ _ _
  refine wpAny_bind (wpAny_nextOf_ascii_item (h1.extBut e₁.extBut D.i1z) hx fun g₂ h1₂ e₂ => wpAny_pure ?_)
  have hTO₂ : IsPair g₂ TO a b := e₂.extBut _ _ D.TOi1 (e₁.extBut _ _ D.TOz hTO)
  refine wpAny_bind (wpAny_seqItems hTO₂ rfl (wpAny_bind (wpAny_updateSeq_pair hTO₂ fun g₃ hTO₃ e₃ => ?_)))
  generalize hv : Value.str ⟨#[c1]⟩ _ = v1 at hTO₃ ⊢
  replace hTO₃ : IsPair g₃ TO v1 b := hTO₃
  refine wpAny_bind (wpAny_letGo (wpAny_pure ?_))
  refine wpAny_bind (wpAny_bind (wpAny_onRaise ?_))
  show wpAny _ _ (Builtin.SmallTypes.nextOf (.ref i2) >>= _) _ _ _
  refine wpAny_bind (wpAny_nextOf_ascii_item (((h2.extBut e₁.extBut D.i2z).extBut e₂.extBut D.i12.symm).extBut e₃.extBut D.TOi2.symm) hy fun g₄ h2₄ e₄ => wpAny_pure ?_)
  have hTO₄ : IsPair g₄ TO v1 b := e₄.extBut _ _ D.TOi2 hTO₃
  refine wpAny_bind (wpAny_seqItems hTO₄ rfl (wpAny_bind (wpAny_updateSeq_pair hTO₄ fun g₅ hTO₅ e₅ => ?_)))
  generalize hw : Value.str ⟨#[c2]⟩ _ = v2 at hTO₅ ⊢
  replace hTO₅ : IsPair g₅ TO v1 v2 := hTO₅
  refine wpAny_bind (wpAny_letGo (wpAny_pure (wpAny_pure ?_)))
  refine wpAny_bind (wpAny_seqItems hTO₅ rfl (wpAny_bind (wpAny_newTuple ?_)))
  have hsz : g₅.objs.size = s.heap.objs.size := by rw [e₅.1, e₄.1, e₃.1, e₂.1, e₁.1]
  have hz₅ : IsZip g₅ z TI TO .ellipsis := e₅.extBut _ _ D.TOz.symm (e₄.extBut _ _ D.i2z.symm (e₃.extBut _ _ D.TOz.symm (e₂.extBut _ _ D.i1z.symm hz₁)))
  have hk₅ : ∀ c o, c ≠ z → c ≠ TO → c ≠ i1 → c ≠ i2 → s.heap.get? c = some o → g₅.get? c = some o := fun c o c1 c2 c3 c4 e =>
    e₅.extBut _ _ c2 (e₄.extBut _ _ c4 (e₃.extBut _ _ c2 (e₂.extBut _ _ c3 (e₁.extBut _ _ c1 e))))
  have h1₅ : SI g₅ i1 x t (k + 1) := ((h1₂.extBut e₃.extBut D.TOi1.symm).extBut e₄.extBut D.i12).extBut e₅.extBut D.TOi1.symm
  have h2₅ : SI g₅ i2 y u (k + 1) := h2₄.extBut e₅.extBut D.TOi2.symm
  have hzlt : z < g₅.objs.size := Heap.lt_size hz₅
  show wpAny _ _ (Builtin.SmallTypes.ownedTupleHandOut (.ref z) (.ref g₅.objs.size) >>= _) _ _ _
  refine wpAny_bind ?_
  unfold Builtin.SmallTypes.ownedTupleHandOut
  have hz₆ : IsZip (g₅.push { cls := .type "tuple", data := .seq #[v1, v2] }) z TI TO .ellipsis := Heap.get?_push_of_some _ hz₅
  refine wpAny_bind (wpAny_setField_rec hz₆ (by simp) fun g₇ hz₇ e₇ => ?_)
  replace hz₇ : IsZip g₇ z TI TO (rawInt g₅.objs.size) := hz₇
  refine wpAny_setField_rec hz₇ (by simp) fun g₈ hz₈ e₈ => ?_
  replace hz₈ : IsZip g₈ z TI TO (rawInt g₅.objs.size) := hz₈
  have up : ∀ c o, c ≠ z → g₅.get? c = some o → g₈.get? c = some o := fun c o c1 e => e₈.extBut _ _ c1 (e₇.extBut _ _ c1 (Heap.get?_push_of_some _ e))
  have hT₈ : IsPair g₈ g₅.objs.size v1 v2 := e₈.extBut _ _ (Nat.ne_of_gt hzlt) (e₇.extBut _ _ (Nat.ne_of_gt hzlt) (Heap.get?_push_size _ rfl))
  rw [hsz] at hz₈ hT₈
  refine wpAny_pure ⟨_, rfl, ?_⟩
  show Q (.ref g₅.objs.size) _
  rw [hsz]
  subst hv hw
  exact hQ g₈ _ _ _ hz₈ ⟨_, _, up _ _ D.TOz hTO₅⟩ (SI.keep h1₅ fun o e => up _ o D.i1z e) (SI.keep h2₅ fun o e => up _ o D.i2z e) hT₈ fun c o c1 c2 c3 c4 e => up c o c1 (hk₅ c o c1 c2 c3 c4 e)
theorem zs_end {z TI TO i1 i2 : Addr} {x : Str} {t : Tok} {k : Nat} {a b : Value} {Q : Fin → Shared → Prop} (hh : A.handled = none) (D : ZA z TI TO i1 i2)
    (hz : IsZip s.heap z TI TO .none) (hTI : IsPair s.heap TI (.ref i1) (.ref i2)) (hTO : IsPair s.heap TO a b) (h1 : SI s.heap i1 x t k) (hx : x.cps[k]? = none)
    (hE : ∀ h' e, (∀ c o, c ≠ z → c ≠ TO → c ≠ i1 → c ≠ i2 → s.heap.get? c = some o → h'.get? c = some o) → (∃ o, h'.get? e = some o ∧ o.cls = .type "StopIteration") → E (.ref e) { s with heap := h' }) :
    wpAny (model prog w) A (Builtin.«zip.__next__» ⟨[.ref z], []⟩) Q E s := by
  show wpAny _ _ (field (.ref z) 2 >>= _) _ _ _
  refine wpAny_bind (wpAny_field hz rfl (x := .bool false) rfl ?_)
  show wpAny _ _ (field (.ref z) 3 >>= _) _ _ _
  refine wpAny_bind (wpAny_field hz rfl (x := .ref TI) rfl (wpAny_bind (wpAny_seqItems hTI rfl ?_)))
  show wpAny _ _ (Builtin.SmallTypes.ownedTupleIsFree (.ref z) >>= _) _ _ _
  refine wpAny_bind ?_
  unfold Builtin.SmallTypes.ownedTupleIsFree
  refine wpAny_bind (wpAny_field hz rfl (x := .none) rfl (wpAny_pure ?_))
  simp only [if_true]
  refine wpAny_bind (wpAny_rule (wpAny_bind (wpAny_field hz rfl (x := .ref TO) rfl (wpAny_bind (wpAny_setField_rec hz (by simp) fun g₁ hz₁ e₁ => ?_)))))
  replace hz₁ : IsZip g₁ z TI TO .ellipsis := hz₁
  refine wpAny_bind ?_
  simp only [List.zipIdx_cons, List.zipIdx_nil, List.forIn_cons, List.forIn_nil]
  refine wpAny_bind (wpAny_bind (wpAny_onRaise ?_))
  show wpAny _ _ (Builtin.SmallTypes.nextOf (.ref i1) >>= _) _ _ _
  refine wpAny_bind (wpAny_nextOf_ascii_end hh (h1.extBut e₁.extBut D.i1z) hx fun g₂ e e₂ he => ?_)
  obtain ⟨oe, hoe, hce⟩ := he
  have hz₂ : IsZip g₂ z TI TO .ellipsis := e₂ _ _ D.i1z.symm hz₁
  have hez : e ≠ z := fun q => by subst q; rw [hz₂] at hoe; cases hoe; simp at hce
  refine wpAny_setField_rec hz₂ (by simp) fun g₃ _ e₃ => hE g₃ e (fun c o c1 _ c3 _ q => e₃.extBut _ _ c1 (e₂ _ _ c3 (e₁.extBut _ _ c1 q))) ⟨oe, e₃.extBut _ _ hez hoe, hce⟩
theorem zs_walk (hh : A.handled = none) (z TI TO i1 i2 : Addr) (D : ZA z TI TO i1 i2) (x y : Str) (t u : Tok) (hlen : x.cps.size = y.cps.size) :
    WalksU prog w A z [z, TI, TO, i1, i2] [z, TO, i1, i2] x.cps.size (fun i vals => ∃ c1 c2 t1 t2, x.cps[i]? = some c1 ∧ y.cps[i]? = some c2 ∧ vals = #[.str ⟨#[c1]⟩ t1, .str ⟨#[c2]⟩ t2])
      (fun i h => IsZip h z TI TO .none ∧ IsPair h TI (.ref i1) (.ref i2) ∧ (∃ a b, IsPair h TO a b) ∧ SI h i1 x t i ∧ SI h i2 y u i)
      (fun i T h => IsZip h z TI TO (rawInt T) ∧ IsPair h TI (.ref i1) (.ref i2) ∧ (∃ a b, IsPair h TO a b) ∧ SI h i1 x t (i + 1) ∧ SI h i2 y u (i + 1) ∧ T ≠ z ∧ T ≠ TO ∧ T ≠ i1 ∧ T ≠ i2) where
  sub := fun c hc => by simp at hc ⊢; rcases hc with rfl | rfl | rfl | rfl <;> simp
  frame := fun i h h' hst hk => by
    obtain ⟨hz, hTI, ⟨a, b, hTO⟩, h1, h2⟩ := hst
    exact ⟨hk z (by simp) _ hz, hk TI (by simp) _ hTI, ⟨a, b, hk TO (by simp) _ hTO⟩, SI.keep h1 fun o e => hk i1 (by simp) o e, SI.keep h2 fun o e => hk i2 (by simp) o e⟩
  item := fun i s Q E hi hst hQ => by
    obtain ⟨hz, hTI, ⟨a, b, hTO⟩, h1, h2⟩ := hst
    have hT : s.TypeIs (.ref z) "zip" := ⟨_, hz, rfl⟩
    have lt : ∀ {c o}, s.heap.get? c = some o → s.heap.objs.size ≠ c := fun e => Nat.ne_of_gt (Heap.lt_size e)
    unfold pyNext
    refine wpAny_bind (wpAny_attempt (wpAny_callSpecial?_slot (name := Str.ofString "__next__") hT F.slot_zip_next
      (wpAny_call_entry F.slot_zip_next hT F.entry_zip_next
        (zs_item D hz hTI hTO h1 h2 (Array.getElem?_eq_getElem hi) (Array.getElem?_eq_getElem (hlen ▸ hi)) fun h' tk t1 t2 a1 a2 a3 a4 a5 hk => wpAny_pure ?_) (F.args_zip_next_1 _))))
    exact hQ s.heap.objs.size #[.str ⟨#[x.cps[i]]⟩ t1, .str ⟨#[y.cps[i]'(hlen ▸ hi)]⟩ t2] h' tk ⟨_, _, t1, t2, Array.getElem?_eq_getElem hi, Array.getElem?_eq_getElem (hlen ▸ hi), rfl⟩ ⟨_, a5, rfl, _, rfl⟩
      ⟨a1, hk _ _ D.TIz D.TITO D.TIi1 D.TIi2 hTI, a2, a3, a4, lt hz, lt hTO, (by obtain ⟨_, e, _⟩ := h1; exact lt e), (by obtain ⟨_, e, _⟩ := h2; exact lt e)⟩
      fun c o hc e => hk c o (fun q => hc (by simp [q])) (fun q => hc (by simp [q])) (fun q => hc (by simp [q])) (fun q => hc (by simp [q])) e
  go := fun elts k pos i T s Q E hm hQ => by
    obtain ⟨hz, hTI, ⟨a, b, hTO⟩, h1, h2, _⟩ := hm
    exact wpAny_letOwnedTupleGo_zip hz fun h' hz' hs' => hQ h' ⟨hz', hs'.extBut _ _ D.TIz hTI, ⟨a, b, hs'.extBut _ _ D.TOz hTO⟩, h1.extBut hs'.extBut D.i1z, h2.extBut hs'.extBut D.i2z⟩ fun c o hc e => hs'.extBut _ _ (fun q => hc (by simp [q])) e
  apart := fun i T h hm hT => by
    obtain ⟨_, _, _, _, _, t1, t2, t3, t4⟩ := hm
    simp at hT
    rcases hT with rfl | rfl | rfl | rfl
    · exact t1 rfl
    · exact t2 rfl
    · exact t3 rfl
    · exact t4 rfl
  done := fun s Q E hst hQ => by
    obtain ⟨hz, hTI, ⟨a, b, hTO⟩, h1, h2⟩ := hst
    have hT : s.TypeIs (.ref z) "zip" := ⟨_, hz, rfl⟩
    unfold pyNext
    refine wpAny_bind (wpAny_attempt (wpAny_callSpecial?_slot (name := Str.ofString "__next__") hT F.slot_zip_next
      (wpAny_call_entry F.slot_zip_next hT F.entry_zip_next (zs_end (k := x.cps.size) hh D hz hTI hTO h1 (by simp) fun h' e hk he => ?_) (F.args_zip_next_1 _))))
    obtain ⟨o, ho, hc⟩ := he
    refine wpAny_bind (wpAny_isInstance (T := "StopIteration") (b := true) ⟨o, ho, hc⟩ isSubtype_stop ?_)
    exact wpAny_pure (hQ _ s.toks fun c o hc e => hk c o (fun q => hc (by simp [q])) (fun q => hc (by simp [q])) (fun q => hc (by simp [q])) (fun q => hc (by simp [q])) e)
  self := fun i s Q E hst hQ => wpAny_pyIter_zip hst.1 hQ
end
section
variable {C : Cx} {d : Nat} {sc : List (Str × NameKind)} {vt : VT}
theorem call_zip_s {A : Around} {s : Shared} {E : Value → Shared → Prop} {x y : Str} {t u : Tok} {Q : Value → Shared → Prop} (hx : x.cps.all (· < 128) = true) (hy : y.cps.all (· < 128) = true)
    (h : ∀ h', IsZip h' (s.heap.objs.size + 4) (s.heap.objs.size + 2) (s.heap.objs.size + 3) .none → IsPair h' (s.heap.objs.size + 2) (.ref s.heap.objs.size) (.ref (s.heap.objs.size + 1)) →
      IsPair h' (s.heap.objs.size + 3) .none .none → SI h' s.heap.objs.size x t 0 → SI h' (s.heap.objs.size + 1) y u 0 → Kp s.heap h' → Q (.ref (s.heap.objs.size + 4)) { s with heap := h' }) :
    wpAny (model C.prog C.w) A (call (.type "zip") [.str x t, .str y u]) Q E s := by
  refine callType_new F.called_zip (by decide) (F.typeCall_zip_2 _ _) (F.newCall_zip_2 _ _) (fun obj => F.args_object_init_3 obj _ _) F.entry_zip_new (meets_zip_strs x y t u hx hy) ?_
  have z1 : (zsH1 s.heap x t).objs.size = s.heap.objs.size + 1 := Heap.size_push ..
  have z2 : (zsH2 s.heap x y t u).objs.size = s.heap.objs.size + 2 := by rw [Heap.size_push, z1]
  have z3 : (zsH3 s.heap x y t u).objs.size = s.heap.objs.size + 3 := by rw [Heap.size_push, z2]
  have z4 : (zsH4 s.heap x y t u).objs.size = s.heap.objs.size + 4 := by rw [Heap.size_push, z3]
  have g5 : (zsH5 s.heap x y t u).get? (zsH4 s.heap x y t u).objs.size = some _ := Heap.get?_push_size _ rfl
  have g4 : (zsH5 s.heap x y t u).get? (zsH3 s.heap x y t u).objs.size = some _ := Heap.get?_push_of_some _ (Heap.get?_push_size _ rfl)
  have g3 : (zsH5 s.heap x y t u).get? (zsH2 s.heap x y t u).objs.size = some _ := Heap.get?_push_of_some _ (Heap.get?_push_of_some _ (Heap.get?_push_size _ rfl))
  have g2 : (zsH5 s.heap x y t u).get? (zsH1 s.heap x t).objs.size = some _ := Heap.get?_push_of_some _ (Heap.get?_push_of_some _ (Heap.get?_push_of_some _ (Heap.get?_push_size _ rfl)))
  have g1 : (zsH5 s.heap x y t u).get? s.heap.objs.size = some _ := Heap.get?_push_of_some _ (Heap.get?_push_of_some _ (Heap.get?_push_of_some _ (Heap.get?_push_of_some _ (Heap.get?_push_size _ rfl))))
  show _ ∧ _
  rw [z2, z3, z4] at g5
  rw [z1, z2] at g3
  rw [z3] at g4
  rw [z1] at g2
  rw [z4]
  exact ⟨⟨_, g5, rfl⟩, h _ g5 g3 g4 ⟨_, g1, rfl, rfl⟩ ⟨_, g2, rfl, rfl⟩ fun c o q =>
    Heap.get?_push_of_some _ (Heap.get?_push_of_some _ (Heap.get?_push_of_some _ (Heap.get?_push_of_some _ (Heap.get?_push_of_some _ q))))⟩
noncomputable def zipLs : List AV → List AV → List (List AV)
  | a :: l, b :: m => [a, b] :: zipLs l m
  | _, _ => []
theorem zipLs_get : ∀ (l m : List AV) (i : Nat) (as : List AV), (zipLs l m)[i]? = some as → ∃ a b, l[i]? = some a ∧ m[i]? = some b ∧ as = [a, b]
  | [], _, _, _, e => by simp [zipLs] at e
  | _ :: _, [], _, _, e => by simp [zipLs] at e
  | a :: l, b :: m, 0, _, e => by simp [zipLs] at e; exact ⟨a, b, rfl, rfl, e.symm⟩
  | a :: l, b :: m, i + 1, as, e => by simp only [zipLs, List.getElem?_cons_succ] at e ⊢; exact zipLs_get l m i as e
theorem zipLs_len : ∀ (l m : List AV), (zipLs l m).length = min l.length m.length
  | [], m => by simp [zipLs]
  | a :: l, [] => by simp [zipLs]
  | a :: l, b :: m => by simp [zipLs, zipLs_len l m]
theorem none_above {h : Heap} {k : Nat} : h.get? (h.objs.size + k) = none := by
  cases e : h.get? (h.objs.size + k) with
  | none => rfl
  | some o => exact absurd (Heap.lt_size e) (Nat.not_lt.mpr (Nat.le_add_right _ _))
theorem za_new (n : Nat) : ZA (n + 4) (n + 2) (n + 3) n (n + 1) := by
  constructor <;> (show (_ : Nat) ≠ _; omega)
theorem it_zip {es : List Expr} {n : Nat} {p np pos : Pos} {y : Str} {e e' : Expr} {f f' : SE} (hf : EvT C d sc vt (.Name y np) (fun _ _ => some (.glob (.type "zip")))) (he : EvT C d sc vt e f) (he' : EvT C d sc vt e' f')
    (hs : ∀ env, starEach [e, e'] env = [(false, eval e env), (false, eval e' env)]) (hs2 : ∀ env, starEach [e'] env = [(false, eval e' env)]) :
    ItT C d sc vt (.Tuple es n p) (.Call (.Name y np) [e, e'] [] pos) (fun fm st => (f fm st).bind fun a => (f' fm st).bind fun b => match a, b with
      | .list l, .list m => some (zipLs l m)
      | .str x, .str z => if x.all (· < 128) && z.all (· < 128) && x.length == z.length then some (zipLs (x.map fun c => .str [c]) (z.map fun c => .str [c])) else none
      | _, _ => none) := by
  intro A env own W ρ fm sto s ls Q E G S I hf' hQ
  obtain ⟨a, ha, hf1⟩ := Option.bind_eq_some_iff.mp hf'
  obtain ⟨b, hb, hf2⟩ := Option.bind_eq_some_iff.mp hf1
  refine Call_ (hf G S I rfl fun v h₁ t₁ k₁ r₁ => ?_)
  obtain rfl : v = .type "zip" := r₁
  refine PyProof.Rows.callWith_type1 ?_ (by rw [hs, hs2]) (by rw [hs2]; rfl)
  rw [hs]
  refine Calls.spliced_cons (he (s := { s with heap := h₁, toks := t₁ }) G S (I.keep k₁) ha fun v h₂ t₂ k₂ r₂ => ?_)
  refine Calls.spliced_cons (he' (s := { s with heap := h₂, toks := t₂ }) G S ((I.keep k₁).keep k₂) hb fun v' h₃ t₃ k₃ r₃ => Calls.spliced_nil ?_)
  have I₃ := ((I.keep k₁).keep k₂).keep k₃
  have q₂ := r₂.keep k₃
  clear r₂
  have k03 := (k₁.trans k₂).trans k₃
  have nW : ∀ a, h₃.get? a = none → a ∉ W := fun a e q => by obtain ⟨o, g⟩ := I₃.live a q; rw [e] at g; cases g
  have f0 : h₃.get? h₃.objs.size = none := none_above (k := 0)
  have f1 : h₃.get? (h₃.objs.size + 1) = none := none_above
  have f2 : h₃.get? (h₃.objs.size + 2) = none := none_above
  have f3 : h₃.get? (h₃.objs.size + 3) = none := none_above
  have f4 : h₃.get? (h₃.objs.size + 4) = none := none_above
  have wr0 : ∀ b ∈ [h₃.objs.size + 4, h₃.objs.size + 3, h₃.objs.size, h₃.objs.size + 1], h₃.get? b = none := fun b q => by
    simp at q
    rcases q with q | q | q | q <;> subst q <;> assumption
  split at hf2
  · rename_i l m
    simp only [Option.some.injEq] at hf2; subst hf2
    obtain ⟨a1, xs, rfl, w1, p1, rx⟩ := q₂
    obtain ⟨a2, ys, rfl, w2, p2, ry⟩ := r₃
    have hl1 := Heap.PlainList.isList p1
    have hl2 := Heap.PlainList.isList p2
    have lt1 : a1 < h₃.objs.size := by obtain ⟨_, e⟩ := p1; exact Heap.lt_size e
    have lt2 : a2 < h₃.objs.size := by obtain ⟨_, e⟩ := p2; exact Heap.lt_size e
    refine call_zip_2 (s := { s with heap := h₃, toks := t₃ }) hl1 hl2 fun h' hz hTI hTO hi1 hi2 hsz hk => ?_
    have hk : Kp h₃ h' := hk
    refine wpAny_pyIter_zip (s := { s with heap := h', toks := t₃ }) hz ?_
    refine hQ (h₃.objs.size + 4) [h₃.objs.size + 4, h₃.objs.size + 2, h₃.objs.size + 3, h₃.objs.size, h₃.objs.size + 1, a1, a2] [h₃.objs.size + 4, h₃.objs.size + 3, h₃.objs.size, h₃.objs.size + 1]
      (fun i vs' => ∃ x y, xs.toArray[i]? = some x ∧ ys.toArray[i]? = some y ∧ vs'.toArray = #[x, y])
      (fun i h => IsZip h (h₃.objs.size + 4) (h₃.objs.size + 2) (h₃.objs.size + 3) .none ∧ IsPair h (h₃.objs.size + 2) (.ref h₃.objs.size) (.ref (h₃.objs.size + 1)) ∧ (∃ a b, IsPair h (h₃.objs.size + 3) a b) ∧
        h.IsListIter h₃.objs.size a1 i ∧ h.IsListIter (h₃.objs.size + 1) a2 i ∧ h.IsList a1 xs.toArray ∧ h.IsList a2 ys.toArray) h' t₃ (fun A' hA => ?_)
      ⟨hz, hTI, ⟨_, _, hTO⟩, hi1, hi2, hl1.at fun o e => hk _ _ e, hl2.at fun o e => hk _ _ e⟩ (k03.trans hk) (fun b q => none_of_kp k03 (wr0 b q)) (fun b q => ?_) fun i ws as hp hg => ?_
    · have w := WalksU.wx (WalksT.zip2 (prog := C.prog) (w := C.w) hA (h₃.objs.size + 4) (h₃.objs.size + 2) (h₃.objs.size + 3) h₃.objs.size (h₃.objs.size + 1) a1 a2 (PyProof.Rows.zipApart_new lt1 lt2) xs.toArray ys.toArray).toU es n p (fun i h st b q => by
        obtain ⟨s1, s2, ⟨_, _, s3⟩, ⟨_, s4, _⟩, ⟨_, s5, _⟩, ⟨_, s6, _⟩, ⟨_, s7, _⟩⟩ := st
        simp only [List.mem_cons, List.not_mem_nil, or_false] at q
        rcases q with q | q | q | q | q | q | q <;> subst q
        · exact ⟨_, s1⟩
        · exact ⟨_, s2⟩
        · exact ⟨_, s3⟩
        · exact ⟨_, s4⟩
        · exact ⟨_, s5⟩
        · exact ⟨_, s6⟩
        · exact ⟨_, s7⟩)
      have e : (zipLs l m).length = min xs.toArray.size ys.toArray.size := by rw [zipLs_len, List.size_toArray, List.size_toArray, rx.length, ry.length]
      rw [e]; exact w
    · simp only [List.mem_cons, List.not_mem_nil, or_false] at q
      rcases q with q | q | q | q | q | q | q <;> subst q
      · exact nW _ f4
      · exact nW _ f2
      · exact nW _ f3
      · exact nW _ f0
      · exact nW _ f1
      · exact w1
      · exact w2
    · obtain ⟨u, v, h1, h2, h3⟩ := hp
      obtain ⟨c1, c2, h4, h5, rfl⟩ := zipLs_get _ _ _ _ hg
      obtain ⟨u', h6, ru⟩ := rx.get h4
      obtain ⟨v', h7, rv⟩ := ry.get h5
      have e1 : u' = u := by simpa [h6] using h1
      have e2 : v' = v := by simpa [h7] using h2
      subst e1 e2
      have e : ws = [u', v'] := by simpa using congrArg Array.toList h3
      subst e
      exact Reps.mono (h := h₃) (W := W) (fun b o _ e => hk _ _ e) (fun a q => (List.mem_append.mp q).elim (fun q => .inr (wr0 a q)) .inl) (fun _ _ e => e) _ _ (Reps.cons ru (Reps.cons rv Reps.nil))
  · rename_i x z
    split at hf2
    case isFalse => cases hf2
    rename_i hc
    simp only [Bool.and_eq_true, beq_iff_eq] at hc
    obtain ⟨⟨c1, c2⟩, c3⟩ := hc
    simp only [Option.some.injEq] at hf2; subst hf2
    obtain ⟨tx, rfl⟩ := q₂
    obtain ⟨tz, rfl⟩ := r₃
    refine call_zip_s (s := { s with heap := h₃, toks := t₃ }) (by simpa using c1) (by simpa using c2) fun h' hz hTI hTO hi1 hi2 hk => ?_
    refine wpAny_pyIter_zip (s := { s with heap := h', toks := t₃ }) hz ?_
    have hlen : (⟨x.toArray⟩ : Str).cps.size = (⟨z.toArray⟩ : Str).cps.size := by simpa using c3
    refine hQ (h₃.objs.size + 4) [h₃.objs.size + 4, h₃.objs.size + 2, h₃.objs.size + 3, h₃.objs.size, h₃.objs.size + 1] [h₃.objs.size + 4, h₃.objs.size + 3, h₃.objs.size, h₃.objs.size + 1]
      (fun i vs' => ∃ c1 c2 t1 t2, (⟨x.toArray⟩ : Str).cps[i]? = some c1 ∧ (⟨z.toArray⟩ : Str).cps[i]? = some c2 ∧ vs'.toArray = #[.str ⟨#[c1]⟩ t1, .str ⟨#[c2]⟩ t2])
      (fun i h => IsZip h (h₃.objs.size + 4) (h₃.objs.size + 2) (h₃.objs.size + 3) .none ∧ IsPair h (h₃.objs.size + 2) (.ref h₃.objs.size) (.ref (h₃.objs.size + 1)) ∧ (∃ a b, IsPair h (h₃.objs.size + 3) a b) ∧
        SI h h₃.objs.size ⟨x.toArray⟩ tx i ∧ SI h (h₃.objs.size + 1) ⟨z.toArray⟩ tz i) h' t₃ (fun A' hA => ?_)
      ⟨hz, hTI, ⟨_, _, hTO⟩, hi1, hi2⟩ (k03.trans hk) (fun b q => none_of_kp k03 (wr0 b q)) (fun b q => ?_) fun i ws as hp hg => ?_
    · have w := WalksU.wx (zs_walk (prog := C.prog) (w := C.w) hA (h₃.objs.size + 4) (h₃.objs.size + 2) (h₃.objs.size + 3) h₃.objs.size (h₃.objs.size + 1) (za_new _) ⟨x.toArray⟩ ⟨z.toArray⟩ tx tz hlen) es n p (fun i h st b q => by
        obtain ⟨s1, s2, ⟨_, _, s3⟩, ⟨_, s4, _⟩, ⟨_, s5, _⟩⟩ := st
        simp only [List.mem_cons, List.not_mem_nil, or_false] at q
        rcases q with q | q | q | q | q <;> subst q
        · exact ⟨_, s1⟩
        · exact ⟨_, s2⟩
        · exact ⟨_, s3⟩
        · exact ⟨_, s4⟩
        · exact ⟨_, s5⟩)
      have e : (zipLs (x.map fun c => AV.str [c]) (z.map fun c => AV.str [c])).length = (⟨x.toArray⟩ : Str).cps.size := by rw [zipLs_len]; simp [c3]
      rw [e]; exact w
    · simp only [List.mem_cons, List.not_mem_nil, or_false] at q
      rcases q with q | q | q | q | q <;> subst q
      · exact nW _ f4
      · exact nW _ f2
      · exact nW _ f3
      · exact nW _ f0
      · exact nW _ f1
    · obtain ⟨d1, d2, t1, t2, h1, h2, h3⟩ := hp
      obtain ⟨a, b, h4, h5, rfl⟩ := zipLs_get _ _ _ _ hg
      rw [List.getElem?_map] at h4 h5
      obtain ⟨c1', h6, rfl⟩ := Option.map_eq_some_iff.mp h4
      obtain ⟨c2', h7, rfl⟩ := Option.map_eq_some_iff.mp h5
      have e1 : c1' = d1 := by simpa [h6] using h1
      have e2 : c2' = d2 := by simpa [h7] using h2
      subst e1 e2
      have e : ws = [.str ⟨#[c1']⟩ t1, .str ⟨#[c2']⟩ t2] := by simpa using congrArg Array.toList h3
      subst e
      exact Reps.cons ⟨t1, rfl⟩ (Reps.cons ⟨t2, rfl⟩ Reps.nil)
  · cases hf2

/-- the end of a dict comprehension's turn -/
noncomputable def emitD (kx vx : Expr) (acc : Value) (env : Env) : Sem Unit := match acc with
  | .ref D => (do
    let kv ← eval kx env
    let vv ← holding [kv] (eval vx env)
    standAt { kx.pos with endLine := vx.pos.endLine, endCol := vx.pos.endCol }
    holding [kv, vv] (dictSet D kv vv))
  | _ => pure ()
theorem bd_emitD {kx vx : Expr} {f g : SE} (hk : EvT C d sc vt kx f) (hv : EvT C d sc vt vx g) : BdT C d sc vt (emitD kx vx) (fun fm st ac => match ac with
    | .dict ks vs => (f fm st).bind fun k => (g fm st).bind fun v => match k with
      | .str k => if !ks.contains k && decide (ks.length ≤ 4096) then some (fm, .dict (ks ++ [k]) (vs ++ [v])) else none
      | _ => none
    | _ => none) := by
  intro A env own W ρ fm sto s D ac fm' ac' Q E G S I hf hQ
  cases ac with
  | list l => cases hf
  | dict ks vs =>
    obtain ⟨k, hk1, hf1⟩ := Option.bind_eq_some_iff.mp hf
    obtain ⟨v, hv1, hf2⟩ := Option.bind_eq_some_iff.mp hf1
    split at hf2
    case h_2 => cases hf2
    rename_i k
    split at hf2
    case isFalse => cases hf2
    rename_i hc
    simp only [Bool.and_eq_true, Bool.not_eq_true', List.contains_eq_mem, decide_eq_false_iff_not, decide_eq_true_eq] at hc
    simp only [Option.some.injEq, Prod.mk.injEq] at hf2
    obtain ⟨rfl, rfl⟩ := hf2
    unfold emitD
    refine wpAny_bind (hk G S I.inv hk1 fun kv h₁ t₁ k₁ r₁ => wpAny_bind (wpAny_holding (hv (s := { s with heap := h₁, toks := t₁ }) G S (I.inv.keep k₁) hv1 fun vv h₂ t₂ k₂ r₂ => wpAny_bind (wpAny_standAt (wpAny_holding ?_)))))
    have I₂ := (I.keep k₁).keep k₂
    obtain ⟨t, rfl⟩ := r₁
    obtain ⟨ys, dm, rs, hl⟩ := I₂.acc
    have hyl := rs.length
    refine wpAny_dictSet_pairs (s := { s with heap := h₂, toks := t₂ }) (strKind_is C.prog C.w _ _) dm (fun h₃ dm₃ sb => ?_) (by rw [List.length_zip, List.length_map, sizeLine_eq]; omega)
    have keep : ∀ b x, b ∉ [D] → h₂.get? b = some x → h₃.get? b = some x := fun b x hb e => sb.extBut b x (by simpa using hb) e
    have keepW : ∀ b o, b ∉ W → h₂.get? b = some o → h₃.get? b = some o := fun b o hb e => keep b o (fun q => hb (by rw [List.mem_singleton.mp q]; exact I.dw)) e
    have hst : stored ((ks.map fun k => (⟨k.toArray⟩ : Str)).zip ys) (⟨k.toArray⟩ : Str) vv = ((ks ++ [k]).map fun k => (⟨k.toArray⟩ : Str)).zip (ys ++ [vv]) := by
      unfold stored
      rw [if_neg, List.map_append, List.zip_append (by simp; omega)]
      · rfl
      · intro q
        rw [List.any_eq_true] at q
        obtain ⟨⟨a, b⟩, h1, h2⟩ := q
        have h3 := (List.of_mem_zip h1).1
        obtain ⟨k', h4, h5⟩ := List.mem_map.mp h3
        simp only [decide_eq_true_eq] at h2
        rw [← h5] at h2
        have : k' = k := by simpa using h2
        exact hc.1 (this ▸ h4)
    rw [hst] at dm₃
    have rr : AcRep C h₃ W ρ D (.dict (ks ++ [k]) (vs ++ [v])) := ⟨ys ++ [vv], dm₃, Reps.mono keepW (fun _ q => .inl q) (fun _ _ e => e) _ _ (Reps.append rs (Reps.cons r₂ Reps.nil)), by simp [hl]⟩
    exact hQ W h₃ _ (I₂.put keep rr) ⟨fun b x h1 _ e => keep b x (fun q => h1 (by simp at q; simp [q])) (k₂ _ _ (k₁ b x e)), fun _ q => q, fun _ q => .inl q, [], by simp, by simp⟩
theorem newDict_acc {A : Around} {s : Shared} {Q : Value → Shared → Prop} {E : Value → Shared → Prop} (h : ∀ D h' tk, Kp s.heap h' → s.heap.get? D = none → (∀ W ρ, AcRep C h' W ρ D (.dict [] [])) → Q (.ref D) { s with heap := h', toks := tk }) :
    wpAny (model C.prog C.w) A newDict Q E s :=
  wpAny_newObj_type (h s.heap.objs.size _ s.toks (Kp.push _ _) (Heap.get?_size _) fun W ρ => ⟨[], Heap.DictOf.new _, rfl, rfl⟩)
theorem ev_dictcomp {kx vx tg iter : Expr} {ifs : List Expr} {scope : Scope} {pos : Pos} {ks : List Nat} {sc' : List (Str × NameKind)} {vt' : VT} {mp : List (Option Nat)} {fg : Fm → Sto → Option (List (List AV))} {fi : ST} {fk fv : SE}
    (cp : CpOk scope sc vt sc' vt' mp) (hs : ∀ env x, foldedSetIterable iter env x = pure x) (hi : ItT C d sc vt tg iter fg) (t : Tg sc' vt' tg ks) (hifs : IfsT C d sc' vt' ifs fi) (hk : EvT C d sc' vt' kx fk) (hv : EvT C d sc' vt' vx fv) :
    EvT C d sc vt (.DictComp kx vx [⟨tg, iter, ifs, 0⟩] scope pos) (fun fm st => (fg fm st).bind fun ls => (loopSem ks fi (fun fm st ac => match ac with
    | .dict ks vs => (fk fm st).bind fun k => (fv fm st).bind fun v => match k with
      | .str k => if !ks.contains k && decide (ks.length ≤ 4096) then some (fm, .dict (ks ++ [k]) (vs ++ [v])) else none
      | _ => none
    | _ => none) st ls (fm0 mp fm) (.dict [] [])).map fun r => acAV r.2) := by
  intro A env own W ρ fm sto s av Q E G S I hf hQ
  obtain ⟨ls, hls, hf1⟩ := Option.bind_eq_some_iff.mp hf
  obtain ⟨⟨fm', ac'⟩, hl, rfl⟩ := Option.map_eq_some_iff.mp hf1
  rw [arm_eval_DictComp]
  exact comp_sound (ac0 := .dict [] []) (m := emitD kx vx) rfl hs cp.kind cp.names cp.free cp.sc cp.ck cp.nd hi t hifs (bd_emitD hk hv) (fun it D env => ⟨_, compTurn_dict kx vx tg iter ifs scope pos it D env⟩) (fun _ _ _ _ => rfl) (fun _ _ _ => rfl)
    (fun h0 h => codeAny_compStart_dict h0 h) newDict_acc rfl G S I hls hl (done_none I hQ)
end
section
variable {C : Cx} {d : Nat} {sc : List (Str × NameKind)} {vt : VT}
theorem sm_dictcomp {kx vx tg iter : Expr} {ifs : List Expr} {scope : Scope} {pos p pp : Pos} {ks : List Nat} {sc' : List (Str × NameKind)} {vt' : VT} {mp : List (Option Nat)} {fg : Fm → Sto → Option (List (List AV))} {fi : ST} {fk fv : SE}
    (k : Nat) {x : Str} (nm : NmOk sc vt k x) (hsw : ∀ env, Stat sc env → swapsWith (.DictComp kx vx [⟨tg, iter, ifs, 0⟩] scope pos) (some (.Name x p)) pp.line env = pure true)
    (cp : CpOk scope sc vt sc' vt' mp) (hs : ∀ env x, foldedSetIterable iter env x = pure x) (hi : ItT C d sc vt tg iter fg) (t : Tg sc' vt' tg ks) (hifs : IfsT C d sc' vt' ifs fi) (hk : EvT C d sc' vt' kx fk) (hv : EvT C d sc' vt' vx fv) :
    SmT C d sc vt (.Assign [.Name x p] (.DictComp kx vx [⟨tg, iter, ifs, 0⟩] scope pos) pp) (fun fm st => (fg fm st).bind fun ls => (loopSem ks fi (fun fm st ac => match ac with
    | .dict ks vs => (fk fm st).bind fun k => (fv fm st).bind fun v => match k with
      | .str k => if !ks.contains k && decide (ks.length ≤ 4096) then some (fm, .dict (ks ++ [k]) (vs ++ [v])) else none
      | _ => none
    | _ => none) st ls (fm0 mp fm) (.dict [] [])).map fun r => (.next, fset fm k (acAV r.2), st)) := by
  intro A env own W ρ fm sto s fl fm' sto' Q E G S I hf hQ
  obtain ⟨ls, hls, hf1⟩ := Option.bind_eq_some_iff.mp hf
  obtain ⟨⟨fm', ac'⟩, hl, e⟩ := Option.map_eq_some_iff.mp hf1
  cases e
  rw [exec_Assign_Name_used _ _ _ _ (hsw env S)]
  refine wpAny_bind (wpAny_standAt (wpAny_bind ?_))
  show wpAny _ A (do let _ ← comprehension (.DictComp kx vx [⟨tg, iter, ifs, 0⟩] scope pos) scope env _ newDict false (eval iter env) (some (assign (.Name x p) env))) _ _ s
  refine wpAny_bind (wpAny_mono (comp_sound (Q := fun _ s' => Q .next s') (ac0 := .dict [] []) (m := emitD kx vx) rfl hs cp.kind cp.names cp.free cp.sc cp.ck cp.nd hi t hifs (bd_emitD hk hv) (fun it D env => ⟨_, compTurn_dict kx vx tg iter ifs scope pos it D env⟩) (fun _ _ _ _ => rfl) (fun _ _ _ => rfl)
    (fun h0 h => codeAny_compStart_dict h0 h) newDict_acc rfl G S I hls hl (done_use nm S I fun h' tk W' I' st => hQ _ W' ρ h' tk I' rfl st)) (fun _ s' hq => wpAny_pure (wpAny_pure hq)) fun _ _ e => e)
theorem sw_trueD {kx vx : Expr} {gs : List Comprehension} {scope : Scope} {pos p : Pos} {x : Str} {l : Nat} {env : Env} (S : Stat sc env) (hx : sc.lookup x = some .local) (hp : (p.line == pos.line) = true) (hn : (scope.names.any fun (n, k) => n == x && (k == .local || k == .cell)) = false) :
    swapsWith (.DictComp kx vx gs scope pos) (some (.Name x p)) l env = pure true := by
  have hb : env.blockKind = .function := by unfold Env.blockKind; rw [S.kind]; rfl
  show (pure (env.blockKind == .function && env.kindOf x == some .local && p.line == pos.line && !(scope.names.any fun (n, k) => n == x && (k == .local || k == .cell))) : Sem Bool) = pure true
  rw [hb, S.kindOf hx, hp, hn]; rfl
end
section
local macro_rules | `(tactic| o_head $_) => `(tactic| assumption)
theorem getK (h : (OpenLaw.row PySem.Challenge.rw_wj0078_01).Holds) : (OpenLaw.row PySem.Challenge.rw_wj0078_01).Holds := by k_head
end
noncomputable section
noncomputable def bodyAt (l : List Stmt) : List Nat → List Stmt
  | [] => []
  | i :: r => (l.drop i).take 1 ++ bodyAt l r
abbrev pp : Program := PySem.Challenge.pw_wj0078_01
noncomputable def qq : Program := { pp with main := { pp.main with body := bodyAt pp.main.body [0, 25] } }
noncomputable def lo : List Str := ["_wall", "Int2AP", "eq", "gt", "lshift", "iadd", "Whitespace", "_name_disallowed_re", "_value_disallowed_re", "Headers", "_law_cells", "_law_leads", "_law_table", "_law_orders", "_law_word", "_law_lengths", "_law_column", "_law_due", "_law_holds"]
noncomputable def asK : List Nat := [2, 3, 32, 34, 35, 37, 38, 39, 41, 42, 44, 45, 46, 48, 49, 51, 52, 53, 55, 56, 58, 59, 60, 62, 63, 65, 66, 67, 69, 70, 72, 73, 84, 86, 87, 89, 90, 91, 93, 94, 96, 97, 98, 100, 101, 103, 104, 105, 107, 108, 110, 111, 112, 114, 115, 117, 118, 119, 121, 122, 124, 125, 126, 128, 129, 131, 132, 133, 134, 135, 136, 137, 143, 144, 148, 149, 157, 158, 160, 161, 163, 164, 165, 167, 168, 170, 171, 172, 174, 175, 177, 178, 179, 181, 182, 184, 185, 186, 189, 190, 191, 193, 194, 196, 197, 198, 200, 201, 203, 204, 205, 208, 209, 210, 211, 213, 214, 216, 217, 218, 221, 222, 223, 226, 227, 228, 230, 231, 233, 234, 235, 237, 238, 240, 241, 242, 245, 246, 247, 249, 250, 252, 253, 254, 256, 257, 259, 260, 261, 263, 264, 266, 267, 268, 269, 270, 271, 272, 275, 277, 278, 280, 281, 282, 284, 285, 287, 288, 289, 292, 293, 294, 297, 298, 299, 302, 303, 304, 307, 308, 309, 311, 312, 314, 315, 316, 319, 320, 321, 323, 324, 326, 327, 328, 331, 332]
theorem asK_eq (P : Params) : asK = (getK.heap_1 P).map (·.1) := by kernel_rfl
noncomputable abbrev HH : Hook := kHook getK.heap_1 asK asK_eq
noncomputable abbrev xt : Shared → Bool := fun s => xlAt qq [] s && recOk (RowW.records (OpenRow.toRowW (OpenLaw.row PySem.Challenge.rw_wj0078_01))) s
theorem left_f (w : World) : (openEnds treeTable pp (w.withFollow "special-get-raises" false) 4000).map (fun s => (openSeen qq lo (importedModules pp.main.body) xt true s, HH.obs s)) = some (openGood qq lo, HH.val (w.withFollow "special-get-raises" false)) := by
  delta openEnds fencedOpening topFrom
  rw [PySem.W.Fast.te10274390034422433532, PySem.W.Fast.te14289696077712309145, PySem.W.Fast.te14082659384304107361, PySem.W.Fast.te14364793385576792824, PySem.W.Fast.te1435165496053646825]
  kernel_rfl
theorem left_t (w : World) : (openEnds treeTable pp (w.withFollow "special-get-raises" true) 4000).map (fun s => (openSeen qq lo (importedModules pp.main.body) xt true s, HH.obs s)) = some (openGood qq lo, HH.val (w.withFollow "special-get-raises" true)) := by
  delta openEnds fencedOpening topFrom
  rw [PySem.W.Fast.te10274390034422433532, PySem.W.Fast.te14289696077712309145, PySem.W.Fast.te14082659384304107361, PySem.W.Fast.te14364793385576792824, PySem.W.Fast.te1435165496053646825]
  kernel_rfl
theorem left_all : LeftO pp qq lo xt HH.obs HH.val 4000 := fun w => byRow2 "special-get-raises" (P := fun w => (openEnds treeTable pp w 4000).map (fun s => (openSeen qq lo (importedModules pp.main.body) xt true s, HH.obs s)) = some (openGood qq lo, HH.val w)) left_f left_t w
end
noncomputable def dlaw : DefRec := ((defOf qq "law").get (by decide +kernel)).1
theorem dlaw_eq : defOf qq "law" = some (dlaw, []) := by kernel_rfl
abbrev rl : OpenRow := OpenLaw.row PySem.Challenge.rw_wj0078_01
theorem said_law : PySem.Challenge.rw_wj0078_01.wellSaid = true := by rw [PySem.W.Fast.te9446332074065402090]; kernel_rfl
theorem head (walk : WalkO qq lo (XL qq []) HH.says rl.toRowW dlaw [] fun f vs => PySem.call f vs) : PySem.Challenge.rw_wj0078_01.Holds := by
  w_on
  refine holds_law said_law fun said => ?_
  refine holds_open (r := rl) (q := qq) (loose := lo) (Xt := xt) (XP := XL qq []) (Yf := HH.obs) (Ya := HH.val) (YP := HH.says) (N := 4000) left_all HH.of HH.keeps (fun s e => xl_of s (Bool.and_eq_true_iff.mp e).1) XL.keeps dlaw_eq (by kernel_rfl) (by kernel_rfl) (fun s e => recFacts_of (Bool.and_eq_true_iff.mp e).2) (by kernel_rfl) (by first | assumption | decide +kernel) (by decide +kernel) ⟨rfl, rfl, rfl, rfl, rfl, by decide +kernel⟩ ?hw walk
  w_witness2
@[irreducible] noncomputable def oA (P : Params) (a : Nat) : Obj := ((getK.heap_1 P).lookup a).getD { cls := .none, data := .plain }
noncomputable def fdO (o : Obj) : FuncData := match o.data with
  | .func fd => fd
  | _ => default
noncomputable def stB : Stmt → List Stmt
  | .FunctionDef _ _ b _ _ _ _ _ _ _ => b
  | .ClassDef _ _ _ b _ _ _ _ _ _ _ => b
  | _ => []
noncomputable def nthB : List Stmt → Nat → List Stmt
  | [], _ => []
  | s :: _, 0 => stB s
  | _ :: l, n + 1 => nthB l n
noncomputable def stA : Stmt → Arguments
  | .FunctionDef _ a _ _ _ _ _ _ _ _ => a
  | _ => default
noncomputable def nthA : List Stmt → Nat → Arguments
  | [], _ => default
  | s :: _, 0 => stA s
  | _ :: l, n + 1 => nthA l n
noncomputable def stN : List Stmt → Nat → Stmt
  | [], _ => .Return none default
  | s :: _, 0 => s
  | _ :: l, n + 1 => stN l n
noncomputable def forB : Stmt → List Stmt
  | .For _ _ b _ _ => b
  | _ => []
noncomputable def exN : List Expr → Nat → Expr
  | [], _ => .Tuple [] 0 default
  | s :: _, 0 => s
  | _ :: l, n + 1 => exN l n
noncomputable def valOf : Stmt → Expr
  | .Assign _ v _ => v
  | .Return (some v) _ => v
  | _ => .Tuple [] 0 default
noncomputable def argN : Expr → Nat → Expr
  | .Call _ l _ _, n => exN l n
  | e, _ => e
noncomputable def andN : Expr → Nat → Expr
  | .BoolOp _ l _, n => exN l n
  | e, _ => e
noncomputable def cmpR : Expr → Expr
  | .Compare _ _ l _ => exN l 0
  | e => e
noncomputable def bT (i : Nat) : List Stmt := nthB pp.main.body i
noncomputable def bM (c i : Nat) : List Stmt := nthB (bT c) i
abbrev HC (C : Cx) : Prop := C.K = getK.heap_1 C.w.params
theorem Good.le {d d' : Nat} {A : Around} (h : d ≤ d') (G : Good d' A) : Good d A := ⟨G.h, by have := G.dep; omega, by have := G.un; omega⟩
theorem FnT.up {C : Cx} {d d' : Nat} {fv : Value} {g : Sto → List AV → Option AV} (h : d ≤ d') (x : FnT C d fv g) : FnT C d' fv g := fun G I a b c => x (G.le h) I a b c

theorem EvT.up {C : Cx} {d d' : Nat} {sc : List (Str × NameKind)} {vt : VT} {e : Expr} {f : SE} (h : d ≤ d') (x : EvT C d sc vt e f) : EvT C d' sc vt e f := fun G S I a b => x (G.le h) S I a b
theorem ExT.up {C : Cx} {d d' : Nat} {sc : List (Str × NameKind)} {vt : VT} {e : List Stmt} {f : SX} (h : d ≤ d') (x : ExT C d sc vt e f) : ExT C d' sc vt e f := fun G S I a b => x (G.le h) S I a b
theorem len2 {α : Type} {l : List α} (h : l.length = 2) : ∃ a b, l = [a, b] := by
  obtain ⟨a, l, rfl⟩ := List.exists_cons_of_length_eq_add_one h
  obtain ⟨b, rfl⟩ := List.length_eq_one_iff.mp (Nat.succ.inj h)
  exact ⟨a, b, rfl⟩
theorem len3 {α : Type} {l : List α} (h : l.length = 3) : ∃ a b c, l = [a, b, c] := by
  obtain ⟨a, l, rfl⟩ := List.exists_cons_of_length_eq_add_one h
  obtain ⟨b, c, rfl⟩ := len2 (Nat.succ.inj h)
  exact ⟨a, b, c, rfl⟩
theorem bp1 {C : Cx} {fd : FuncData} {vt : VT} (h : ∀ a, bindArgs fd ⟨[a], []⟩ = pure (((vt.take 1).map (·.1)).zip [a])) :
    ∀ (s : Shared) (vs : List Value), C.K.In s.heap → vs.length = 1 → BindsTo s fd ⟨vs, []⟩ (((vt.take (1 + 0)).map (·.1)).zip (vs ++ List.replicate 0 .none)) :=
  fun s vs _ hl => by obtain ⟨a, rfl⟩ := List.length_eq_one_iff.mp hl; exact BindsTo.of_eq (h a)
theorem bp2 {C : Cx} {fd : FuncData} {vt : VT} (h : ∀ a b, bindArgs fd ⟨[a, b], []⟩ = pure (((vt.take 2).map (·.1)).zip [a, b])) :
    ∀ (s : Shared) (vs : List Value), C.K.In s.heap → vs.length = 2 → BindsTo s fd ⟨vs, []⟩ (((vt.take (2 + 0)).map (·.1)).zip (vs ++ List.replicate 0 .none)) :=
  fun s vs _ hl => by obtain ⟨a, b, rfl⟩ := len2 hl; exact BindsTo.of_eq (h a b)
theorem bc1 {C : Cx} {fd : FuncData} {vt : VT} (h : ∀ a b, bindArgs fd ⟨[a, b], []⟩ = pure (((vt.take 2).map (·.1)).zip [a, b])) :
    ∀ (s : Shared) (vs : List Value), C.K.In s.heap → vs.length = 1 + 1 → BindsTo s fd ⟨vs, []⟩ (((vt.take (1 + 1 + 0)).map (·.1)).zip (vs ++ List.replicate 0 .none)) :=
  fun s vs _ hl => by obtain ⟨a, b, rfl⟩ := len2 hl; exact BindsTo.of_eq (h a b)
theorem bp3 {C : Cx} {fd : FuncData} {vt : VT} (h : ∀ a b c, bindArgs fd ⟨[a, b, c], []⟩ = pure (((vt.take 3).map (·.1)).zip [a, b, c])) :
    ∀ (s : Shared) (vs : List Value), C.K.In s.heap → vs.length = 3 → BindsTo s fd ⟨vs, []⟩ (((vt.take 3).map (·.1)).zip vs) :=
  fun s vs _ hl => by obtain ⟨a, b, c, rfl⟩ := len3 hl; exact BindsTo.of_eq (h a b c)
theorem bp3z {C : Cx} {fd : FuncData} {vt : VT} (h : ∀ a b c, bindArgs fd ⟨[a, b, c], []⟩ = pure (((vt.take 3).map (·.1)).zip [a, b, c])) :
    ∀ (s : Shared) (vs : List Value), C.K.In s.heap → vs.length = 3 → BindsTo s fd ⟨vs, []⟩ (((vt.take (3 + 0)).map (·.1)).zip (vs ++ List.replicate 0 .none)) :=
  fun s vs _ hl => by obtain ⟨a, b, c, rfl⟩ := len3 hl; exact BindsTo.of_eq (h a b c)
theorem bdf {s : Shared} {C : Cx} {fd : FuncData} {ps : Arguments} {args : Args} {binds : List (Str × Value)} {T : Addr} (X : C.K.In s.heap) (hp : fd.params = ps) (hd : fd.defaults = .ref T) (ho : C.K.lookup T = some { cls := .type "tuple", data := .seq #[.none] })
    (h : ∃ k, bindArgs { fd with params := ps } args = seqItems? fd.defaults >>= k ∧ k (some #[.none]) = pure binds) : BindsTo s fd args binds := by
  obtain ⟨k, h1, h2⟩ := h
  subst hp
  exact BindsTo.of_defaults hd (X _ _ ho) rfl h1 h2
theorem bpd2 {C : Cx} {fd : FuncData} {ps : Arguments} {vt : VT} {T : Addr} (hp : fd.params = ps) (hd : fd.defaults = .ref T) (ho : C.K.lookup T = some { cls := .type "tuple", data := .seq #[.none] })
    (h : ∀ a b, ∃ k, bindArgs { fd with params := ps } ⟨[a, b], []⟩ = seqItems? fd.defaults >>= k ∧ k (some #[.none]) = pure (((vt.take 3).map (·.1)).zip [a, b, .none])) :
    ∀ (s : Shared) (vs : List Value), C.K.In s.heap → vs.length = 2 → BindsTo s fd ⟨vs, []⟩ (((vt.take (2 + 1)).map (·.1)).zip (vs ++ List.replicate 1 .none)) :=
  fun s vs X hl => by obtain ⟨a, b, rfl⟩ := len2 hl; exact bdf X hp hd ho (h a b)
theorem bcd0 {C : Cx} {fd : FuncData} {ps : Arguments} {vt : VT} {T : Addr} (hp : fd.params = ps) (hd : fd.defaults = .ref T) (ho : C.K.lookup T = some { cls := .type "tuple", data := .seq #[.none] })
    (h : ∀ a, ∃ k, bindArgs { fd with params := ps } ⟨[a], []⟩ = seqItems? fd.defaults >>= k ∧ k (some #[.none]) = pure (((vt.take 2).map (·.1)).zip [a, .none])) :
    ∀ (s : Shared) (vs : List Value), C.K.In s.heap → vs.length = 1 + 0 → BindsTo s fd ⟨vs, []⟩ (((vt.take (1 + 0 + 1)).map (·.1)).zip (vs ++ List.replicate 1 .none)) :=
  fun s vs X hl => by obtain ⟨a, rfl⟩ := List.length_eq_one_iff.mp hl; exact bdf X hp hd ho (h a)
section
variable {C : Cx} {d : Nat} {sc : List (Str × NameKind)} {vt : VT}
theorem ev_neg {e : Expr} {pos : Pos} {f : SE} (h : EvT C d sc vt e f) : EvT C d sc vt (.UnaryOp .USub e pos) (fun fm st => (f fm st).bind fun a => match a with
    | .int i => some (.int (-i))
    | _ => none) := by
  intro A env own W ρ fm sto s av Q E G S I hf hQ
  obtain ⟨a, ha, hf1⟩ := Option.bind_eq_some_iff.mp hf
  split at hf1
  case h_2 => cases hf1
  simp only [Option.some.injEq] at hf1; subst hf1
  refine wpAny_UnaryOp (h G S I ha fun v h₁ t₁ k₁ r₁ => ?_)
  obtain ⟨t, rfl⟩ := r₁
  exact PyProof.Rows.neg_int (s := { s with heap := h₁, toks := t₁ }) (hQ _ h₁ _ k₁ ⟨_, rfl⟩)
theorem cpk {scope : Scope} {sc : List (Str × NameKind)} {vt : VT} (vt' : VT) (mp : List (Option Nat)) (h : cpOk scope sc vt (relabelN scope.names sc) vt' mp = true) : CpOk scope sc vt (relabelN scope.names sc) vt' mp := cpOk_iff h
theorem Good.in1 {A : Around} (G : Good (d + 1) A) : Good d A.in1 := ⟨G.h, by have := G.dep; show A.depth + 4 * d + 4 ≤ 900; omega, by have := G.un; show A.units + 1 + 40 * d + 60 ≤ 9000; omega⟩
noncomputable def lenI (c : Nat) (g : Sto → List AV → Option AV) (sto : Sto) : List AV → Option AV
  | [a] => match a with
    | .inst c' ns fs => if c' == c then (g sto [a]).bind fun r => match r with
      | .int n => if decide (0 ≤ n) && decide (n ≤ 4096) then some (.int n) else none
      | _ => none
      else none
    | _ => lenAV sto [a]
  | l => lenAV sto l
theorem fn_lenI {c f : Nat} {g : Sto → List AV → Option AV} (hs : findIn C.K (.ref c) "__len__" = some (some (.ref f))) (hf : isFn C.K (.ref f) = true) (fn : FnT C d (.ref f) g) : FnT C (d + 1) (.builtin "len") (lenI c g) := by
  intro A W ρ sto s vs avs r Q E G I hg rr hQ
  unfold lenI at hg
  split at hg
  · rename_i a
    split at hg
    · rename_i c' ns fs
      split at hg
      case isFalse => cases hg
      rename_i hc
      have hc : c' = c := by simpa using hc
      subst hc
      obtain ⟨r', hr, hg1⟩ := Option.bind_eq_some_iff.mp hg
      split at hg1
      case h_2 => cases hg1
      rename_i n
      split at hg1
      case isFalse => cases hg1
      rename_i hn
      simp only [Bool.and_eq_true, decide_eq_true_eq] at hn
      simp only [Option.some.injEq] at hg1; subst hg1
      have ok : C.Ok s.heap := I.base.1.keep I.base.2.1
      obtain ⟨v, r'', rfl, r1, r2⟩ := rr
      obtain rfl : r'' = [] := r2
      obtain ⟨x, dx, ws, rfl, ii, rf⟩ := cls_sound I.st (a := .inst c' ns fs) rfl r1
      obtain ⟨es, m, ia, kk⟩ := instAt_of ii
      refine Calls.call_function_entry kind_len plain_len entry_len (args_len1 _) ?_
      unfold Builtin.«len»
      refine wpAny_bind (m := oneArg "len" _) (wpAny_pure ?_)
      refine wpAny_bind (m := callSpecial? (.ref x) (Str.ofString "__len__")) (special_fn ok.k ia hs (beq_iff_eq.mp hf) ?_)
      refine fn G.in1 I hr (Reps.cons r1 Reps.nil) fun v h' tk k rv => ?_
      obtain ⟨t, rfl⟩ := rv
      refine wpAny_bind (wpAny_holding (wpAny_pure ?_))
      refine wpAny_bind (wpAny_letGo ?_)
      show wpAny _ _ (if n < 0 then _ else _) _ _ _
      rw [if_neg (by omega)]
      show wpAny _ _ (if n ≥ 2 ^ 63 then _ else _) _ _ _
      rw [if_neg (by omega)]
      exact wpAny_bind (wpAny_mkInt (wpAny_pure ⟨_, rfl, hQ _ h' _ k ⟨_, rfl⟩⟩))
    · exact fn_len (Good.le (Nat.le_succ _) G) I hg rr hQ
  · exact fn_len (Good.le (Nat.le_succ _) G) I hg rr hQ
end
noncomputable def sc_52 : List (Str × NameKind) := [("a", .local), ("b", .local)]
noncomputable def vt_52 : VT := [("a", .loc), ("b", .loc)]
theorem is_52 {C : Cx} (hC : HC C) : FnIs C 52 (fdO (oA C.w.params 52)) (bT 5) sc_52 vt_52 :=
  ⟨⟨(oA C.w.params 52), (by rw [hC]; kernel_rfl), (by kernel_rfl)⟩, (by rw [hC]; kernel_rfl), (by kernel_rfl), (by kernel_rfl), (by kernel_rfl), (by kernel_rfl), (by kernel_rfl), (by kernel_rfl), (by kernel_rfl), (by kernel_rfl), (by kernel_rfl)⟩
noncomputable def D_52 : { f : SX // ∀ {C : Cx}, HC C → ExT C 0 sc_52 vt_52 (bT 5) f } :=
  ⟨_, fun {C} hC => (ex_cons (sm_ret (ev_cmp (ev_loc 0 rfl (by kernel_rfl) (by kernel_rfl)) (ev_loc 1 rfl (by kernel_rfl) (by kernel_rfl)) rfl)) ex_nil)⟩
theorem F_52 {C : Cx} (hC : HC C) : FnT C 1 (.ref 52) (fnSem 2 0 vt_52 D_52.1) :=
  fn_pure 2 0 (is_52 hC) (D_52.2 hC) (by decide) (bp2 fun a b => by kernel_rfl)
noncomputable def sc_59 : List (Str × NameKind) := [("a", .local), ("b", .local)]
noncomputable def vt_59 : VT := [("a", .loc), ("b", .loc)]
theorem is_59 {C : Cx} (hC : HC C) : FnIs C 59 (fdO (oA C.w.params 59)) (bT 6) sc_59 vt_59 :=
  ⟨⟨(oA C.w.params 59), (by rw [hC]; kernel_rfl), (by kernel_rfl)⟩, (by rw [hC]; kernel_rfl), (by kernel_rfl), (by kernel_rfl), (by kernel_rfl), (by kernel_rfl), (by kernel_rfl), (by kernel_rfl), (by kernel_rfl), (by kernel_rfl), (by kernel_rfl)⟩
noncomputable def D_59 : { f : SX // ∀ {C : Cx}, HC C → ExT C 0 sc_59 vt_59 (bT 6) f } :=
  ⟨_, fun {C} hC => (ex_cons (sm_ret (ev_cmp (ev_loc 0 rfl (by kernel_rfl) (by kernel_rfl)) (ev_loc 1 rfl (by kernel_rfl) (by kernel_rfl)) rfl)) ex_nil)⟩
theorem F_59 {C : Cx} (hC : HC C) : FnT C 1 (.ref 59) (fnSem 2 0 vt_59 D_59.1) :=
  fn_pure 2 0 (is_59 hC) (D_59.2 hC) (by decide) (bp2 fun a b => by kernel_rfl)
noncomputable def sc_66 : List (Str × NameKind) := [("a", .local), ("b", .local)]
noncomputable def vt_66 : VT := [("a", .loc), ("b", .loc)]
theorem is_66 {C : Cx} (hC : HC C) : FnIs C 66 (fdO (oA C.w.params 66)) (bT 7) sc_66 vt_66 :=
  ⟨⟨(oA C.w.params 66), (by rw [hC]; kernel_rfl), (by kernel_rfl)⟩, (by rw [hC]; kernel_rfl), (by kernel_rfl), (by kernel_rfl), (by kernel_rfl), (by kernel_rfl), (by kernel_rfl), (by kernel_rfl), (by kernel_rfl), (by kernel_rfl), (by kernel_rfl)⟩
noncomputable def D_66 : { f : SX // ∀ {C : Cx}, HC C → ExT C 0 sc_66 vt_66 (bT 7) f } :=
  ⟨_, fun {C} hC => (ex_cons (sm_ret (ev_bin (ev_loc 0 rfl (by kernel_rfl) (by kernel_rfl)) (ev_loc 1 rfl (by kernel_rfl) (by kernel_rfl)))) ex_nil)⟩
theorem F_66 {C : Cx} (hC : HC C) : FnT C 1 (.ref 66) (fnSem 2 0 vt_66 D_66.1) :=
  fn_pure 2 0 (is_66 hC) (D_66.2 hC) (by decide) (bp2 fun a b => by kernel_rfl)
noncomputable def sc_73 : List (Str × NameKind) := [("a", .local), ("b", .local)]
noncomputable def vt_73 : VT := [("a", .loc), ("b", .loc)]
theorem is_73 {C : Cx} (hC : HC C) : FnIs C 73 (fdO (oA C.w.params 73)) (bT 8) sc_73 vt_73 :=
  ⟨⟨(oA C.w.params 73), (by rw [hC]; kernel_rfl), (by kernel_rfl)⟩, (by rw [hC]; kernel_rfl), (by kernel_rfl), (by kernel_rfl), (by kernel_rfl), (by kernel_rfl), (by kernel_rfl), (by kernel_rfl), (by kernel_rfl), (by kernel_rfl), (by kernel_rfl)⟩
noncomputable def D_73 : { f : SX // ∀ {C : Cx}, HC C → ExT C 0 sc_73 vt_73 (bT 8) f } :=
  ⟨_, fun {C} hC => (ex_cons (sm_aug 0 rfl (by kernel_rfl) (ev_loc 1 rfl (by kernel_rfl) (by kernel_rfl))) (ex_cons (sm_ret (ev_loc 0 rfl (by kernel_rfl) (by kernel_rfl))) ex_nil))⟩
theorem F_73 {C : Cx} (hC : HC C) : FnT C 1 (.ref 73) (fnSem 2 0 vt_73 D_73.1) :=
  fn_pure 2 0 (is_73 hC) (D_73.2 hC) (by decide) (bp2 fun a b => by kernel_rfl)
noncomputable def sc_45 : List (Str × NameKind) := [("num", .local), ("val", .local), ("AP", .local), ("mod", .local), ("int", .globalImplicit), ("abs", .globalImplicit), ("divmod", .globalImplicit)]
noncomputable def vt_45 : VT := [("num", .loc), ("val", .loc), ("AP", .loc), ("mod", .loc)]
theorem is_45 {C : Cx} (hC : HC C) : FnIs C 45 (fdO (oA C.w.params 45)) (bT 3) sc_45 vt_45 :=
  ⟨⟨(oA C.w.params 45), (by rw [hC]; kernel_rfl), (by kernel_rfl)⟩, (by rw [hC]; kernel_rfl), (by kernel_rfl), (by kernel_rfl), (by kernel_rfl), (by kernel_rfl), (by kernel_rfl), (by kernel_rfl), (by kernel_rfl), (by kernel_rfl), (by kernel_rfl)⟩
noncomputable def D_45 : { f : SX // ∀ {C : Cx}, HC C → ExT C 0 sc_45 vt_45 (bT 3) f } :=
  ⟨_, fun {C} hC => (ex_cons (sm_assign 1 (.inl ⟨rfl, (by kernel_rfl)⟩) ev_bytes (fun _ _ => rfl)) (ex_cons (sm_assign 2 (.inl ⟨rfl, (by kernel_rfl)⟩) ev_bytes (fun _ _ => rfl)) (ex_cons (sm_assign 0 (.inl ⟨rfl, (by kernel_rfl)⟩) (ev_call (ev_builtin (v := .type "int") (by rw [hC]; kernel_rfl) (by kernel_rfl) (by decide) (by kernel_rfl) (by kernel_rfl)) (evs_cons (ev_call (ev_builtin (v := .builtin "abs") (by rw [hC]; kernel_rfl) (by kernel_rfl) (by decide) (by kernel_rfl) (by kernel_rfl)) (evs_cons (ev_loc 0 rfl (by kernel_rfl) (by kernel_rfl)) evs_nil (fun _ => rfl)) (.inr (.inr ⟨_, rfl⟩)) fn_abs (fun _ => rfl) (fun _ => rfl)) evs_nil (fun _ => rfl)) (.inr (.inl ⟨_, rfl⟩)) fn_int (fun _ => rfl) (fun _ => rfl)) (fun _ _ => rfl)) (ex_cons (sm_while 4096 (ts_val (ev_loc 0 rfl (by kernel_rfl) (by kernel_rfl)) (fun _ => rfl)) (ex_cons (sm_pair (k := 0) (l := 3) (.two 0 3 _ _ _ _ _ _ (.inl ⟨rfl, (by kernel_rfl)⟩) (.inl ⟨rfl, (by kernel_rfl)⟩)) ⟨_, _, _, rfl⟩ (ev_call (ev_builtin (v := .builtin "divmod") (by rw [hC]; kernel_rfl) (by kernel_rfl) (by decide) (by kernel_rfl) (by kernel_rfl)) (evs_cons (ev_loc 0 rfl (by kernel_rfl) (by kernel_rfl)) (evs_cons ev_int evs_nil (fun _ => rfl)) (fun _ => rfl)) (.inr (.inr ⟨_, rfl⟩)) fn_divmod (fun _ => rfl) (fun _ => rfl)) (fun _ => rfl) (fun _ _ => rfl)) (ex_cons (sm_assign 1 (.inl ⟨rfl, (by kernel_rfl)⟩) (ev_bin (ev_slice (ev_loc 2 rfl (by kernel_rfl) (by kernel_rfl)) (pa_some (ev_loc 3 rfl (by kernel_rfl) (by kernel_rfl))) (pa_some (ev_bin (ev_loc 3 rfl (by kernel_rfl) (by kernel_rfl)) ev_int)) pa_none (fun _ _ => by first | exact .inl rfl | exact .inr rfl)) (ev_loc 1 rfl (by kernel_rfl) (by kernel_rfl))) (fun _ _ => rfl)) ex_nil))) (ex_cons (sm_ret (ev_loc 1 rfl (by kernel_rfl) (by kernel_rfl))) ex_nil)))))⟩
theorem F_45 {C : Cx} (hC : HC C) : FnT C 1 (.ref 45) (fnSem 1 0 vt_45 D_45.1) :=
  fn_pure 1 0 (is_45 hC) (D_45.2 hC) (by decide) (bp1 fun a => by kernel_rfl)
noncomputable def sc_315 : List (Str × NameKind) := [("lead", .local), ("size", .local), ("column", .local), ("sign", .local)]
noncomputable def vt_315 : VT := [("lead", .loc), ("size", .loc), ("column", .loc), ("sign", .loc)]
theorem is_315 {C : Cx} (hC : HC C) : FnIs C 315 (fdO (oA C.w.params 315)) (bT 22) sc_315 vt_315 :=
  ⟨⟨(oA C.w.params 315), (by rw [hC]; kernel_rfl), (by kernel_rfl)⟩, (by rw [hC]; kernel_rfl), (by kernel_rfl), (by kernel_rfl), (by kernel_rfl), (by kernel_rfl), (by kernel_rfl), (by kernel_rfl), (by kernel_rfl), (by kernel_rfl), (by kernel_rfl)⟩
noncomputable def D_315 : { f : SX // ∀ {C : Cx}, HC C → ExT C 0 sc_315 vt_315 (bT 22) f } :=
  ⟨_, fun {C} hC => (ex_cons (sm_assign 2 (.inl ⟨rfl, (by kernel_rfl)⟩) ev_int (fun _ _ => rfl)) (ex_cons (sm_for (.one 3 _ _ (.inl ⟨rfl, (by kernel_rfl)⟩)) (it_list (ev_loc 0 rfl (by kernel_rfl) (by kernel_rfl))) (ex_cons (sm_if (ts_cmp (ev_loc 3 rfl (by kernel_rfl) (by kernel_rfl)) (ev_str [9] (by kernel_rfl)) rfl) (ex_cons (sm_assign 2 (.inl ⟨rfl, (by kernel_rfl)⟩) (ev_bin (ev_bin (ev_bin (ev_loc 2 rfl (by kernel_rfl) (by kernel_rfl)) (ev_loc 1 rfl (by kernel_rfl) (by kernel_rfl))) (ev_loc 1 rfl (by kernel_rfl) (by kernel_rfl))) (ev_loc 1 rfl (by kernel_rfl) (by kernel_rfl))) (fun _ _ => rfl)) ex_nil) (ex_cons (sm_assign 2 (.inl ⟨rfl, (by kernel_rfl)⟩) (ev_bin (ev_loc 2 rfl (by kernel_rfl) (by kernel_rfl)) ev_int) (fun _ _ => rfl)) ex_nil)) ex_nil) (fun _ _ => rfl)) (ex_cons (sm_ret (ev_loc 2 rfl (by kernel_rfl) (by kernel_rfl))) ex_nil)))⟩
theorem F_315 {C : Cx} (hC : HC C) : FnT C 1 (.ref 315) (fnSem 2 0 vt_315 D_315.1) :=
  fn_pure 2 0 (is_315 hC) (D_315.2 hC) (by decide) (bp2 fun a b => by kernel_rfl)
theorem clsok_raw {C : Cx} (hC : HC C) : ClsOk C.K 135 "raw" := ⟨(by rw [hC]; kernel_rfl), (by rw [hC]; kernel_rfl), (by rw [hC]; kernel_rfl)⟩
theorem setok_raw {C : Cx} (hC : HC C) : SetOk C.K 135 "raw" := ⟨(by rw [hC]; kernel_rfl), (by rw [hC]; kernel_rfl), (by rw [hC]; kernel_rfl), (by rw [hC]; kernel_rfl)⟩
theorem clsok_n {C : Cx} (hC : HC C) : ClsOk C.K 135 "n" := ⟨(by rw [hC]; kernel_rfl), (by rw [hC]; kernel_rfl), (by rw [hC]; kernel_rfl)⟩
theorem setok_n {C : Cx} (hC : HC C) : SetOk C.K 135 "n" := ⟨(by rw [hC]; kernel_rfl), (by rw [hC]; kernel_rfl), (by rw [hC]; kernel_rfl), (by rw [hC]; kernel_rfl)⟩
theorem clsok_nt {C : Cx} (hC : HC C) : ClsOk C.K 135 "nt" := ⟨(by rw [hC]; kernel_rfl), (by rw [hC]; kernel_rfl), (by rw [hC]; kernel_rfl)⟩
theorem setok_nt {C : Cx} (hC : HC C) : SetOk C.K 135 "nt" := ⟨(by rw [hC]; kernel_rfl), (by rw [hC]; kernel_rfl), (by rw [hC]; kernel_rfl), (by rw [hC]; kernel_rfl)⟩
theorem clsok_norm {C : Cx} (hC : HC C) : ClsOk C.K 135 "norm" := ⟨(by rw [hC]; kernel_rfl), (by rw [hC]; kernel_rfl), (by rw [hC]; kernel_rfl)⟩
theorem setok_norm {C : Cx} (hC : HC C) : SetOk C.K 135 "norm" := ⟨(by rw [hC]; kernel_rfl), (by rw [hC]; kernel_rfl), (by rw [hC]; kernel_rfl), (by rw [hC]; kernel_rfl)⟩
theorem clsok_is_simple {C : Cx} (hC : HC C) : ClsOk C.K 135 "is_simple" := ⟨(by rw [hC]; kernel_rfl), (by rw [hC]; kernel_rfl), (by rw [hC]; kernel_rfl)⟩
theorem setok_is_simple {C : Cx} (hC : HC C) : SetOk C.K 135 "is_simple" := ⟨(by rw [hC]; kernel_rfl), (by rw [hC]; kernel_rfl), (by rw [hC]; kernel_rfl), (by rw [hC]; kernel_rfl)⟩
theorem clsok__headers {C : Cx} (hC : HC C) : ClsOk C.K 270 "_headers" := ⟨(by rw [hC]; kernel_rfl), (by rw [hC]; kernel_rfl), (by rw [hC]; kernel_rfl)⟩
theorem setok__headers {C : Cx} (hC : HC C) : SetOk C.K 270 "_headers" := ⟨(by rw [hC]; kernel_rfl), (by rw [hC]; kernel_rfl), (by rw [hC]; kernel_rfl), (by rw [hC]; kernel_rfl)⟩
theorem swap_two {sc : List (Str × NameKind)} {x y : Str} {p1 p2 p : Pos} {n : Nat} {vs : List Expr} {k : Nat} {q : Pos} {env : Env} (S : Stat sc env) (hx : sc.lookup x = some .local) (hy : sc.lookup y = some .local) (hl : vs.length = 2) (hs : (vs.any fun | .Starred .. => true | _ => false) = false)
    (hp : p1.line = p2.line) (hxy : (x == y) = false) (hf : vs.all (foldedForSure 8) = false) (hc : vs.all (constantsAlone 8) = false) :
    swappedStores [.Tuple [.Name x p1, .Name y p2] n p] (.Tuple vs k q) env = pure (some [x, y]) := by
  have hb : env.blockKind = .function := by unfold Env.blockKind; rw [S.kind]; rfl
  have hyx : (y == x) = false := by
    have : ¬ x = y := by simpa using hxy
    simpa using fun q => this q.symm
  have hne : [x, y].eraseDups.length = 2 := by simp [List.eraseDups, List.eraseDupsBy, List.eraseDupsBy.loop, hyx, hxy]
  unfold swappedStores
  simp [hb, hl, S.kindOf hx, S.kindOf hy, hp, hf, hc, hne, show (Expr.Name x p1).pos = p1 from rfl, show (Expr.Name y p2).pos = p2 from rfl]
  intro z hz h
  exfalso
  rw [List.any_eq_false] at hs
  exact hs z hz h
theorem sw_true {sc : List (Str × NameKind)} {elt : Expr} {gs : List Comprehension} {scope : Scope} {pos p : Pos} {x : Str} {l : Nat} {env : Env} (S : Stat sc env) (hx : sc.lookup x = some .local) (hp : (p.line == pos.line) = true) (hn : (scope.names.any fun (n, k) => n == x && (k == .local || k == .cell)) = false) :
    swapsWith (.ListComp elt gs scope pos) (some (.Name x p)) l env = pure true := by
  have hb : env.blockKind = .function := by unfold Env.blockKind; rw [S.kind]; rfl
  show (pure (env.blockKind == .function && env.kindOf x == some .local && p.line == pos.line && !(scope.names.any fun (n, k) => n == x && (k == .local || k == .cell))) : Sem Bool) = pure true
  rw [hb, S.kindOf hx, hp, hn]; rfl
theorem sw_false {sc : List (Str × NameKind)} {elt : Expr} {gs : List Comprehension} {scope : Scope} {pos p : Pos} {x : Str} {l : Nat} {env : Env} (S : Stat sc env) (hx : sc.lookup x = some .cell) :
    swapsWith (.ListComp elt gs scope pos) (some (.Name x p)) l env = pure false := by
  show (pure (env.blockKind == .function && env.kindOf x == some .local && p.line == pos.line && !(scope.names.any fun (n, k) => n == x && (k == .local || k == .cell))) : Sem Bool) = pure false
  rw [S.kindOf hx, show (some NameKind.cell == some NameKind.local) = false from rfl, Bool.and_false]; rfl
noncomputable def sc_90 : List (Str × NameKind) := [("self", .local), ("ws", .local), ("S", .local), ("T", .local), ("count", .local), ("b", .local), ("n", .local), ("nt", .local), ("ch", .local), ("Whitespace", .globalImplicit), ("len", .globalImplicit), ("tuple", .globalImplicit)]
noncomputable def vt_90 : VT := [("self", .loc), ("ws", .loc), ("S", .loc), ("T", .loc), ("count", .loc), ("b", .loc), ("n", .loc), ("nt", .loc), ("ch", .loc)]
theorem is_90 {C : Cx} (hC : HC C) : FnIs C 90 (fdO (oA C.w.params 90)) (bM 10 1) sc_90 vt_90 :=
  ⟨⟨(oA C.w.params 90), (by rw [hC]; kernel_rfl), (by kernel_rfl)⟩, (by rw [hC]; kernel_rfl), (by kernel_rfl), (by kernel_rfl), (by kernel_rfl), (by kernel_rfl), (by kernel_rfl), (by kernel_rfl), (by kernel_rfl), (by kernel_rfl), (by kernel_rfl)⟩
noncomputable def D_90 : { f : SX // ∀ {C : Cx}, HC C → ExT C 0 sc_90 vt_90 (bM 10 1) f } :=
  ⟨_, fun {C} hC => (ex_cons (sm_setattr 135 (ev_loc 0 rfl (by kernel_rfl) (by kernel_rfl)) (ev_loc 1 rfl (by kernel_rfl) (by kernel_rfl)) (setok_raw hC) (fun _ => rfl)) (ex_cons (sm_swap (k := 2) (l := 3) (.inl ⟨rfl, (by kernel_rfl)⟩) (.inl ⟨rfl, (by kernel_rfl)⟩) (ev_tuple (evs_cons (ev_clsattr (mc := .type "type") (v := .str " " 350) (av := .str [32]) (ev_glob (v := .ref 135) (by rw [hC]; kernel_rfl) (by kernel_rfl) (by kernel_rfl)) (by rw [hC]; kernel_rfl) (by rw [hC]; kernel_rfl) rfl (fun _ _ _ => ⟨350, by kernel_rfl⟩)) (evs_cons (ev_clsattr (mc := .type "type") (v := .str "\t" 351) (av := .str [9]) (ev_glob (v := .ref 135) (by rw [hC]; kernel_rfl) (by kernel_rfl) (by kernel_rfl)) (by rw [hC]; kernel_rfl) (by rw [hC]; kernel_rfl) rfl (fun _ _ _ => ⟨351, by kernel_rfl⟩)) evs_nil (fun _ => rfl)) (fun _ => rfl))) (fun _ => rfl) (fun env S => swap_two S (by kernel_rfl) (by kernel_rfl) (by kernel_rfl) (by kernel_rfl) (by kernel_rfl) (by kernel_rfl) (by kernel_rfl) (by kernel_rfl))) (ex_cons (sm_newlist 4 (.inl ⟨rfl, (by kernel_rfl)⟩) (evf_list evs_nil) (fun _ _ => rfl)) (ex_cons (sm_three (k := 5) (l := 6) (m := 7) (.inl ⟨rfl, (by kernel_rfl)⟩) (.inl ⟨rfl, (by kernel_rfl)⟩) (.inl ⟨rfl, (by kernel_rfl)⟩) ev_int (fun _ => rfl)) (ex_cons (sm_for (.one 8 _ _ (.inl ⟨rfl, (by kernel_rfl)⟩)) (it_list (ev_attr 135 (ev_loc 0 rfl (by kernel_rfl) (by kernel_rfl)) (clsok_raw hC))) (ex_cons (sm_if (ts_cmp (ev_loc 8 rfl (by kernel_rfl) (by kernel_rfl)) (ev_loc 2 rfl (by kernel_rfl) (by kernel_rfl)) rfl) (ex_cons (sm_assign 6 (.inl ⟨rfl, (by kernel_rfl)⟩) (ev_bin (ev_loc 6 rfl (by kernel_rfl) (by kernel_rfl)) ev_int) (fun _ _ => rfl)) (ex_cons (sm_assign 5 (.inl ⟨rfl, (by kernel_rfl)⟩) (ev_bin (ev_loc 5 rfl (by kernel_rfl) (by kernel_rfl)) ev_int) (fun _ _ => rfl)) ex_nil)) (ex_cons (sm_if (ts_cmp (ev_loc 8 rfl (by kernel_rfl) (by kernel_rfl)) (ev_loc 3 rfl (by kernel_rfl) (by kernel_rfl)) rfl) (ex_cons (sm_assign 6 (.inl ⟨rfl, (by kernel_rfl)⟩) (ev_bin (ev_loc 6 rfl (by kernel_rfl) (by kernel_rfl)) ev_int) (fun _ _ => rfl)) (ex_cons (sm_assign 7 (.inl ⟨rfl, (by kernel_rfl)⟩) (ev_bin (ev_loc 7 rfl (by kernel_rfl) (by kernel_rfl)) ev_int) (fun _ _ => rfl)) (ex_cons (sm_if (ts_cmp (ev_loc 5 rfl (by kernel_rfl) (by kernel_rfl)) (ev_call (ev_builtin (v := .builtin "len") (by rw [hC]; kernel_rfl) (by kernel_rfl) (by decide) (by kernel_rfl) (by kernel_rfl)) (evs_cons (ev_loc 4 rfl (by kernel_rfl) (by kernel_rfl)) evs_nil (fun _ => rfl)) (.inr (.inr ⟨_, rfl⟩)) fn_len (fun _ => rfl) (fun _ => rfl)) rfl) (ex_cons (sm_newlist 4 (.inl ⟨rfl, (by kernel_rfl)⟩) (evf_add (ev_loc 4 rfl (by kernel_rfl) (by kernel_rfl)) (ev_bin (ev_list (evs_cons ev_int evs_nil (fun _ => rfl))) (ev_bin (ev_bin (ev_loc 5 rfl (by kernel_rfl) (by kernel_rfl)) (ev_call (ev_builtin (v := .builtin "len") (by rw [hC]; kernel_rfl) (by kernel_rfl) (by decide) (by kernel_rfl) (by kernel_rfl)) (evs_cons (ev_loc 4 rfl (by kernel_rfl) (by kernel_rfl)) evs_nil (fun _ => rfl)) (.inr (.inr ⟨_, rfl⟩)) fn_len (fun _ => rfl) (fun _ => rfl))) ev_int))) (fun _ _ => rfl)) ex_nil) ex_nil) (ex_cons (sm_setitem (ev_bin (ev_sub (ev_loc 4 rfl (by kernel_rfl) (by kernel_rfl)) (ev_loc 5 rfl (by kernel_rfl) (by kernel_rfl)) (fun _ _ => rfl)) ev_int) (ev_loc 4 rfl (by kernel_rfl) (by kernel_rfl)) (ev_loc 5 rfl (by kernel_rfl) (by kernel_rfl)) (fun _ => rfl)) (ex_cons (sm_assign 5 (.inl ⟨rfl, (by kernel_rfl)⟩) ev_int (fun _ _ => rfl)) ex_nil))))) (ex_cons sm_break ex_nil)) ex_nil)) ex_nil) (fun _ _ => rfl)) (ex_cons (sm_setattr 135 (ev_loc 0 rfl (by kernel_rfl) (by kernel_rfl)) (ev_loc 6 rfl (by kernel_rfl) (by kernel_rfl)) (setok_n hC) (fun _ => rfl)) (ex_cons (sm_setattr 135 (ev_loc 0 rfl (by kernel_rfl) (by kernel_rfl)) (ev_loc 7 rfl (by kernel_rfl) (by kernel_rfl)) (setok_nt hC) (fun _ => rfl)) (ex_cons (sm_setattr 135 (ev_loc 0 rfl (by kernel_rfl) (by kernel_rfl)) (ev_tuple (evs_cons (ev_call (ev_builtin (v := .type "tuple") (by rw [hC]; kernel_rfl) (by kernel_rfl) (by decide) (by kernel_rfl) (by kernel_rfl)) (evs_cons (ev_loc 4 rfl (by kernel_rfl) (by kernel_rfl)) evs_nil (fun _ => rfl)) (.inr (.inl ⟨_, rfl⟩)) fn_tuple (fun _ => rfl) (fun _ => rfl)) (evs_cons (ev_loc 5 rfl (by kernel_rfl) (by kernel_rfl)) evs_nil (fun _ => rfl)) (fun _ => rfl))) (setok_norm hC) (fun _ => rfl)) (ex_cons (sm_setattr 135 (ev_loc 0 rfl (by kernel_rfl) (by kernel_rfl)) (ev_cmp (ev_call (ev_builtin (v := .builtin "len") (by rw [hC]; kernel_rfl) (by kernel_rfl) (by decide) (by kernel_rfl) (by kernel_rfl)) (evs_cons (ev_loc 4 rfl (by kernel_rfl) (by kernel_rfl)) evs_nil (fun _ => rfl)) (.inr (.inr ⟨_, rfl⟩)) fn_len (fun _ => rfl) (fun _ => rfl)) ev_int rfl) (setok_is_simple hC) (fun _ => rfl)) ex_nil)))))))))⟩
theorem F_135 {C : Cx} (hC : HC C) : FnT C 2 (.ref 135) (ctorSem 135 1 0 vt_90 D_90.1) :=
  fn_ctor 1 0 (is_90 hC) (D_90.2 hC) (by decide) (by rw [hC]; kernel_rfl) (by rw [hC]; kernel_rfl) (by rw [hC]; kernel_rfl) (bc1 fun a b => by kernel_rfl)
noncomputable def sc_97 : List (Str × NameKind) := [("self", .local), ("count", .local), ("trailing", .local), ("max", .globalImplicit), ("len", .globalImplicit)]
noncomputable def vt_97 : VT := [("self", .loc), ("count", .loc), ("trailing", .loc)]
theorem is_97 {C : Cx} (hC : HC C) : FnIs C 97 (fdO (oA C.w.params 97)) (bM 10 2) sc_97 vt_97 :=
  ⟨⟨(oA C.w.params 97), (by rw [hC]; kernel_rfl), (by kernel_rfl)⟩, (by rw [hC]; kernel_rfl), (by kernel_rfl), (by kernel_rfl), (by kernel_rfl), (by kernel_rfl), (by kernel_rfl), (by kernel_rfl), (by kernel_rfl), (by kernel_rfl), (by kernel_rfl)⟩
noncomputable def D_97 : { f : SX // ∀ {C : Cx}, HC C → ExT C 0 sc_97 vt_97 (bM 10 2) f } :=
  ⟨_, fun {C} hC => (ex_cons (sm_pair (k := 1) (l := 2) (.two 1 2 _ _ _ _ _ _ (.inl ⟨rfl, (by kernel_rfl)⟩) (.inl ⟨rfl, (by kernel_rfl)⟩)) ⟨_, _, _, rfl⟩ (ev_attr 135 (ev_loc 0 rfl (by kernel_rfl) (by kernel_rfl)) (clsok_norm hC)) (fun _ => rfl) (fun _ _ => rfl)) (ex_cons (sm_ret (ev_call (ev_builtin (v := .builtin "max") (by rw [hC]; kernel_rfl) (by kernel_rfl) (by decide) (by kernel_rfl) (by kernel_rfl)) (evs_cons (ev_bin (ev_call (ev_builtin (v := .builtin "len") (by rw [hC]; kernel_rfl) (by kernel_rfl) (by decide) (by kernel_rfl) (by kernel_rfl)) (evs_cons (ev_loc 1 rfl (by kernel_rfl) (by kernel_rfl)) evs_nil (fun _ => rfl)) (.inr (.inr ⟨_, rfl⟩)) fn_len (fun _ => rfl) (fun _ => rfl)) ev_int) (evs_cons (ev_loc 2 rfl (by kernel_rfl) (by kernel_rfl)) evs_nil (fun _ => rfl)) (fun _ => rfl)) (.inr (.inr ⟨_, rfl⟩)) fn_max2 (fun _ => rfl) (fun _ => rfl))) ex_nil))⟩
theorem F_97 {C : Cx} (hC : HC C) : FnT C 1 (.ref 97) (fnSem 1 0 vt_97 D_97.1) :=
  fn_pure 1 0 (is_97 hC) (D_97.2 hC) (by decide) (bp1 fun a => by kernel_rfl)
theorem m_97 {C : Cx} (hC : HC C) : MethOk C.K 135 "longest_run_of_spaces" 97 := ⟨(by rw [hC]; kernel_rfl), (by rw [hC]; kernel_rfl), (by rw [hC]; kernel_rfl), (by rw [hC]; kernel_rfl)⟩
noncomputable def sc_104 : List (Str × NameKind) := [("self", .local), ("tabsize", .local), ("count", .local), ("trailing", .local), ("il", .local), ("i", .local), ("range", .globalImplicit), ("len", .globalImplicit)]
noncomputable def vt_104 : VT := [("self", .loc), ("tabsize", .loc), ("count", .loc), ("trailing", .loc), ("il", .loc), ("i", .loc)]
theorem is_104 {C : Cx} (hC : HC C) : FnIs C 104 (fdO (oA C.w.params 104)) (bM 10 3) sc_104 vt_104 :=
  ⟨⟨(oA C.w.params 104), (by rw [hC]; kernel_rfl), (by kernel_rfl)⟩, (by rw [hC]; kernel_rfl), (by kernel_rfl), (by kernel_rfl), (by kernel_rfl), (by kernel_rfl), (by kernel_rfl), (by kernel_rfl), (by kernel_rfl), (by kernel_rfl), (by kernel_rfl)⟩
noncomputable def D_104 : { f : SX // ∀ {C : Cx}, HC C → ExT C 0 sc_104 vt_104 (bM 10 3) f } :=
  ⟨_, fun {C} hC => (ex_cons (sm_pair (k := 2) (l := 3) (.two 2 3 _ _ _ _ _ _ (.inl ⟨rfl, (by kernel_rfl)⟩) (.inl ⟨rfl, (by kernel_rfl)⟩)) ⟨_, _, _, rfl⟩ (ev_attr 135 (ev_loc 0 rfl (by kernel_rfl) (by kernel_rfl)) (clsok_norm hC)) (fun _ => rfl) (fun _ _ => rfl)) (ex_cons (sm_assign 4 (.inl ⟨rfl, (by kernel_rfl)⟩) ev_int (fun _ _ => rfl)) (ex_cons (sm_for (.one 5 _ _ (.inl ⟨rfl, (by kernel_rfl)⟩)) (it_range2 (ev_builtin (v := .type "range") (by rw [hC]; kernel_rfl) (by kernel_rfl) (by decide) (by kernel_rfl) (by kernel_rfl)) (ev_loc 1 rfl (by kernel_rfl) (by kernel_rfl)) (ev_call (ev_builtin (v := .builtin "len") (by rw [hC]; kernel_rfl) (by kernel_rfl) (by decide) (by kernel_rfl) (by kernel_rfl)) (evs_cons (ev_loc 2 rfl (by kernel_rfl) (by kernel_rfl)) evs_nil (fun _ => rfl)) (.inr (.inr ⟨_, rfl⟩)) fn_len (fun _ => rfl) (fun _ => rfl)) (fun _ => rfl) (fun _ => rfl)) (ex_cons (sm_assign 4 (.inl ⟨rfl, (by kernel_rfl)⟩) (ev_bin (ev_loc 4 rfl (by kernel_rfl) (by kernel_rfl)) (ev_bin (ev_bin (ev_loc 5 rfl (by kernel_rfl) (by kernel_rfl)) (ev_loc 1 rfl (by kernel_rfl) (by kernel_rfl))) (ev_sub (ev_loc 2 rfl (by kernel_rfl) (by kernel_rfl)) (ev_loc 5 rfl (by kernel_rfl) (by kernel_rfl)) (fun _ _ => rfl)))) (fun _ _ => rfl)) ex_nil) (fun _ _ => rfl)) (ex_cons (sm_ret (ev_bin (ev_loc 3 rfl (by kernel_rfl) (by kernel_rfl)) (ev_bin (ev_loc 1 rfl (by kernel_rfl) (by kernel_rfl)) (ev_bin (ev_loc 4 rfl (by kernel_rfl) (by kernel_rfl)) (ev_attr 135 (ev_loc 0 rfl (by kernel_rfl) (by kernel_rfl)) (clsok_nt hC)))))) ex_nil))))⟩
theorem F_104 {C : Cx} (hC : HC C) : FnT C 1 (.ref 104) (fnSem 2 0 vt_104 D_104.1) :=
  fn_pure 2 0 (is_104 hC) (D_104.2 hC) (by decide) (bp2 fun a b => by kernel_rfl)
theorem m_104 {C : Cx} (hC : HC C) : MethOk C.K 135 "indent_level" 104 := ⟨(by rw [hC]; kernel_rfl), (by rw [hC]; kernel_rfl), (by rw [hC]; kernel_rfl), (by rw [hC]; kernel_rfl)⟩
noncomputable def sc_125 : List (Str × NameKind) := [("self", .local), ("other", .local), ("n", .local), ("ts", .local), ("max", .globalImplicit), ("range", .globalImplicit)]
noncomputable def vt_125 : VT := [("self", .loc), ("other", .loc), ("n", .loc), ("ts", .loc)]
theorem is_125 {C : Cx} (hC : HC C) : FnIs C 125 (fdO (oA C.w.params 125)) (bM 10 6) sc_125 vt_125 :=
  ⟨⟨(oA C.w.params 125), (by rw [hC]; kernel_rfl), (by kernel_rfl)⟩, (by rw [hC]; kernel_rfl), (by kernel_rfl), (by kernel_rfl), (by kernel_rfl), (by kernel_rfl), (by kernel_rfl), (by kernel_rfl), (by kernel_rfl), (by kernel_rfl), (by kernel_rfl)⟩
noncomputable def D_125 : { f : SX // ∀ {C : Cx}, HC C → ExT C 1 sc_125 vt_125 (bM 10 6) f } :=
  ⟨_, fun {C} hC => (ex_cons (sm_if (ts_cmp (ev_attr 135 (ev_loc 0 rfl (by kernel_rfl) (by kernel_rfl)) (clsok_n hC)) (ev_attr 135 (ev_loc 1 rfl (by kernel_rfl) (by kernel_rfl)) (clsok_n hC)) rfl) (ex_cons (sm_ret ev_bool) ex_nil) ex_nil) (ex_cons (sm_if (ts_and2 (ts_val (ev_attr 135 (ev_loc 0 rfl (by kernel_rfl) (by kernel_rfl)) (clsok_is_simple hC)) (fun _ => rfl)) (ts_val (ev_attr 135 (ev_loc 1 rfl (by kernel_rfl) (by kernel_rfl)) (clsok_is_simple hC)) (fun _ => rfl))) (ex_cons (sm_ret (ev_cmp (ev_attr 135 (ev_loc 0 rfl (by kernel_rfl) (by kernel_rfl)) (clsok_nt hC)) (ev_attr 135 (ev_loc 1 rfl (by kernel_rfl) (by kernel_rfl)) (clsok_nt hC)) rfl)) ex_nil) ex_nil) (ex_cons (sm_assign 2 (.inl ⟨rfl, (by kernel_rfl)⟩) (ev_bin (ev_call (ev_builtin (v := .builtin "max") (by rw [hC]; kernel_rfl) (by kernel_rfl) (by decide) (by kernel_rfl) (by kernel_rfl)) (evs_cons (ev_mcall0 135 97 (m_97 hC) (ev_loc 0 rfl (by kernel_rfl) (by kernel_rfl)) (FnT.up (by decide) (F_97 hC)) (fun _ => rfl)) (evs_cons (ev_mcall0 135 97 (m_97 hC) (ev_loc 1 rfl (by kernel_rfl) (by kernel_rfl)) (FnT.up (by decide) (F_97 hC)) (fun _ => rfl)) evs_nil (fun _ => rfl)) (fun _ => rfl)) (.inr (.inr ⟨_, rfl⟩)) fn_max2 (fun _ => rfl) (fun _ => rfl)) ev_int) (fun _ _ => rfl)) (ex_cons (sm_for (.one 3 _ _ (.inl ⟨rfl, (by kernel_rfl)⟩)) (it_range2 (ev_builtin (v := .type "range") (by rw [hC]; kernel_rfl) (by kernel_rfl) (by decide) (by kernel_rfl) (by kernel_rfl)) ev_int (ev_bin (ev_loc 2 rfl (by kernel_rfl) (by kernel_rfl)) ev_int) (fun _ => rfl) (fun _ => rfl)) (ex_cons (sm_if (ts_cmp (ev_mcall 135 104 (m_104 hC) (ev_loc 0 rfl (by kernel_rfl) (by kernel_rfl)) (evs_cons (ev_loc 3 rfl (by kernel_rfl) (by kernel_rfl)) evs_nil (fun _ => rfl)) (FnT.up (by decide) (F_104 hC)) (fun _ => rfl) (fun _ => rfl) (fun _ => rfl)) (ev_mcall 135 104 (m_104 hC) (ev_loc 1 rfl (by kernel_rfl) (by kernel_rfl)) (evs_cons (ev_loc 3 rfl (by kernel_rfl) (by kernel_rfl)) evs_nil (fun _ => rfl)) (FnT.up (by decide) (F_104 hC)) (fun _ => rfl) (fun _ => rfl) (fun _ => rfl)) rfl) (ex_cons (sm_ret ev_bool) ex_nil) ex_nil) ex_nil) (fun _ _ => rfl)) (ex_cons (sm_ret ev_bool) ex_nil)))))⟩
theorem F_125 {C : Cx} (hC : HC C) : FnT C 2 (.ref 125) (fnSem 2 0 vt_125 D_125.1) :=
  fn_pure 2 0 (is_125 hC) (D_125.2 hC) (by decide) (bp2 fun a b => by kernel_rfl)
theorem m_125 {C : Cx} (hC : HC C) : MethOk C.K 135 "less" 125 := ⟨(by rw [hC]; kernel_rfl), (by rw [hC]; kernel_rfl), (by rw [hC]; kernel_rfl), (by rw [hC]; kernel_rfl)⟩
noncomputable def sc_281 : List (Str × NameKind) := [("script", .local), ("cells", .local), ("k", .local), ("x", .local), ("enumerate", .globalImplicit)]
noncomputable def vt_281 : VT := [("script", .loc), ("cells", .loc), ("k", .loc), ("x", .loc)]
theorem is_281 {C : Cx} (hC : HC C) : FnIs C 281 (fdO (oA C.w.params 281)) (bT 16) sc_281 vt_281 :=
  ⟨⟨(oA C.w.params 281), (by rw [hC]; kernel_rfl), (by kernel_rfl)⟩, (by rw [hC]; kernel_rfl), (by kernel_rfl), (by kernel_rfl), (by kernel_rfl), (by kernel_rfl), (by kernel_rfl), (by kernel_rfl), (by kernel_rfl), (by kernel_rfl), (by kernel_rfl)⟩
noncomputable def D_281b : { f : SX // ∀ {C : Cx}, HC C → ExT C 0 sc_281 vt_281 (forB (stN (bT 16) 1)) f } :=
  ⟨_, fun {C} hC => (ex_cons (sm_setitem (ev_bin (ev_sub (ev_loc 1 rfl (by kernel_rfl) (by kernel_rfl)) (ev_bin (ev_loc 2 rfl (by kernel_rfl) (by kernel_rfl)) ev_int) (fun _ _ => by kernel_rfl)) (ev_bin (ev_loc 3 rfl (by kernel_rfl) (by kernel_rfl)) ev_int)) (ev_loc 1 rfl (by kernel_rfl) (by kernel_rfl)) (ev_bin (ev_loc 2 rfl (by kernel_rfl) (by kernel_rfl)) ev_int) (fun _ => rfl)) ex_nil)⟩
noncomputable def D_281 : { f : SX // ∀ {C : Cx}, HC C → ExT C 0 sc_281 vt_281 (bT 16) f } :=
  ⟨_, fun {C} hC => (ex_cons (sm_newlist 1 (.inl ⟨rfl, (by kernel_rfl)⟩) (evf_list (evs_cons ev_int (evs_cons ev_int (evs_cons ev_int (evs_cons ev_int evs_nil (fun _ => rfl)) (fun _ => rfl)) (fun _ => rfl)) (fun _ => rfl))) (fun _ _ => by kernel_rfl)) (ex_cons (sm_for (.two 2 3 _ _ _ _ _ _ (.inl ⟨rfl, (by kernel_rfl)⟩) (.inl ⟨rfl, (by kernel_rfl)⟩)) (it_enum (ev_builtin (v := .type "enumerate") (by rw [hC]; kernel_rfl) (by kernel_rfl) (by decide) (by kernel_rfl) (by kernel_rfl)) (ev_slice (ev_loc 0 rfl (by kernel_rfl) (by kernel_rfl)) pa_none (pa_some ev_int) pa_none (fun _ _ => by first | exact .inl rfl | exact .inr rfl)) (fun _ => rfl)) (D_281b.2 hC) (fun _ _ => by kernel_rfl)) (ex_cons (sm_ret (ev_loc 1 rfl (by kernel_rfl) (by kernel_rfl))) ex_nil)))⟩
theorem F_281 {C : Cx} (hC : HC C) : FnT C 1 (.ref 281) (fnSem 1 0 vt_281 D_281.1) :=
  fn_pure 1 0 (is_281 hC) (D_281.2 hC) (by decide) (bp1 fun a => by kernel_rfl)
noncomputable def sc_288 : List (Str × NameKind) := [("cells", .local), ("leads", .local), ("k", .local), ("cell", .local), ("front", .local), ("tabs", .local), ("enumerate", .globalImplicit)]
noncomputable def vt_288 : VT := [("cells", .loc), ("leads", .loc), ("k", .loc), ("cell", .loc), ("front", .loc), ("tabs", .loc)]
theorem is_288 {C : Cx} (hC : HC C) : FnIs C 288 (fdO (oA C.w.params 288)) (bT 17) sc_288 vt_288 :=
  ⟨⟨(oA C.w.params 288), (by rw [hC]; kernel_rfl), (by kernel_rfl)⟩, (by rw [hC]; kernel_rfl), (by kernel_rfl), (by kernel_rfl), (by kernel_rfl), (by kernel_rfl), (by kernel_rfl), (by kernel_rfl), (by kernel_rfl), (by kernel_rfl), (by kernel_rfl)⟩
noncomputable def D_288b : { f : SX // ∀ {C : Cx}, HC C → ExT C 0 sc_288 vt_288 (forB (stN (bT 17) 1)) f } :=
  ⟨_, fun {C} hC => (ex_cons (sm_assign 4 (.inl ⟨rfl, (by kernel_rfl)⟩) (ev_bin (ev_loc 3 rfl (by kernel_rfl) (by kernel_rfl)) ev_int) (fun _ _ => by kernel_rfl)) (ex_cons (sm_assign 5 (.inl ⟨rfl, (by kernel_rfl)⟩) (ev_bin (ev_bin (ev_loc 3 rfl (by kernel_rfl) (by kernel_rfl)) ev_int) ev_int) (fun _ _ => by kernel_rfl)) (ex_cons (sm_append (ev_loc 1 rfl (by kernel_rfl) (by kernel_rfl)) (ev_bin (ev_bin (ev_bin (ev_str [32] (by kernel_rfl)) (ev_loc 4 rfl (by kernel_rfl) (by kernel_rfl))) (ev_bin (ev_str [9] (by kernel_rfl)) (ev_loc 5 rfl (by kernel_rfl) (by kernel_rfl)))) (ev_bin (ev_str [32] (by kernel_rfl)) (ev_bin (ev_bin (ev_bin ev_int (ev_loc 2 rfl (by kernel_rfl) (by kernel_rfl))) (ev_loc 4 rfl (by kernel_rfl) (by kernel_rfl))) (ev_loc 5 rfl (by kernel_rfl) (by kernel_rfl))))) (fun _ => rfl) (fun _ => rfl) rfl) ex_nil)))⟩
noncomputable def D_288 : { f : SX // ∀ {C : Cx}, HC C → ExT C 0 sc_288 vt_288 (bT 17) f } :=
  ⟨_, fun {C} hC => (ex_cons (sm_newlist 1 (.inl ⟨rfl, (by kernel_rfl)⟩) (evf_list evs_nil) (fun _ _ => by kernel_rfl)) (ex_cons (sm_for (.two 2 3 _ _ _ _ _ _ (.inl ⟨rfl, (by kernel_rfl)⟩) (.inl ⟨rfl, (by kernel_rfl)⟩)) (it_enum (ev_builtin (v := .type "enumerate") (by rw [hC]; kernel_rfl) (by kernel_rfl) (by decide) (by kernel_rfl) (by kernel_rfl)) (ev_loc 0 rfl (by kernel_rfl) (by kernel_rfl)) (fun _ => rfl)) (D_288b.2 hC) (fun _ _ => by kernel_rfl)) (ex_cons (sm_ret (ev_loc 1 rfl (by kernel_rfl) (by kernel_rfl))) ex_nil)))⟩
theorem F_288 {C : Cx} (hC : HC C) : FnT C 1 (.ref 288) (fnSem 1 0 vt_288 D_288.1) :=
  fn_pure 1 0 (is_288 hC) (D_288.2 hC) (by decide) (bp1 fun a => by kernel_rfl)
noncomputable def sc_303 : List (Str × NameKind) := [("rows", .local), ("total", .local), ("row", .local), ("falls", .local), ("zip", .globalImplicit), ("iadd", .globalImplicit), ("lshift", .globalImplicit), ("sum", .globalImplicit), ("Int2AP", .globalImplicit)]
noncomputable def vt_303 : VT := [("rows", .loc), ("total", .loc), ("row", .loc), ("falls", .loc)]
theorem is_303 {C : Cx} (hC : HC C) : FnIs C 303 (fdO (oA C.w.params 303)) (bT 20) sc_303 vt_303 :=
  ⟨⟨(oA C.w.params 303), (by rw [hC]; kernel_rfl), (by kernel_rfl)⟩, (by rw [hC]; kernel_rfl), (by kernel_rfl), (by kernel_rfl), (by kernel_rfl), (by kernel_rfl), (by kernel_rfl), (by kernel_rfl), (by kernel_rfl), (by kernel_rfl), (by kernel_rfl)⟩
noncomputable def D_303 : { f : SX // ∀ {C : Cx}, HC C → ExT C 1 sc_303 vt_303 (bT 20) f } :=
  ⟨_, fun {C} hC => (ex_cons (sm_assign 1 (.inl ⟨rfl, (by kernel_rfl)⟩) ev_int (fun _ _ => by kernel_rfl)) (ex_cons (sm_for (.one 2 _ _ (.inl ⟨rfl, (by kernel_rfl)⟩)) (it_list (ev_loc 0 rfl (by kernel_rfl) (by kernel_rfl))) (ex_cons (sm_comp 3 (.inl ⟨rfl, (by kernel_rfl)⟩) (fun env S => sw_true S (by kernel_rfl) rfl (by kernel_rfl)) (cpk [("a", .loc), ("z", .loc)] [none, none] (by kernel_rfl)) (fun _ _ => by kernel_rfl) (it_zip (ev_builtin (v := .type "zip") (by rw [hC]; kernel_rfl) (by kernel_rfl) (by decide) (by kernel_rfl) (by kernel_rfl)) (ev_loc 2 rfl (by kernel_rfl) (by kernel_rfl)) (ev_bin (ev_slice (ev_loc 2 rfl (by kernel_rfl) (by kernel_rfl)) (pa_some ev_int) pa_none pa_none (fun _ _ => by first | exact .inl rfl | exact .inr rfl)) (ev_slice (ev_loc 2 rfl (by kernel_rfl) (by kernel_rfl)) (pa_some (ev_neg ev_int)) pa_none pa_none (fun _ _ => by first | exact .inl rfl | exact .inr rfl))) (fun _ => rfl) (fun _ => rfl)) (.two 0 1 _ _ _ _ _ _ (.inl ⟨rfl, (by kernel_rfl)⟩) (.inl ⟨rfl, (by kernel_rfl)⟩)) (ifs_cons (ts_val (ev_call (ev_glob (v := .ref 59) (by rw [hC]; kernel_rfl) (by kernel_rfl) (by kernel_rfl)) (evs_cons (ev_loc 0 rfl (by kernel_rfl) (by kernel_rfl)) (evs_cons (ev_loc 1 rfl (by kernel_rfl) (by kernel_rfl)) evs_nil (fun _ => rfl)) (fun _ => rfl)) (.inl (by rw [hC]; kernel_rfl)) (FnT.up (by decide) (F_59 hC)) (fun _ => rfl) (fun _ => rfl)) (fun _ => rfl)) ifs_nil) ev_int) (ex_cons (sm_assign 1 (.inl ⟨rfl, (by kernel_rfl)⟩) (ev_call (ev_glob (v := .ref 73) (by rw [hC]; kernel_rfl) (by kernel_rfl) (by kernel_rfl)) (evs_cons (ev_loc 1 rfl (by kernel_rfl) (by kernel_rfl)) (evs_cons (ev_call (ev_glob (v := .ref 66) (by rw [hC]; kernel_rfl) (by kernel_rfl) (by kernel_rfl)) (evs_cons ev_int (evs_cons (ev_call (ev_builtin (v := .builtin "sum") (by rw [hC]; kernel_rfl) (by kernel_rfl) (by decide) (by kernel_rfl) (by kernel_rfl)) (evs_cons (ev_loc 3 rfl (by kernel_rfl) (by kernel_rfl)) evs_nil (fun _ => rfl)) (.inr (.inr ⟨_, rfl⟩)) fn_sum (fun _ => rfl) (fun _ => rfl)) evs_nil (fun _ => rfl)) (fun _ => rfl)) (.inl (by rw [hC]; kernel_rfl)) (FnT.up (by decide) (F_66 hC)) (fun _ => rfl) (fun _ => rfl)) evs_nil (fun _ => rfl)) (fun _ => rfl)) (.inl (by rw [hC]; kernel_rfl)) (FnT.up (by decide) (F_73 hC)) (fun _ => rfl) (fun _ => rfl)) (fun _ _ => by kernel_rfl)) ex_nil)) (fun _ _ => by kernel_rfl)) (ex_cons (sm_ret (ev_decode (ev_call (ev_glob (v := .ref 45) (by rw [hC]; kernel_rfl) (by kernel_rfl) (by kernel_rfl)) (evs_cons (ev_loc 1 rfl (by kernel_rfl) (by kernel_rfl)) evs_nil (fun _ => rfl)) (.inl (by rw [hC]; kernel_rfl)) (FnT.up (by decide) (F_45 hC)) (fun _ => rfl) (fun _ => rfl)) (ev_str [97, 115, 99, 105, 105] (by kernel_rfl)) (fun _ => rfl) (fun _ => rfl) rfl)) ex_nil)))⟩
theorem F_303 {C : Cx} (hC : HC C) : FnT C 2 (.ref 303) (fnSem 1 0 vt_303 D_303.1) :=
  fn_pure 1 0 (is_303 hC) (D_303.2 hC) (by decide) (bp1 fun a => by kernel_rfl)
noncomputable def sc_320 : List (Str × NameKind) := [("leads", .local), ("columns", .cell), ("sets", .cell), ("j", .cell), ("low", .cell), ("above", .cell), ("counts", .cell), ("turn", .local), ("range", .globalImplicit), ("sum", .globalImplicit), ("len", .globalImplicit)]
noncomputable def vt_320 : VT := [("leads", .loc), ("columns", .own), ("sets", .own), ("j", .own), ("low", .own), ("above", .own), ("counts", .own), ("turn", .loc)]
theorem is_320 {C : Cx} (hC : HC C) : FnIs C 320 (fdO (oA C.w.params 320)) (bT 23) sc_320 vt_320 :=
  ⟨⟨(oA C.w.params 320), (by rw [hC]; kernel_rfl), (by kernel_rfl)⟩, (by rw [hC]; kernel_rfl), (by kernel_rfl), (by kernel_rfl), (by kernel_rfl), (by kernel_rfl), (by kernel_rfl), (by kernel_rfl), (by kernel_rfl), (by kernel_rfl), (by kernel_rfl)⟩
noncomputable def D_320c : { f : SX // ∀ {C : Cx}, HC C → SmT C 1 sc_320 vt_320 (stN (bT 23) 0) f } :=
  ⟨_, fun {C} hC => (sm_assign 1 (.inr ⟨rfl, (by kernel_rfl)⟩) (ev_comp (cpk [("lead", .own)] [none] (by kernel_rfl)) (fun _ _ => by kernel_rfl) (it_list (ev_loc 0 rfl (by kernel_rfl) (by kernel_rfl))) (.one 0 _ _ (.inr ⟨rfl, (by kernel_rfl)⟩)) ifs_nil (ev_comp (cpk [("size", .loc), ("lead", .fre)] [none, some 0] (by kernel_rfl)) (fun _ _ => by kernel_rfl) (it_list (ev_tuple (evs_cons ev_int (evs_cons ev_int (evs_cons ev_int evs_nil (fun _ => rfl)) (fun _ => rfl)) (fun _ => rfl)))) (.one 0 _ _ (.inl ⟨rfl, (by kernel_rfl)⟩)) ifs_nil (ev_call (ev_glob (v := .ref 315) (by rw [hC]; kernel_rfl) (by kernel_rfl) (by kernel_rfl)) (evs_cons (ev_cell 1 rfl (by decide) (by kernel_rfl) (by kernel_rfl)) (evs_cons (ev_loc 0 rfl (by kernel_rfl) (by kernel_rfl)) evs_nil (fun _ => rfl)) (fun _ => rfl)) (.inl (by rw [hC]; kernel_rfl)) (FnT.up (by decide) (F_315 hC)) (fun _ => rfl) (fun _ => rfl)))) (fun env S => sw_false S (by kernel_rfl)))⟩
noncomputable def D_320l : { f : SE // ∀ {C : Cx}, HC C → EvT C 1 sc_320 vt_320 (valOf (stN (forB (stN (bT 23) 2)) 0)) f } :=
  ⟨_, fun {C} hC => (ev_call (ev_builtin (v := .builtin "sum") (by rw [hC]; kernel_rfl) (by kernel_rfl) (by decide) (by kernel_rfl) (by kernel_rfl)) (evs_cons (ev_comp (cpk [("i", .loc), ("columns", .fre), ("j", .fre)] [none, some 1, some 3] (by kernel_rfl)) (fun _ _ => by kernel_rfl) (it_range1 (ev_builtin (v := .type "range") (by rw [hC]; kernel_rfl) (by kernel_rfl) (by decide) (by kernel_rfl) (by kernel_rfl)) (ev_cell 3 rfl (by decide) (by kernel_rfl) (by kernel_rfl)) (fun _ => rfl)) (.one 0 _ _ (.inl ⟨rfl, (by kernel_rfl)⟩)) (ifs_cons (ts_cmp (ev_comp (cpk [("a", .loc), ("z", .loc)] [none, none] (by kernel_rfl)) (fun _ _ => by kernel_rfl) (it_zip (ev_builtin (v := .type "zip") (by rw [hC]; kernel_rfl) (by kernel_rfl) (by decide) (by kernel_rfl) (by kernel_rfl)) (ev_sub (ev_cell 1 rfl (by decide) (by kernel_rfl) (by kernel_rfl)) (ev_loc 0 rfl (by kernel_rfl) (by kernel_rfl)) (fun _ _ => by kernel_rfl)) (ev_sub (ev_cell 1 rfl (by decide) (by kernel_rfl) (by kernel_rfl)) (ev_cell 2 rfl (by decide) (by kernel_rfl) (by kernel_rfl)) (fun _ _ => by kernel_rfl)) (fun _ => rfl) (fun _ => rfl)) (.two 0 1 _ _ _ _ _ _ (.inl ⟨rfl, (by kernel_rfl)⟩) (.inl ⟨rfl, (by kernel_rfl)⟩)) (ifs_cons (ts_cmp (ev_loc 0 rfl (by kernel_rfl) (by kernel_rfl)) (ev_loc 1 rfl (by kernel_rfl) (by kernel_rfl)) rfl) ifs_nil) ev_int) (ev_list evs_nil) rfl) ifs_nil) (ev_bin ev_int (ev_loc 0 rfl (by kernel_rfl) (by kernel_rfl)))) evs_nil (fun _ => rfl)) (.inr (.inr ⟨_, rfl⟩)) fn_sum (fun _ => rfl) (fun _ => rfl))⟩
noncomputable def D_320s : { f : SX // ∀ {C : Cx}, HC C → SmT C 1 sc_320 vt_320 (stN (forB (stN (bT 23) 2)) 1) f } :=
  ⟨_, fun {C} hC => (sm_assign 2 (.inr ⟨rfl, (by kernel_rfl)⟩) (ev_bin (ev_cell 2 rfl (by decide) (by kernel_rfl) (by kernel_rfl)) (ev_comp (cpk [("one", .loc), ("j", .fre), ("low", .fre)] [none, some 3, some 4] (by kernel_rfl)) (fun _ _ => by kernel_rfl) (it_list (ev_cell 2 rfl (by decide) (by kernel_rfl) (by kernel_rfl))) (.one 0 _ _ (.inl ⟨rfl, (by kernel_rfl)⟩)) (ifs_cons (ts_cmp (ev_bin (ev_loc 0 rfl (by kernel_rfl) (by kernel_rfl)) (ev_cell 2 rfl (by decide) (by kernel_rfl) (by kernel_rfl))) (ev_cell 2 rfl (by decide) (by kernel_rfl) (by kernel_rfl)) rfl) ifs_nil) (ev_bin (ev_loc 0 rfl (by kernel_rfl) (by kernel_rfl)) (ev_bin ev_int (ev_cell 1 rfl (by decide) (by kernel_rfl) (by kernel_rfl)))))) (fun _ _ => by kernel_rfl))⟩
noncomputable def D_320R : { f : SX // ∀ {C : Cx}, HC C → ExT C 1 sc_320 vt_320 (List.drop 3 (bT 23)) f } :=
  ⟨_, fun {C} hC => (ex_cons (sm_assign 5 (.inr ⟨rfl, (by kernel_rfl)⟩) (ev_comp (cpk [("one", .own), ("sets", .fre)] [none, some 2] (by kernel_rfl)) (fun _ _ => by kernel_rfl) (it_list (ev_cell 2 rfl (by decide) (by kernel_rfl) (by kernel_rfl))) (.one 0 _ _ (.inr ⟨rfl, (by kernel_rfl)⟩)) ifs_nil (ev_comp (cpk [("k", .loc), ("two", .loc), ("one", .fre)] [none, none, some 0] (by kernel_rfl)) (fun _ _ => by kernel_rfl) (it_enum (ev_builtin (v := .type "enumerate") (by rw [hC]; kernel_rfl) (by kernel_rfl) (by decide) (by kernel_rfl) (by kernel_rfl)) (ev_cell 1 rfl (by decide) (by kernel_rfl) (by kernel_rfl)) (fun _ => rfl)) (.two 0 1 _ _ _ _ _ _ (.inl ⟨rfl, (by kernel_rfl)⟩) (.inl ⟨rfl, (by kernel_rfl)⟩)) (ifs_cons (ts_cmp (ev_bin (ev_cell 2 rfl (by decide) (by kernel_rfl) (by kernel_rfl)) (ev_loc 1 rfl (by kernel_rfl) (by kernel_rfl))) (ev_cell 2 rfl (by decide) (by kernel_rfl) (by kernel_rfl)) rfl) ifs_nil) (ev_loc 0 rfl (by kernel_rfl) (by kernel_rfl)))) (fun env S => sw_false S (by kernel_rfl))) (ex_cons (sm_assign 6 (.inr ⟨rfl, (by kernel_rfl)⟩) (ev_list (evs_cons ev_int (evs_cons (ev_call (ev_builtin (v := .builtin "len") (by rw [hC]; kernel_rfl) (by kernel_rfl) (by decide) (by kernel_rfl) (by kernel_rfl)) (evs_cons (ev_cell 2 rfl (by decide) (by kernel_rfl) (by kernel_rfl)) evs_nil (fun _ => rfl)) (.inr (.inr ⟨_, rfl⟩)) fn_len (fun _ => rfl) (fun _ => rfl)) (evs_cons (ev_call (ev_builtin (v := .builtin "sum") (by rw [hC]; kernel_rfl) (by kernel_rfl) (by decide) (by kernel_rfl) (by kernel_rfl)) (evs_cons (ev_comp (cpk [("row", .loc)] [none] (by kernel_rfl)) (fun _ _ => by kernel_rfl) (it_list (ev_cell 5 rfl (by decide) (by kernel_rfl) (by kernel_rfl))) (.one 0 _ _ (.inl ⟨rfl, (by kernel_rfl)⟩)) ifs_nil (ev_call (ev_builtin (v := .builtin "len") (by rw [hC]; kernel_rfl) (by kernel_rfl) (by decide) (by kernel_rfl) (by kernel_rfl)) (evs_cons (ev_loc 0 rfl (by kernel_rfl) (by kernel_rfl)) evs_nil (fun _ => rfl)) (.inr (.inr ⟨_, rfl⟩)) fn_len (fun _ => rfl) (fun _ => rfl))) evs_nil (fun _ => rfl)) (.inr (.inr ⟨_, rfl⟩)) fn_sum (fun _ => rfl) (fun _ => rfl)) (evs_cons (ev_call (ev_builtin (v := .builtin "sum") (by rw [hC]; kernel_rfl) (by kernel_rfl) (by decide) (by kernel_rfl) (by kernel_rfl)) (evs_cons (ev_comp2 (cpk [("row", .loc), ("k", .loc), ("above", .fre)] [none, none, some 5] (by kernel_rfl)) (fun _ _ => by kernel_rfl) (fun _ _ => by kernel_rfl) (it_list (ev_cell 5 rfl (by decide) (by kernel_rfl) (by kernel_rfl))) (.one 0 _ _ (.inl ⟨rfl, (by kernel_rfl)⟩)) ifs_nil (it_list (ev_loc 0 rfl (by kernel_rfl) (by kernel_rfl))) (.one 1 _ _ (.inl ⟨rfl, (by kernel_rfl)⟩)) ifs_nil (ev_call (ev_builtin (v := .builtin "len") (by rw [hC]; kernel_rfl) (by kernel_rfl) (by decide) (by kernel_rfl) (by kernel_rfl)) (evs_cons (ev_sub (ev_cell 2 rfl (by decide) (by kernel_rfl) (by kernel_rfl)) (ev_loc 1 rfl (by kernel_rfl) (by kernel_rfl)) (fun _ _ => by kernel_rfl)) evs_nil (fun _ => rfl)) (.inr (.inr ⟨_, rfl⟩)) fn_len (fun _ => rfl) (fun _ => rfl))) evs_nil (fun _ => rfl)) (.inr (.inr ⟨_, rfl⟩)) fn_sum (fun _ => rfl) (fun _ => rfl)) evs_nil (fun _ => rfl)) (fun _ => rfl)) (fun _ => rfl)) (fun _ => rfl))) (fun _ _ => by kernel_rfl)) (ex_cons (sm_for (.one 7 _ _ (.inl ⟨rfl, (by kernel_rfl)⟩)) (it_range1 (ev_builtin (v := .type "range") (by rw [hC]; kernel_rfl) (by kernel_rfl) (by decide) (by kernel_rfl) (by kernel_rfl)) ev_int (fun _ => rfl)) (ex_cons (sm_assign 6 (.inr ⟨rfl, (by kernel_rfl)⟩) (ev_bin (ev_list (evs_cons (ev_sub (ev_cell 6 rfl (by decide) (by kernel_rfl) (by kernel_rfl)) ev_int (fun _ _ => by kernel_rfl)) evs_nil (fun _ => rfl))) (ev_comp (cpk [("k", .loc), ("counts", .fre)] [none, some 6] (by kernel_rfl)) (fun _ _ => by kernel_rfl) (it_range2 (ev_builtin (v := .type "range") (by rw [hC]; kernel_rfl) (by kernel_rfl) (by decide) (by kernel_rfl) (by kernel_rfl)) ev_int ev_int (fun _ => rfl) (fun _ => rfl)) (.one 0 _ _ (.inl ⟨rfl, (by kernel_rfl)⟩)) ifs_nil (ev_bin (ev_sub (ev_cell 1 rfl (by decide) (by kernel_rfl) (by kernel_rfl)) (ev_loc 0 rfl (by kernel_rfl) (by kernel_rfl)) (fun _ _ => by kernel_rfl)) (ev_sub (ev_cell 1 rfl (by decide) (by kernel_rfl) (by kernel_rfl)) (ev_bin (ev_loc 0 rfl (by kernel_rfl) (by kernel_rfl)) ev_int) (fun _ _ => by kernel_rfl))))) (fun _ _ => by kernel_rfl)) ex_nil) (fun _ _ => by kernel_rfl)) (ex_cons (sm_ret (ev_lstrip (ev_join (ev_str [] (by kernel_rfl)) (ev_comp (cpk [("count", .loc)] [none] (by kernel_rfl)) (fun _ _ => by kernel_rfl) (it_list (ev_slice (ev_cell 6 rfl (by decide) (by kernel_rfl) (by kernel_rfl)) pa_none pa_none (pa_some (ev_neg ev_int)) (fun _ _ => by first | exact .inl rfl | exact .inr rfl))) (.one 0 _ _ (.inl ⟨rfl, (by kernel_rfl)⟩)) ifs_nil (ev_sub (ev_str [65, 66, 67, 68, 69, 70, 71, 72, 73, 74, 75, 76, 77, 78, 79, 80] (by kernel_rfl)) (ev_loc 0 rfl (by kernel_rfl) (by kernel_rfl)) (fun _ _ => by kernel_rfl))) (fun _ => rfl) (fun _ => rfl) rfl) (ev_str [65] (by kernel_rfl)) (fun _ => rfl) (fun _ => rfl) rfl)) ex_nil))))⟩
noncomputable def D_320 : { f : SX // ∀ {C : Cx}, HC C → ExT C 1 sc_320 vt_320 (bT 23) f } :=
  ⟨_, fun {C} hC => (ex_cons (D_320c.2 hC) (ex_cons (sm_assign 2 (.inr ⟨rfl, (by kernel_rfl)⟩) (ev_list (evs_cons ev_int evs_nil (fun _ => rfl))) (fun _ _ => by kernel_rfl)) (ex_cons (sm_for (.one 3 _ _ (.inr ⟨rfl, (by kernel_rfl)⟩)) (it_range1 (ev_builtin (v := .type "range") (by rw [hC]; kernel_rfl) (by kernel_rfl) (by decide) (by kernel_rfl) (by kernel_rfl)) ev_int (fun _ => rfl)) (ex_cons (sm_assign 4 (.inr ⟨rfl, (by kernel_rfl)⟩) (D_320l.2 hC) (fun _ _ => by kernel_rfl)) (ex_cons (D_320s.2 hC) ex_nil)) (fun _ _ => by kernel_rfl)) (D_320R.2 hC))))⟩
theorem F_320 {C : Cx} (hC : HC C) : FnT C 2 (.ref 320) (fnSem 1 0 vt_320 D_320.1) :=
  fn_pure 1 0 (is_320 hC) (D_320.2 hC) (by decide) (bp1 fun a => by kernel_rfl)
noncomputable def sc_298 : List (Str × NameKind) := [("names", .cell), ("under", .cell), ("rows", .local), ("turn", .local)]
noncomputable def vt_298 : VT := [("names", .own), ("under", .own), ("rows", .loc), ("turn", .loc)]
theorem is_298 {C : Cx} (hC : HC C) : FnIs C 298 (fdO (oA C.w.params 298)) (bT 19) sc_298 vt_298 :=
  ⟨⟨(oA C.w.params 298), (by rw [hC]; kernel_rfl), (by kernel_rfl)⟩, (by rw [hC]; kernel_rfl), (by kernel_rfl), (by kernel_rfl), (by kernel_rfl), (by kernel_rfl), (by kernel_rfl), (by kernel_rfl), (by kernel_rfl), (by kernel_rfl), (by kernel_rfl)⟩
noncomputable def D_298 : { f : SX // ∀ {C : Cx}, HC C → ExT C 0 sc_298 vt_298 (bT 19) f } :=
  ⟨_, fun {C} hC => (ex_cons (sm_assign 2 (.inl ⟨rfl, (by kernel_rfl)⟩) (ev_list (evs_cons (ev_str [] (by kernel_rfl)) evs_nil (fun _ => rfl))) (fun _ _ => by kernel_rfl)) (ex_cons (sm_for (.one 3 _ _ (.inl ⟨rfl, (by kernel_rfl)⟩)) (it_list (ev_cell 0 rfl (by decide) (by kernel_rfl) (by kernel_rfl))) (ex_cons (sm_comp2 2 (.inl ⟨rfl, (by kernel_rfl)⟩) (fun env S => sw_true S (by kernel_rfl) rfl (by kernel_rfl)) (cpk [("row", .own), ("name", .loc), ("names", .fre), ("under", .fre)] [none, none, some 0, some 1] (by kernel_rfl)) (fun _ _ => by kernel_rfl) (fun _ _ => by kernel_rfl) (it_list (ev_loc 2 rfl (by kernel_rfl) (by kernel_rfl))) (.one 0 _ _ (.inr ⟨rfl, (by kernel_rfl)⟩)) ifs_nil (it_list (ev_cell 2 rfl (by decide) (by kernel_rfl) (by kernel_rfl))) (.one 1 _ _ (.inl ⟨rfl, (by kernel_rfl)⟩)) (ifs_cons (ts_and2 (ts_cmp (ev_loc 1 rfl (by kernel_rfl) (by kernel_rfl)) (ev_cell 0 rfl (by decide) (by kernel_rfl) (by kernel_rfl)) rfl) (ts_cmp (ev_comp (cpk [("low", .loc), ("row", .fre)] [none, some 0] (by kernel_rfl)) (fun _ _ => by kernel_rfl) (it_list (ev_sub (ev_cell 3 rfl (by decide) (by kernel_rfl) (by kernel_rfl)) (ev_loc 1 rfl (by kernel_rfl) (by kernel_rfl)) (fun _ _ => by kernel_rfl))) (.one 0 _ _ (.inl ⟨rfl, (by kernel_rfl)⟩)) (ifs_cons (ts_cmp (ev_loc 0 rfl (by kernel_rfl) (by kernel_rfl)) (ev_cell 1 rfl (by decide) (by kernel_rfl) (by kernel_rfl)) rfl) ifs_nil) (ev_loc 0 rfl (by kernel_rfl) (by kernel_rfl))) (ev_list evs_nil) rfl)) ifs_nil) (ev_bin (ev_cell 0 rfl (by decide) (by kernel_rfl) (by kernel_rfl)) (ev_loc 1 rfl (by kernel_rfl) (by kernel_rfl)))) ex_nil) (fun _ _ => by kernel_rfl)) (ex_cons (sm_ret (ev_loc 2 rfl (by kernel_rfl) (by kernel_rfl))) ex_nil)))⟩
theorem F_298 {C : Cx} (hC : HC C) : FnT C 1 (.ref 298) (fnSem 2 0 vt_298 D_298.1) :=
  fn_pure 2 0 (is_298 hC) (D_298.2 hC) (by decide) (bp2 fun a b => by kernel_rfl)
noncomputable def okL : List (List Nat) := [[98], [99], [100], [101], [66], [67], [68], [69], [66, 67], [66, 68], [66, 69], [67, 66], [67, 68], [67, 69], [68, 66], [68, 67], [68, 69], [69, 66], [69, 67], [69, 68], [66, 67, 68], [66, 67, 69], [66, 68, 67], [66, 68, 69], [66, 69, 67], [66, 69, 68], [67, 66, 68], [67, 66, 69], [67, 68, 66], [67, 68, 69], [67, 69, 66], [67, 69, 68], [68, 66, 67], [68, 66, 69], [68, 67, 66], [68, 67, 69], [68, 69, 66], [68, 69, 67], [69, 66, 67], [69, 66, 68], [69, 67, 66], [69, 67, 68], [69, 68, 66], [69, 68, 67], [66, 67, 68, 69], [66, 67, 69, 68], [66, 68, 67, 69], [66, 68, 69, 67], [66, 69, 67, 68], [66, 69, 68, 67], [67, 66, 68, 69], [67, 66, 69, 68], [67, 68, 66, 69], [67, 68, 69, 66], [67, 69, 66, 68], [67, 69, 68, 66], [68, 66, 67, 69], [68, 66, 69, 67], [68, 67, 66, 69], [68, 67, 69, 66], [68, 69, 66, 67], [68, 69, 67, 66], [69, 66, 67, 68], [69, 66, 68, 67], [69, 67, 66, 68], [69, 67, 68, 66], [69, 68, 66, 67], [69, 68, 67, 66]]
noncomputable def okS (x : List Nat) : Bool := okL.contains x
noncomputable def patB (K : Frag) (p : Nat) : Bool := match K.lookup p with
  | some o => (match o.cls, o.dict with
    | .type "re.Pattern", none => true
    | _, _ => false)
  | none => false
theorem pat_of {K : Frag} {p : Nat} (h : patB K p = true) : ∃ o, K.lookup p = some o ∧ o.cls = .type "re.Pattern" ∧ o.dict = none := by
  unfold patB at h
  split at h
  · rename_i o ho
    refine ⟨o, ho, ?_⟩
    split at h
    · rename_i h1 h2; exact ⟨h1, h2⟩
    · cases h
  · cases h
theorem patobj_144 {C : Cx} (hC : HC C) : ∃ o, C.K.lookup 144 = some o ∧ o.cls = .type "re.Pattern" ∧ o.dict = none := pat_of (by rw [hC]; kernel_rfl)
theorem patobj_149 {C : Cx} (hC : HC C) : ∃ o, C.K.lookup 149 = some o ∧ o.cls = .type "re.Pattern" ∧ o.dict = none := pat_of (by rw [hC]; kernel_rfl)
noncomputable def missB : Option Fin → Bool
  | some (.done (.ret .none)) => true
  | _ => false
theorem miss_eq {o : Option Fin} (h : missB o = true) : o = some (.done (.ret .none)) := by
  unfold missB at h
  split at h
  · rfl
  · cases h
theorem miss_144 {C : Cx} (hC : HC C) (x : List Nat) (t : Tok) (h : okS x = true) : peek C.K ⟨C.prog, C.w.params⟩ (Builtin.«re.Pattern.search» ⟨[.ref 144, .str ⟨x.toArray⟩ t], []⟩) = some (.done (.ret .none)) := by
  rw [hC]
  exact miss_eq (List.all_eq_true.mp (show (okL.all fun x => missB (peek (getK.heap_1 C.w.params) ⟨C.prog, C.w.params⟩ (Builtin.«re.Pattern.search» ⟨[.ref 144, .str ⟨x.toArray⟩ t], []⟩))) = true by kernel_rfl) x (by simpa [okS] using h))
theorem miss_149 {C : Cx} (hC : HC C) (x : List Nat) (t : Tok) (h : okS x = true) : peek C.K ⟨C.prog, C.w.params⟩ (Builtin.«re.Pattern.search» ⟨[.ref 149, .str ⟨x.toArray⟩ t], []⟩) = some (.done (.ret .none)) := by
  rw [hC]
  exact miss_eq (List.all_eq_true.mp (show (okL.all fun x => missB (peek (getK.heap_1 C.w.params) ⟨C.prog, C.w.params⟩ (Builtin.«re.Pattern.search» ⟨[.ref 149, .str ⟨x.toArray⟩ t], []⟩))) = true by kernel_rfl) x (by simpa [okS] using h))
theorem pat144 {C : Cx} (hC : HC C) : PatOk C 144 okS := ⟨patobj_144 hC, miss_144 hC⟩
theorem pat149 {C : Cx} (hC : HC C) : PatOk C 149 okS := ⟨patobj_149 hC, miss_149 hC⟩
noncomputable def sc_171 : List (Str × NameKind) := [("self", .local), ("value", .local), ("name", .local), ("regex", .local), ("type", .globalImplicit), ("str", .globalImplicit), ("_name_disallowed_re", .globalImplicit), ("_value_disallowed_re", .globalImplicit), ("ValueError", .globalImplicit), ("AssertionError", .globalImplicit), ("repr", .globalImplicit)]
noncomputable def vt_171 : VT := [("self", .loc), ("value", .loc), ("name", .loc), ("regex", .loc)]
theorem is_171 {C : Cx} (hC : HC C) : FnIs C 171 (fdO (oA C.w.params 171)) (bM 14 1) sc_171 vt_171 :=
  ⟨⟨(oA C.w.params 171), (by rw [hC]; kernel_rfl), (by kernel_rfl)⟩, (by rw [hC]; kernel_rfl), (by kernel_rfl), (by kernel_rfl), (by kernel_rfl), (by kernel_rfl), (by kernel_rfl), (by kernel_rfl), (by kernel_rfl), (by kernel_rfl), (by kernel_rfl)⟩
noncomputable def D_171 : { f : SX // ∀ {C : Cx}, HC C → ExT C 0 sc_171 vt_171 (bM 14 1) f } :=
  ⟨_, fun {C} hC => (ex_cons (sm_if (ts_cmp (ev_call (ev_builtin (v := .type "type") (by rw [hC]; kernel_rfl) (by kernel_rfl) (by decide) (by kernel_rfl) (by kernel_rfl)) (evs_cons (ev_loc 1 rfl (by kernel_rfl) (by kernel_rfl)) evs_nil (fun _ => rfl)) (.inr (.inl ⟨_, rfl⟩)) fn_type (fun _ => rfl) (fun _ => rfl)) (ev_builtin (v := .type "str") (by rw [hC]; kernel_rfl) (by kernel_rfl) (by decide) (by kernel_rfl) (by kernel_rfl)) rfl) (ex_cons (sm_assign 3 (.inl ⟨rfl, (by kernel_rfl)⟩) (ev_ifexp (ts_val (ev_loc 2 rfl (by kernel_rfl) (by kernel_rfl)) (fun _ => rfl)) (ev_glob (v := .ref 144) (by rw [hC]; kernel_rfl) (by kernel_rfl) (by kernel_rfl)) (ev_glob (v := .ref 149) (by rw [hC]; kernel_rfl) (by kernel_rfl) (by kernel_rfl))) (fun _ _ => rfl)) (ex_cons (sm_if (ts_val (ts_search (pat144 hC) (pat149 hC) (ev_loc 3 rfl (by kernel_rfl) (by kernel_rfl)) (ev_loc 1 rfl (by kernel_rfl) (by kernel_rfl)) (fun _ => rfl) (fun _ => rfl) rfl) (fun _ => rfl)) (ex_cons sm_nothing ex_nil) ex_nil) (ex_cons (sm_ret (ev_loc 1 rfl (by kernel_rfl) (by kernel_rfl))) ex_nil))) ex_nil) (ex_cons sm_nothing ex_nil))⟩
theorem bind_171 {C : Cx} (hC : HC C) : ∀ (s : Shared) (a b c : Value), C.K.In s.heap → BindsTo s (fdO (oA C.w.params 171)) ⟨[a, b], [("name", c)]⟩ (((vt_171.take 3).map (·.1)).zip [a, b, c]) := fun s a b c X => BindsTo.of_eq (by kernel_rfl)
theorem m_171 {C : Cx} (hC : HC C) : MethOk C.K 270 "_convert_string_type" 171 := ⟨(by rw [hC]; kernel_rfl), (by rw [hC]; kernel_rfl), (by rw [hC]; kernel_rfl), (by rw [hC]; kernel_rfl)⟩
noncomputable def sc_178 : List (Str × NameKind) := [("self", .local), ("len", .globalImplicit)]
noncomputable def vt_178 : VT := [("self", .loc)]
theorem is_178 {C : Cx} (hC : HC C) : FnIs C 178 (fdO (oA C.w.params 178)) (bM 14 2) sc_178 vt_178 :=
  ⟨⟨(oA C.w.params 178), (by rw [hC]; kernel_rfl), (by kernel_rfl)⟩, (by rw [hC]; kernel_rfl), (by kernel_rfl), (by kernel_rfl), (by kernel_rfl), (by kernel_rfl), (by kernel_rfl), (by kernel_rfl), (by kernel_rfl), (by kernel_rfl), (by kernel_rfl)⟩
noncomputable def D_178 : { f : SX // ∀ {C : Cx}, HC C → ExT C 0 sc_178 vt_178 (bM 14 2) f } :=
  ⟨_, fun {C} hC => (ex_cons (sm_ret (ev_call (ev_builtin (v := .builtin "len") (by rw [hC]; kernel_rfl) (by kernel_rfl) (by decide) (by kernel_rfl) (by kernel_rfl)) (evs_cons (ev_attr 270 (ev_loc 0 rfl (by kernel_rfl) (by kernel_rfl)) (clsok__headers hC)) evs_nil (fun _ => rfl)) (.inr (.inr ⟨_, rfl⟩)) fn_len (fun _ => rfl) (fun _ => rfl))) ex_nil)⟩
theorem F_178 {C : Cx} (hC : HC C) : FnT C 1 (.ref 178) (fnSem 1 0 vt_178 D_178.1) :=
  fn_pure 1 0 (is_178 hC) (D_178.2 hC) (by decide) (bp1 fun a => by kernel_rfl)
noncomputable def sc_209 : List (Str × NameKind) := [("self", .local), ("name", .cell)]
noncomputable def vt_209 : VT := [("self", .loc), ("name", .own)]
theorem is_209 {C : Cx} (hC : HC C) : FnIs C 209 (fdO (oA C.w.params 209)) (bM 14 7) sc_209 vt_209 :=
  ⟨⟨(oA C.w.params 209), (by rw [hC]; kernel_rfl), (by kernel_rfl)⟩, (by rw [hC]; kernel_rfl), (by kernel_rfl), (by kernel_rfl), (by kernel_rfl), (by kernel_rfl), (by kernel_rfl), (by kernel_rfl), (by kernel_rfl), (by kernel_rfl), (by kernel_rfl)⟩
noncomputable def D_209 : { f : SX // ∀ {C : Cx}, HC C → ExT C 1 sc_209 vt_209 (bM 14 7) f } :=
  ⟨_, fun {C} hC => (ex_cons (sm_assign 1 (.inr ⟨rfl, (by kernel_rfl)⟩) (EvT.up (by decide) (ev_mkw (m_171 hC) (is_171 hC) (D_171.2 hC) (by decide) (ev_loc 0 rfl (by kernel_rfl) (by kernel_rfl)) (ev_lower (ev_cell 1 rfl (by decide) (by kernel_rfl) (by kernel_rfl)) (fun _ => rfl) rfl) (bind_171 hC) (fun _ => rfl) (fun _ => rfl))) (fun _ _ => rfl)) (ex_cons (sm_ret (ev_comp (cpk [("kv", .loc), ("name", .fre)] [none, some 1] (by kernel_rfl)) (fun _ _ => rfl) (it_list (ev_attr 270 (ev_loc 0 rfl (by kernel_rfl) (by kernel_rfl)) (clsok__headers hC))) (.one 0 _ _ (.inl ⟨rfl, (by kernel_rfl)⟩)) (ifs_cons (ts_cmp (ev_lower (ev_sub (ev_loc 0 rfl (by kernel_rfl) (by kernel_rfl)) ev_int (fun _ _ => rfl)) (fun _ => rfl) rfl) (ev_cell 1 rfl (by decide) (by kernel_rfl) (by kernel_rfl)) rfl) ifs_nil) (ev_sub (ev_loc 0 rfl (by kernel_rfl) (by kernel_rfl)) ev_int (fun _ _ => rfl)))) ex_nil))⟩
theorem F_209 {C : Cx} (hC : HC C) : FnT C 2 (.ref 209) (fnSem 2 0 vt_209 D_209.1) :=
  fn_pure 2 0 (is_209 hC) (D_209.2 hC) (by decide) (bp2 fun a b => by kernel_rfl)
theorem m_209 {C : Cx} (hC : HC C) : MethOk C.K 270 "get_all" 209 := ⟨(by rw [hC]; kernel_rfl), (by rw [hC]; kernel_rfl), (by rw [hC]; kernel_rfl), (by rw [hC]; kernel_rfl)⟩
noncomputable def sc_217 : List (Str × NameKind) := [("self", .local), ("name", .local), ("default", .local), ("k", .local), ("v", .local)]
noncomputable def vt_217 : VT := [("self", .loc), ("name", .loc), ("default", .loc), ("k", .loc), ("v", .loc)]
theorem is_217 {C : Cx} (hC : HC C) : FnIs C 217 (fdO (oA C.w.params 217)) (bM 14 8) sc_217 vt_217 :=
  ⟨⟨(oA C.w.params 217), (by rw [hC]; kernel_rfl), (by kernel_rfl)⟩, (by rw [hC]; kernel_rfl), (by kernel_rfl), (by kernel_rfl), (by kernel_rfl), (by kernel_rfl), (by kernel_rfl), (by kernel_rfl), (by kernel_rfl), (by kernel_rfl), (by kernel_rfl)⟩
noncomputable def D_217 : { f : SX // ∀ {C : Cx}, HC C → ExT C 1 sc_217 vt_217 (bM 14 8) f } :=
  ⟨_, fun {C} hC => (ex_cons (sm_assign 1 (.inl ⟨rfl, (by kernel_rfl)⟩) (EvT.up (by decide) (ev_mkw (m_171 hC) (is_171 hC) (D_171.2 hC) (by decide) (ev_loc 0 rfl (by kernel_rfl) (by kernel_rfl)) (ev_lower (ev_loc 1 rfl (by kernel_rfl) (by kernel_rfl)) (fun _ => rfl) rfl) (bind_171 hC) (fun _ => rfl) (fun _ => rfl))) (fun _ _ => rfl)) (ex_cons (sm_for (.two 3 4 _ _ _ _ _ _ (.inl ⟨rfl, (by kernel_rfl)⟩) (.inl ⟨rfl, (by kernel_rfl)⟩)) (it_pairs (ev_attr 270 (ev_loc 0 rfl (by kernel_rfl) (by kernel_rfl)) (clsok__headers hC))) (ex_cons (sm_if (ts_cmp (ev_lower (ev_loc 3 rfl (by kernel_rfl) (by kernel_rfl)) (fun _ => rfl) rfl) (ev_loc 1 rfl (by kernel_rfl) (by kernel_rfl)) rfl) (ex_cons (sm_ret (ev_loc 4 rfl (by kernel_rfl) (by kernel_rfl))) ex_nil) ex_nil) ex_nil) (fun _ _ => rfl)) (ex_cons (sm_ret (ev_loc 2 rfl (by kernel_rfl) (by kernel_rfl))) ex_nil)))⟩
theorem F_217 {C : Cx} (hC : HC C) : FnT C 2 (.ref 217) (fnSem 2 1 vt_217 D_217.1) :=
  fn_pure 2 1 (is_217 hC) (D_217.2 hC) (by decide) (bpd2 (ps := nthA (bT 14) 8) (T := 210) (by kernel_rfl) (by kernel_rfl) (by rw [hC]; kernel_rfl) fun a b => ⟨_, rfl, by kernel_rfl⟩)
theorem m_217 {C : Cx} (hC : HC C) : MethOk C.K 270 "get" 217 := ⟨(by rw [hC]; kernel_rfl), (by rw [hC]; kernel_rfl), (by rw [hC]; kernel_rfl), (by rw [hC]; kernel_rfl)⟩
noncomputable def sc_222 : List (Str × NameKind) := [("self", .local)]
noncomputable def vt_222 : VT := [("self", .loc)]
theorem is_222 {C : Cx} (hC : HC C) : FnIs C 222 (fdO (oA C.w.params 222)) (bM 14 9) sc_222 vt_222 :=
  ⟨⟨(oA C.w.params 222), (by rw [hC]; kernel_rfl), (by kernel_rfl)⟩, (by rw [hC]; kernel_rfl), (by kernel_rfl), (by kernel_rfl), (by kernel_rfl), (by kernel_rfl), (by kernel_rfl), (by kernel_rfl), (by kernel_rfl), (by kernel_rfl), (by kernel_rfl)⟩
noncomputable def D_222 : { f : SX // ∀ {C : Cx}, HC C → ExT C 0 sc_222 vt_222 (bM 14 9) f } :=
  ⟨_, fun {C} hC => (ex_cons (sm_ret (ev_comp (cpk [("k", .loc), ("v", .loc)] [none, none] (by kernel_rfl)) (fun _ _ => rfl) (it_pairs (ev_attr 270 (ev_loc 0 rfl (by kernel_rfl) (by kernel_rfl)) (clsok__headers hC))) (.two 0 1 _ _ _ _ _ _ (.inl ⟨rfl, (by kernel_rfl)⟩) (.inl ⟨rfl, (by kernel_rfl)⟩)) ifs_nil (ev_loc 0 rfl (by kernel_rfl) (by kernel_rfl)))) ex_nil)⟩
theorem F_222 {C : Cx} (hC : HC C) : FnT C 1 (.ref 222) (fnSem 1 0 vt_222 D_222.1) :=
  fn_pure 1 0 (is_222 hC) (D_222.2 hC) (by decide) (bp1 fun a => by kernel_rfl)
theorem m_222 {C : Cx} (hC : HC C) : MethOk C.K 270 "keys" 222 := ⟨(by rw [hC]; kernel_rfl), (by rw [hC]; kernel_rfl), (by rw [hC]; kernel_rfl), (by rw [hC]; kernel_rfl)⟩
noncomputable def sc_260 : List (Str × NameKind) := [("self", .local), ("name", .local), ("value", .local), ("result", .local)]
noncomputable def vt_260 : VT := [("self", .loc), ("name", .loc), ("value", .loc), ("result", .loc)]
theorem is_260 {C : Cx} (hC : HC C) : FnIs C 260 (fdO (oA C.w.params 260)) (bM 14 15) sc_260 vt_260 :=
  ⟨⟨(oA C.w.params 260), (by rw [hC]; kernel_rfl), (by kernel_rfl)⟩, (by rw [hC]; kernel_rfl), (by kernel_rfl), (by kernel_rfl), (by kernel_rfl), (by kernel_rfl), (by kernel_rfl), (by kernel_rfl), (by kernel_rfl), (by kernel_rfl), (by kernel_rfl)⟩
noncomputable def D_260 : { f : SX // ∀ {C : Cx}, HC C → ExT C 3 sc_260 vt_260 (bM 14 15) f } :=
  ⟨_, fun {C} hC => (ex_cons (sm_assign 3 (.inl ⟨rfl, (by kernel_rfl)⟩) (ev_mcall 270 217 (m_217 hC) (ev_loc 0 rfl (by kernel_rfl) (by kernel_rfl)) (evs_cons (ev_loc 1 rfl (by kernel_rfl) (by kernel_rfl)) evs_nil (fun _ => rfl)) (FnT.up (by decide) (F_217 hC)) (fun _ => rfl) (fun _ => rfl) (fun _ => rfl)) (fun _ _ => rfl)) (ex_cons (sm_if (ts_cmp (ev_loc 3 rfl (by kernel_rfl) (by kernel_rfl)) ev_none rfl) (ex_cons (sm_append (ev_attr 270 (ev_loc 0 rfl (by kernel_rfl) (by kernel_rfl)) (clsok__headers hC)) (ev_tuple (evs_cons (EvT.up (by decide) (ev_mkw (m_171 hC) (is_171 hC) (D_171.2 hC) (by decide) (ev_loc 0 rfl (by kernel_rfl) (by kernel_rfl)) (ev_loc 1 rfl (by kernel_rfl) (by kernel_rfl)) (bind_171 hC) (fun _ => rfl) (fun _ => rfl))) (evs_cons (EvT.up (by decide) (ev_mkw (m_171 hC) (is_171 hC) (D_171.2 hC) (by decide) (ev_loc 0 rfl (by kernel_rfl) (by kernel_rfl)) (ev_loc 2 rfl (by kernel_rfl) (by kernel_rfl)) (bind_171 hC) (fun _ => rfl) (fun _ => rfl))) evs_nil (fun _ => rfl)) (fun _ => rfl))) (fun _ => rfl) (fun _ => rfl) rfl) (ex_cons (sm_ret (ev_loc 2 rfl (by kernel_rfl) (by kernel_rfl))) ex_nil)) (ex_cons (sm_ret (ev_loc 3 rfl (by kernel_rfl) (by kernel_rfl))) ex_nil)) ex_nil))⟩
theorem bind_260 {C : Cx} (hC : HC C) : ∀ (s : Shared) (vs : List Value), C.K.In s.heap → vs.length = 3 → BindsTo s (fdO (oA C.w.params 260)) ⟨vs, []⟩ (((vt_260.take 3).map (·.1)).zip vs) := bp3 fun a b c => by kernel_rfl
theorem m_260 {C : Cx} (hC : HC C) : MethOk C.K 270 "setdefault" 260 := ⟨(by rw [hC]; kernel_rfl), (by rw [hC]; kernel_rfl), (by rw [hC]; kernel_rfl), (by rw [hC]; kernel_rfl)⟩
noncomputable def sc_164 : List (Str × NameKind) := [("self", .local), ("headers", .local), ("k", .local), ("v", .local), ("type", .globalImplicit), ("list", .globalImplicit), ("TypeError", .globalImplicit), ("__debug__", .globalImplicit)]
noncomputable def vt_164 : VT := [("self", .loc), ("headers", .loc), ("k", .loc), ("v", .loc)]
theorem is_164 {C : Cx} (hC : HC C) : FnIs C 164 (fdO (oA C.w.params 164)) (bM 14 0) sc_164 vt_164 :=
  ⟨⟨(oA C.w.params 164), (by rw [hC]; kernel_rfl), (by kernel_rfl)⟩, (by rw [hC]; kernel_rfl), (by kernel_rfl), (by kernel_rfl), (by kernel_rfl), (by kernel_rfl), (by kernel_rfl), (by kernel_rfl), (by kernel_rfl), (by kernel_rfl), (by kernel_rfl)⟩
noncomputable def D_164 : { f : SX // ∀ {C : Cx}, HC C → ExT C 1 sc_164 vt_164 (bM 14 0) f } :=
  ⟨_, fun {C} hC => (ex_cons (sm_assign 1 (.inl ⟨rfl, (by kernel_rfl)⟩) (ev_ifexp (ts_cmp (ev_loc 1 rfl (by kernel_rfl) (by kernel_rfl)) ev_none rfl) (ev_loc 1 rfl (by kernel_rfl) (by kernel_rfl)) (ev_list evs_nil)) (fun _ _ => by kernel_rfl)) (ex_cons (sm_if (ts_cmp (ev_call (ev_builtin (v := .type "type") (by rw [hC]; kernel_rfl) (by kernel_rfl) (by decide) (by kernel_rfl) (by kernel_rfl)) (evs_cons (ev_loc 1 rfl (by kernel_rfl) (by kernel_rfl)) evs_nil (fun _ => rfl)) (.inr (.inl ⟨_, rfl⟩)) fn_type (fun _ => rfl) (fun _ => rfl)) (ev_builtin (v := .type "list") (by rw [hC]; kernel_rfl) (by kernel_rfl) (by decide) (by kernel_rfl) (by kernel_rfl)) rfl) (ex_cons sm_nothing ex_nil) ex_nil) (ex_cons (sm_setattr 270 (ev_loc 0 rfl (by kernel_rfl) (by kernel_rfl)) (ev_loc 1 rfl (by kernel_rfl) (by kernel_rfl)) (setok__headers hC) (fun _ => rfl)) (ex_cons (sm_if (ts_val ev_bool (fun _ => by kernel_rfl)) (ex_cons (sm_for (.two 2 3 _ _ _ _ _ _ (.inl ⟨rfl, (by kernel_rfl)⟩) (.inl ⟨rfl, (by kernel_rfl)⟩)) (it_pairs (ev_loc 1 rfl (by kernel_rfl) (by kernel_rfl))) (ex_cons (sm_expr (EvT.up (by decide) (ev_mkw (m_171 hC) (is_171 hC) (D_171.2 hC) (by decide) (ev_loc 0 rfl (by kernel_rfl) (by kernel_rfl)) (ev_loc 2 rfl (by kernel_rfl) (by kernel_rfl)) (bind_171 hC) (fun _ => rfl) (fun _ => rfl))) (fun _ => rfl)) (ex_cons (sm_expr (EvT.up (by decide) (ev_mkw (m_171 hC) (is_171 hC) (D_171.2 hC) (by decide) (ev_loc 0 rfl (by kernel_rfl) (by kernel_rfl)) (ev_loc 3 rfl (by kernel_rfl) (by kernel_rfl)) (bind_171 hC) (fun _ => rfl) (fun _ => rfl))) (fun _ => rfl)) ex_nil)) (fun _ _ => by kernel_rfl)) ex_nil) ex_nil) ex_nil))))⟩
theorem bcd1 {C : Cx} {fd : FuncData} {ps : Arguments} {vt : VT} {T : Addr} (hp : fd.params = ps) (hd : fd.defaults = .ref T) (ho : C.K.lookup T = some { cls := .type "tuple", data := .seq #[.none] })
    (h : ∀ a b, ∃ k, bindArgs { fd with params := ps } ⟨[a, b], []⟩ = seqItems? fd.defaults >>= k ∧ k (some #[.none]) = pure (((vt.take 2).map (·.1)).zip [a, b])) :
    ∀ (s : Shared) (vs : List Value), C.K.In s.heap → vs.length = 1 + 1 → BindsTo s fd ⟨vs, []⟩ (((vt.take (1 + 1 + 0)).map (·.1)).zip (vs ++ List.replicate 0 .none)) :=
  fun s vs X hl => by obtain ⟨a, b, rfl⟩ := len2 hl; exact bdf X hp hd ho (h a b)
theorem F_270 {C : Cx} (hC : HC C) : FnT C 3 (.ref 270) (ctorSem 270 1 0 vt_164 D_164.1) :=
  fn_ctor 1 0 (is_164 hC) (D_164.2 hC) (by decide) (by rw [hC]; kernel_rfl) (by rw [hC]; kernel_rfl) (by rw [hC]; kernel_rfl) (bcd1 (ps := nthA (bT 14) 0) (T := 157) (by kernel_rfl) (by kernel_rfl) (by rw [hC]; kernel_rfl) fun a b => ⟨_, rfl, by kernel_rfl⟩)
theorem F_270_0 {C : Cx} (hC : HC C) : FnT C 3 (.ref 270) (ctorSem 270 0 1 vt_164 D_164.1) :=
  fn_ctor 0 1 (is_164 hC) (D_164.2 hC) (by decide) (by rw [hC]; kernel_rfl) (by rw [hC]; kernel_rfl) (by rw [hC]; kernel_rfl) (bcd0 (ps := nthA (bT 14) 0) (T := 157) (by kernel_rfl) (by kernel_rfl) (by rw [hC]; kernel_rfl) fun a => ⟨_, rfl, by kernel_rfl⟩)
noncomputable def sc_293 : List (Str × NameKind) := [("names", .cell), ("leads", .local), ("lines", .cell), ("Headers", .globalImplicit), ("range", .globalImplicit)]
noncomputable def vt_293 : VT := [("names", .own), ("leads", .loc), ("lines", .own)]
theorem is_293 {C : Cx} (hC : HC C) : FnIs C 293 (fdO (oA C.w.params 293)) (bT 18) sc_293 vt_293 :=
  ⟨⟨(oA C.w.params 293), (by rw [hC]; kernel_rfl), (by kernel_rfl)⟩, (by rw [hC]; kernel_rfl), (by kernel_rfl), (by kernel_rfl), (by kernel_rfl), (by kernel_rfl), (by kernel_rfl), (by kernel_rfl), (by kernel_rfl), (by kernel_rfl), (by kernel_rfl)⟩
noncomputable def D_293a : { f : SE // ∀ {C : Cx}, HC C → EvT C 4 sc_293 vt_293 (valOf (stN (bT 18) 0)) f } :=
  ⟨_, fun {C} hC => (ev_comp (cpk [("lead", .loc)] [none] (by kernel_rfl)) (fun _ _ => by kernel_rfl) (it_list (ev_loc 1 rfl (by kernel_rfl) (by kernel_rfl))) (.one 0 _ _ (.inl ⟨rfl, (by kernel_rfl)⟩)) ifs_nil (ev_call (ev_glob (v := .ref 135) (by rw [hC]; kernel_rfl) (by kernel_rfl) (by kernel_rfl)) (evs_cons (ev_loc 0 rfl (by kernel_rfl) (by kernel_rfl)) evs_nil (fun _ => rfl)) (.inl (by rw [hC]; kernel_rfl)) (FnT.up (by decide) (F_135 hC)) (fun _ => rfl) (fun _ => rfl)))⟩
noncomputable def D_293b : { f : SE // ∀ {C : Cx}, HC C → EvT C 4 sc_293 vt_293 (argN (valOf (stN (bT 18) 1)) 0) f } :=
  ⟨_, fun {C} hC => (ev_comp2 (cpk [("j", .loc), ("i", .loc), ("lines", .fre), ("names", .fre)] [none, none, some 2, some 0] (by kernel_rfl)) (fun _ _ => by kernel_rfl) (fun _ _ => by kernel_rfl) (it_range1 (ev_builtin (v := .type "range") (by rw [hC]; kernel_rfl) (by kernel_rfl) (by decide) (by kernel_rfl) (by kernel_rfl)) ev_int (fun _ => rfl)) (.one 0 _ _ (.inl ⟨rfl, (by kernel_rfl)⟩)) ifs_nil (it_range1 (ev_builtin (v := .type "range") (by rw [hC]; kernel_rfl) (by kernel_rfl) (by decide) (by kernel_rfl) (by kernel_rfl)) ev_int (fun _ => rfl)) (.one 1 _ _ (.inl ⟨rfl, (by kernel_rfl)⟩)) (ifs_cons (ts_val (ev_mcall 135 125 (m_125 hC) (ev_sub (ev_cell 2 rfl (by decide) (by kernel_rfl) (by kernel_rfl)) (ev_loc 1 rfl (by kernel_rfl) (by kernel_rfl)) (fun _ _ => by kernel_rfl)) (evs_cons (ev_sub (ev_cell 2 rfl (by decide) (by kernel_rfl) (by kernel_rfl)) (ev_loc 0 rfl (by kernel_rfl) (by kernel_rfl)) (fun _ _ => by kernel_rfl)) evs_nil (fun _ => rfl)) (FnT.up (by decide) (F_125 hC)) (fun _ => rfl) (fun _ => rfl) (fun _ => rfl)) (fun _ => rfl)) ifs_nil) (ev_tuple (evs_cons (ev_sub (ev_cell 3 rfl (by decide) (by kernel_rfl) (by kernel_rfl)) (ev_loc 0 rfl (by kernel_rfl) (by kernel_rfl)) (fun _ _ => by kernel_rfl)) (evs_cons (ev_sub (ev_cell 3 rfl (by decide) (by kernel_rfl) (by kernel_rfl)) (ev_loc 1 rfl (by kernel_rfl) (by kernel_rfl)) (fun _ _ => by kernel_rfl)) evs_nil (fun _ => rfl)) (fun _ => rfl))))⟩
noncomputable def D_293 : { f : SX // ∀ {C : Cx}, HC C → ExT C 4 sc_293 vt_293 (bT 18) f } :=
  ⟨_, fun {C} hC => (ex_cons (sm_assign 2 (.inr ⟨rfl, (by kernel_rfl)⟩) (D_293a.2 hC) (fun env S => sw_false S (by kernel_rfl))) (ex_cons (sm_ret (ev_call (ev_glob (v := .ref 270) (by rw [hC]; kernel_rfl) (by kernel_rfl) (by kernel_rfl)) (evs_cons (D_293b.2 hC) evs_nil (fun _ => rfl)) (.inl (by rw [hC]; kernel_rfl)) (FnT.up (by decide) (F_270 hC)) (fun _ => rfl) (fun _ => rfl))) ex_nil))⟩
theorem F_293 {C : Cx} (hC : HC C) : FnT C 5 (.ref 293) (fnSem 2 0 vt_293 D_293.1) :=
  fn_pure 2 0 (is_293 hC) (D_293.2 hC) (by decide) (bp2 fun a b => by kernel_rfl)
noncomputable def sc_308 : List (Str × NameKind) := [("names", .local), ("under", .cell), ("lengths", .local), ("chains", .local), ("done", .local), ("chain", .cell), ("top", .cell), ("longer", .local), ("Headers", .globalImplicit), ("len", .globalImplicit), ("Int2AP", .globalImplicit)]
noncomputable def vt_308 : VT := [("names", .loc), ("under", .own), ("lengths", .loc), ("chains", .loc), ("done", .loc), ("chain", .own), ("top", .own), ("longer", .loc)]
theorem is_308 {C : Cx} (hC : HC C) : FnIs C 308 (fdO (oA C.w.params 308)) (bT 21) sc_308 vt_308 :=
  ⟨⟨(oA C.w.params 308), (by rw [hC]; kernel_rfl), (by kernel_rfl)⟩, (by rw [hC]; kernel_rfl), (by kernel_rfl), (by kernel_rfl), (by kernel_rfl), (by kernel_rfl), (by kernel_rfl), (by kernel_rfl), (by kernel_rfl), (by kernel_rfl), (by kernel_rfl)⟩
noncomputable def D_308 : { f : SX // ∀ {C : Cx}, HC C → ExT C 5 sc_308 vt_308 (bT 21) f } :=
  ⟨_, fun {C} hC => (ex_cons (sm_thaw 2 (.inl ⟨rfl, (by kernel_rfl)⟩) (ev_glob (v := .ref 270) (by rw [hC]; kernel_rfl) (by kernel_rfl) (by kernel_rfl)) (by rw [hC]; kernel_rfl) (FnT.up (by decide) (F_270_0 hC)) (fun _ _ => by kernel_rfl)) (ex_cons (sm_comp 3 (.inl ⟨rfl, (by kernel_rfl)⟩) (fun env S => sw_true S (by kernel_rfl) rfl (by kernel_rfl)) (cpk [("name", .loc), ("under", .fre)] [none, some 1] (by kernel_rfl)) (fun _ _ => by kernel_rfl) (it_list (ev_loc 0 rfl (by kernel_rfl) (by kernel_rfl))) (.one 0 _ _ (.inl ⟨rfl, (by kernel_rfl)⟩)) (ifs_cons (ts_cmp (ev_sub (ev_cell 1 rfl (by decide) (by kernel_rfl) (by kernel_rfl)) (ev_loc 0 rfl (by kernel_rfl) (by kernel_rfl)) (fun _ _ => by kernel_rfl)) (ev_list evs_nil) rfl) ifs_nil) (ev_loc 0 rfl (by kernel_rfl) (by kernel_rfl))) (ex_cons (sm_assign 4 (.inl ⟨rfl, (by kernel_rfl)⟩) ev_int (fun _ _ => by kernel_rfl)) (ex_cons (sm_while 4096 (ts_cmp (ev_loc 4 rfl (by kernel_rfl) (by kernel_rfl)) (ev_call (ev_builtin (v := .builtin "len") (by rw [hC]; kernel_rfl) (by kernel_rfl) (by decide) (by kernel_rfl) (by kernel_rfl)) (evs_cons (ev_loc 3 rfl (by kernel_rfl) (by kernel_rfl)) evs_nil (fun _ => rfl)) (.inr (.inr ⟨_, rfl⟩)) fn_len (fun _ => rfl) (fun _ => rfl)) rfl) (ex_cons (sm_assign 5 (.inr ⟨rfl, (by kernel_rfl)⟩) (ev_sub (ev_loc 3 rfl (by kernel_rfl) (by kernel_rfl)) (ev_loc 4 rfl (by kernel_rfl) (by kernel_rfl)) (fun _ _ => by kernel_rfl)) (fun _ _ => by kernel_rfl)) (ex_cons (sm_assign 6 (.inr ⟨rfl, (by kernel_rfl)⟩) (ev_sub (ev_cell 5 rfl (by decide) (by kernel_rfl) (by kernel_rfl)) (ev_neg ev_int) (fun _ _ => by kernel_rfl)) (fun _ _ => by kernel_rfl)) (ex_cons (sm_comp 7 (.inl ⟨rfl, (by kernel_rfl)⟩) (fun env S => sw_true S (by kernel_rfl) rfl (by kernel_rfl)) (cpk [("name", .loc), ("chain", .fre), ("top", .fre), ("under", .fre)] [none, some 5, some 6, some 1] (by kernel_rfl)) (fun _ _ => by kernel_rfl) (it_list (ev_loc 0 rfl (by kernel_rfl) (by kernel_rfl))) (.one 0 _ _ (.inl ⟨rfl, (by kernel_rfl)⟩)) (ifs_cons (ts_and2 (ts_cmp (ev_cell 2 rfl (by decide) (by kernel_rfl) (by kernel_rfl)) (ev_sub (ev_cell 3 rfl (by decide) (by kernel_rfl) (by kernel_rfl)) (ev_loc 0 rfl (by kernel_rfl) (by kernel_rfl)) (fun _ _ => by kernel_rfl)) rfl) (ts_cmp (ev_comp (cpk [("low", .loc), ("top", .fre), ("under", .fre)] [none, some 2, some 3] (by kernel_rfl)) (fun _ _ => by kernel_rfl) (it_list (ev_sub (ev_cell 3 rfl (by decide) (by kernel_rfl) (by kernel_rfl)) (ev_loc 0 rfl (by kernel_rfl) (by kernel_rfl)) (fun _ _ => by kernel_rfl))) (.one 0 _ _ (.inl ⟨rfl, (by kernel_rfl)⟩)) (ifs_cons (ts_cmp (ev_cell 1 rfl (by decide) (by kernel_rfl) (by kernel_rfl)) (ev_sub (ev_cell 2 rfl (by decide) (by kernel_rfl) (by kernel_rfl)) (ev_loc 0 rfl (by kernel_rfl) (by kernel_rfl)) (fun _ _ => by kernel_rfl)) rfl) ifs_nil) (ev_loc 0 rfl (by kernel_rfl) (by kernel_rfl))) (ev_list evs_nil) rfl)) ifs_nil) (ev_bin (ev_cell 1 rfl (by decide) (by kernel_rfl) (by kernel_rfl)) (ev_loc 0 rfl (by kernel_rfl) (by kernel_rfl)))) (ex_cons (sm_if (ts_cmp (ev_loc 7 rfl (by kernel_rfl) (by kernel_rfl)) (ev_list evs_nil) rfl) (ex_cons (sm_mcall 3 (m_260 hC) (is_260 hC) (ExT.up (by decide) (D_260.2 hC)) (by decide) (ev_loc 2 rfl (by kernel_rfl) (by kernel_rfl)) (evs_cons (ev_decode (ev_call (ev_glob (v := .ref 45) (by rw [hC]; kernel_rfl) (by kernel_rfl) (by kernel_rfl)) (evs_cons (ev_call (ev_builtin (v := .builtin "len") (by rw [hC]; kernel_rfl) (by kernel_rfl) (by decide) (by kernel_rfl) (by kernel_rfl)) (evs_cons (ev_cell 5 rfl (by decide) (by kernel_rfl) (by kernel_rfl)) evs_nil (fun _ => rfl)) (.inr (.inr ⟨_, rfl⟩)) fn_len (fun _ => rfl) (fun _ => rfl)) evs_nil (fun _ => rfl)) (.inl (by rw [hC]; kernel_rfl)) (FnT.up (by decide) (F_45 hC)) (fun _ => rfl) (fun _ => rfl)) (ev_str [97, 115, 99, 105, 105] (by kernel_rfl)) (fun _ => rfl) (fun _ => rfl) rfl) (evs_cons (ev_cell 5 rfl (by decide) (by kernel_rfl) (by kernel_rfl)) evs_nil (fun _ => rfl)) (fun _ => rfl)) (bind_260 hC) (fun _ => rfl) (fun _ => rfl) (fun _ => rfl)) ex_nil) ex_nil) (ex_cons (sm_assign 3 (.inl ⟨rfl, (by kernel_rfl)⟩) (ev_bin (ev_loc 3 rfl (by kernel_rfl) (by kernel_rfl)) (ev_loc 7 rfl (by kernel_rfl) (by kernel_rfl))) (fun _ _ => by kernel_rfl)) (ex_cons (sm_assign 4 (.inl ⟨rfl, (by kernel_rfl)⟩) (ev_bin (ev_loc 4 rfl (by kernel_rfl) (by kernel_rfl)) ev_int) (fun _ _ => by kernel_rfl)) ex_nil))))))) (ex_cons (sm_ret (ev_loc 2 rfl (by kernel_rfl) (by kernel_rfl))) ex_nil)))))⟩
theorem F_308 {C : Cx} (hC : HC C) : FnT C 6 (.ref 308) (fnSem 2 0 vt_308 D_308.1) :=
  fn_pure 2 0 (is_308 hC) (D_308.2 hC) (by decide) (bp2 fun a b => by kernel_rfl)
theorem lenH {C : Cx} (hC : HC C) : FnT C 2 (.builtin "len") (lenI 270 (fnSem 1 0 vt_178 D_178.1)) := fn_lenI (f := 178) (by rw [hC]; kernel_rfl) (by rw [hC]; kernel_rfl) (F_178 hC)
noncomputable def sc_327 : List (Str × NameKind) := [("word", .local), ("names", .local), ("lengths", .local), ("longest", .local), ("max", .globalImplicit), ("len", .globalImplicit), ("eq", .globalImplicit)]
noncomputable def vt_327 : VT := [("word", .loc), ("names", .loc), ("lengths", .loc), ("longest", .loc)]
theorem is_327 {C : Cx} (hC : HC C) : FnIs C 327 (fdO (oA C.w.params 327)) (bT 24) sc_327 vt_327 :=
  ⟨⟨(oA C.w.params 327), (by rw [hC]; kernel_rfl), (by kernel_rfl)⟩, (by rw [hC]; kernel_rfl), (by kernel_rfl), (by kernel_rfl), (by kernel_rfl), (by kernel_rfl), (by kernel_rfl), (by kernel_rfl), (by kernel_rfl), (by kernel_rfl), (by kernel_rfl)⟩
noncomputable def D_327 : { f : SX // ∀ {C : Cx}, HC C → ExT C 3 sc_327 vt_327 (bT 24) f } :=
  ⟨_, fun {C} hC => (ex_cons (sm_assign 3 (.inl ⟨rfl, (by kernel_rfl)⟩) (ev_bin (ev_find (ev_loc 1 rfl (by kernel_rfl) (by kernel_rfl)) (ev_call (ev_builtin (v := .builtin "max") (by rw [hC]; kernel_rfl) (by kernel_rfl) (by decide) (by kernel_rfl) (by kernel_rfl)) (evs_cons (ev_mcall0 270 222 (m_222 hC) (ev_loc 2 rfl (by kernel_rfl) (by kernel_rfl)) (FnT.up (by decide) (F_222 hC)) (fun _ => rfl)) evs_nil (fun _ => rfl)) (.inr (.inr ⟨_, rfl⟩)) fn_maxs (fun _ => rfl) (fun _ => rfl)) (fun _ => rfl) (fun _ => rfl) rfl) ev_int) (fun _ _ => by kernel_rfl)) (ex_cons (sm_ret (ev_and2 (ev_cmp (ev_bin (ev_call (ev_builtin (v := .builtin "len") (by rw [hC]; kernel_rfl) (by kernel_rfl) (by decide) (by kernel_rfl) (by kernel_rfl)) (evs_cons (ev_loc 0 rfl (by kernel_rfl) (by kernel_rfl)) evs_nil (fun _ => rfl)) (.inr (.inr ⟨_, rfl⟩)) (FnT.up (by decide) (lenH hC)) (fun _ => rfl) (fun _ => rfl)) (ev_loc 3 rfl (by kernel_rfl) (by kernel_rfl))) ev_int rfl) (ev_cmp (ev_call (ev_glob (v := .ref 52) (by rw [hC]; kernel_rfl) (by kernel_rfl) (by kernel_rfl)) (evs_cons (ev_loc 0 rfl (by kernel_rfl) (by kernel_rfl)) (evs_cons (ev_slice (ev_loc 0 rfl (by kernel_rfl) (by kernel_rfl)) pa_none pa_none (pa_some (ev_neg ev_int)) (fun _ _ => by first | exact .inl rfl | exact .inr rfl)) evs_nil (fun _ => rfl)) (fun _ => rfl)) (.inl (by rw [hC]; kernel_rfl)) (FnT.up (by decide) (F_52 hC)) (fun _ => rfl) (fun _ => rfl)) (ev_cmp (ev_call (ev_builtin (v := .builtin "len") (by rw [hC]; kernel_rfl) (by kernel_rfl) (by decide) (by kernel_rfl) (by kernel_rfl)) (evs_cons (ev_loc 2 rfl (by kernel_rfl) (by kernel_rfl)) evs_nil (fun _ => rfl)) (.inr (.inr ⟨_, rfl⟩)) (FnT.up (by decide) (lenH hC)) (fun _ => rfl) (fun _ => rfl)) ev_int rfl) rfl))) ex_nil))⟩
theorem F_327 {C : Cx} (hC : HC C) : FnT C 4 (.ref 327) (fnSem 3 0 vt_327 D_327.1) :=
  fn_pure 3 0 (is_327 hC) (D_327.2 hC) (by decide) (bp3z fun a b c => by kernel_rfl)
noncomputable def sc_332 : List (Str × NameKind) := [("script", .local), ("leads", .local), ("names", .local), ("table", .cell), ("under", .local), ("word", .local), ("_law_leads", .globalImplicit), ("_law_cells", .globalImplicit), ("range", .globalImplicit), ("_law_table", .globalImplicit), ("_law_word", .globalImplicit), ("_law_orders", .globalImplicit), ("_law_due", .globalImplicit), ("_law_holds", .globalImplicit), ("_law_lengths", .globalImplicit)]
noncomputable def vt_332 : VT := [("script", .loc), ("leads", .loc), ("names", .loc), ("table", .own), ("under", .loc), ("word", .loc)]
theorem is_332 {C : Cx} (hC : HC C) : FnIs C 332 (fdO (oA C.w.params 332)) (bT 25) sc_332 vt_332 :=
  ⟨⟨(oA C.w.params 332), (by rw [hC]; kernel_rfl), (by kernel_rfl)⟩, (by rw [hC]; kernel_rfl), (by kernel_rfl), (by kernel_rfl), (by kernel_rfl), (by kernel_rfl), (by kernel_rfl), (by kernel_rfl), (by kernel_rfl), (by kernel_rfl), (by kernel_rfl)⟩
noncomputable def D_332l : { f : SX // ∀ {C : Cx}, HC C → SmT C 8 sc_332 vt_332 (stN (bT 25) 0) f } :=
  ⟨_, fun {C} hC => (sm_assign 1 (.inl ⟨rfl, (by kernel_rfl)⟩) (ev_call (ev_glob (v := .ref 288) (by rw [hC]; kernel_rfl) (by kernel_rfl) (by kernel_rfl)) (evs_cons (ev_call (ev_glob (v := .ref 281) (by rw [hC]; kernel_rfl) (by kernel_rfl) (by kernel_rfl)) (evs_cons (ev_loc 0 rfl (by kernel_rfl) (by kernel_rfl)) evs_nil (fun _ => rfl)) (.inl (by rw [hC]; kernel_rfl)) (FnT.up (by decide) (F_281 hC)) (fun _ => rfl) (fun _ => rfl)) evs_nil (fun _ => rfl)) (.inl (by rw [hC]; kernel_rfl)) (FnT.up (by decide) (F_288 hC)) (fun _ => rfl) (fun _ => rfl)) (fun _ _ => by kernel_rfl))⟩
noncomputable def D_332n : { f : SX // ∀ {C : Cx}, HC C → SmT C 8 sc_332 vt_332 (stN (bT 25) 1) f } :=
  ⟨_, fun {C} hC => (sm_assign 2 (.inl ⟨rfl, (by kernel_rfl)⟩) (ev_join (ev_str [] (by kernel_rfl)) (ev_comp (cpk [("k", .loc)] [none] (by kernel_rfl)) (fun _ _ => by kernel_rfl) (it_range1 (ev_builtin (v := .type "range") (by rw [hC]; kernel_rfl) (by kernel_rfl) (by decide) (by kernel_rfl) (by kernel_rfl)) ev_int (fun _ => rfl)) (.one 0 _ _ (.inl ⟨rfl, (by kernel_rfl)⟩)) ifs_nil (ev_decode (ev_call (ev_glob (v := .ref 45) (by rw [hC]; kernel_rfl) (by kernel_rfl) (by kernel_rfl)) (evs_cons (ev_bin (ev_loc 0 rfl (by kernel_rfl) (by kernel_rfl)) ev_int) evs_nil (fun _ => rfl)) (.inl (by rw [hC]; kernel_rfl)) (FnT.up (by decide) (F_45 hC)) (fun _ => rfl) (fun _ => rfl)) (ev_str [97, 115, 99, 105, 105] (by kernel_rfl)) (fun _ => rfl) (fun _ => rfl) rfl)) (fun _ => rfl) (fun _ => rfl) rfl) (fun _ _ => by kernel_rfl))⟩
noncomputable def D_332t : { f : SX // ∀ {C : Cx}, HC C → SmT C 8 sc_332 vt_332 (stN (bT 25) 2) f } :=
  ⟨_, fun {C} hC => (sm_assign 3 (.inr ⟨rfl, (by kernel_rfl)⟩) (ev_call (ev_glob (v := .ref 293) (by rw [hC]; kernel_rfl) (by kernel_rfl) (by kernel_rfl)) (evs_cons (ev_loc 2 rfl (by kernel_rfl) (by kernel_rfl)) (evs_cons (ev_loc 1 rfl (by kernel_rfl) (by kernel_rfl)) evs_nil (fun _ => rfl)) (fun _ => rfl)) (.inl (by rw [hC]; kernel_rfl)) (FnT.up (by decide) (F_293 hC)) (fun _ => rfl) (fun _ => rfl)) (fun _ _ => by kernel_rfl))⟩
noncomputable def D_332u : { f : SX // ∀ {C : Cx}, HC C → SmT C 8 sc_332 vt_332 (stN (bT 25) 3) f } :=
  ⟨_, fun {C} hC => (sm_dictcomp 4 (.inl ⟨rfl, (by kernel_rfl)⟩) (fun env S => sw_trueD S (by kernel_rfl) rfl (by kernel_rfl)) (cpk [("name", .loc), ("table", .fre)] [none, some 3] (by kernel_rfl)) (fun _ _ => by kernel_rfl) (it_list (ev_loc 2 rfl (by kernel_rfl) (by kernel_rfl))) (.one 0 _ _ (.inl ⟨rfl, (by kernel_rfl)⟩)) ifs_nil (ev_loc 0 rfl (by kernel_rfl) (by kernel_rfl)) (ev_mcall 270 209 (m_209 hC) (ev_cell 1 rfl (by decide) (by kernel_rfl) (by kernel_rfl)) (evs_cons (ev_lower (ev_loc 0 rfl (by kernel_rfl) (by kernel_rfl)) (fun _ => rfl) rfl) evs_nil (fun _ => rfl)) (FnT.up (by decide) (F_209 hC)) (fun _ => rfl) (fun _ => rfl) (fun _ => rfl)))⟩
noncomputable def D_332w : { f : SX // ∀ {C : Cx}, HC C → SmT C 8 sc_332 vt_332 (stN (bT 25) 4) f } :=
  ⟨_, fun {C} hC => (sm_assign 5 (.inl ⟨rfl, (by kernel_rfl)⟩) (ev_call (ev_glob (v := .ref 303) (by rw [hC]; kernel_rfl) (by kernel_rfl) (by kernel_rfl)) (evs_cons (ev_call (ev_glob (v := .ref 298) (by rw [hC]; kernel_rfl) (by kernel_rfl) (by kernel_rfl)) (evs_cons (ev_loc 2 rfl (by kernel_rfl) (by kernel_rfl)) (evs_cons (ev_loc 4 rfl (by kernel_rfl) (by kernel_rfl)) evs_nil (fun _ => rfl)) (fun _ => rfl)) (.inl (by rw [hC]; kernel_rfl)) (FnT.up (by decide) (F_298 hC)) (fun _ => rfl) (fun _ => rfl)) evs_nil (fun _ => rfl)) (.inl (by rw [hC]; kernel_rfl)) (FnT.up (by decide) (F_303 hC)) (fun _ => rfl) (fun _ => rfl)) (fun _ _ => by kernel_rfl))⟩
noncomputable def D_332e : { f : SE // ∀ {C : Cx}, HC C → EvT C 8 sc_332 vt_332 (cmpR (andN (valOf (stN (bT 25) 5)) 0)) f } :=
  ⟨_, fun {C} hC => (ev_call (ev_glob (v := .ref 320) (by rw [hC]; kernel_rfl) (by kernel_rfl) (by kernel_rfl)) (evs_cons (ev_loc 1 rfl (by kernel_rfl) (by kernel_rfl)) evs_nil (fun _ => rfl)) (.inl (by rw [hC]; kernel_rfl)) (FnT.up (by decide) (F_320 hC)) (fun _ => rfl) (fun _ => rfl))⟩
noncomputable def D_332h : { f : SE // ∀ {C : Cx}, HC C → EvT C 8 sc_332 vt_332 (andN (valOf (stN (bT 25) 5)) 1) f } :=
  ⟨_, fun {C} hC => (ev_call (ev_glob (v := .ref 327) (by rw [hC]; kernel_rfl) (by kernel_rfl) (by kernel_rfl)) (evs_cons (ev_loc 5 rfl (by kernel_rfl) (by kernel_rfl)) (evs_cons (ev_loc 2 rfl (by kernel_rfl) (by kernel_rfl)) (evs_cons (ev_call (ev_glob (v := .ref 308) (by rw [hC]; kernel_rfl) (by kernel_rfl) (by kernel_rfl)) (evs_cons (ev_loc 2 rfl (by kernel_rfl) (by kernel_rfl)) (evs_cons (ev_loc 4 rfl (by kernel_rfl) (by kernel_rfl)) evs_nil (fun _ => rfl)) (fun _ => rfl)) (.inl (by rw [hC]; kernel_rfl)) (FnT.up (by decide) (F_308 hC)) (fun _ => rfl) (fun _ => rfl)) evs_nil (fun _ => rfl)) (fun _ => rfl)) (fun _ => rfl)) (.inl (by rw [hC]; kernel_rfl)) (FnT.up (by decide) (F_327 hC)) (fun _ => rfl) (fun _ => rfl))⟩
noncomputable def D_332 : { f : SX // ∀ {C : Cx}, HC C → ExT C 8 sc_332 vt_332 (bT 25) f } :=
  ⟨_, fun {C} hC => (ex_cons (D_332l.2 hC) (ex_cons (D_332n.2 hC) (ex_cons (D_332t.2 hC) (ex_cons (D_332u.2 hC) (ex_cons (D_332w.2 hC) (ex_cons (sm_ret (ev_and2 (ev_cmp (ev_loc 5 rfl (by kernel_rfl) (by kernel_rfl)) (D_332e.2 hC) rfl) (D_332h.2 hC))) ex_nil))))))⟩
theorem F_332 {C : Cx} (hC : HC C) : FnT C 9 (.ref 332) (fnSem 1 0 vt_332 D_332.1) :=
  fn_pure 1 0 (is_332 hC) (D_332.2 hC) (by decide) (bp1 fun a => by kernel_rfl)
noncomputable section
noncomputable def lead (k r : Nat) : List Nat := List.replicate (r % 2) 32 ++ List.replicate (r / 2 % 4) 9 ++ List.replicate (4 + k - r % 2 - r / 2 % 4) 32
noncomputable def colN (size : Nat) : List Nat → Nat → Nat
  | [], c => c
  | s :: l, c => colN size l (if s == 9 then c / size * size + size else c + 1)
noncomputable def colL (k r : Nat) : List Nat := [colN 1 (lead k r) 0, colN 2 (lead k r) 0, colN 8 (lead k r) 0]
noncomputable def tb (i a j b : Nat) : Bool := ((colL i a).zip (colL j b)).all fun p => decide (p.1 < p.2)
noncomputable def cntN (f t : Nat) : List Int := if t = 0 then [] else if f = 0 then [(t : Int)] else [(t : Int) - 1, 1]
noncomputable def W (k r : Nat) : AV := .inst 135 ["raw", "n", "nt", "norm", "is_simple"] [.str (lead k r), .int ((4 + k : Nat) : Int), .int ((r / 2 % 4 : Nat) : Int),
  .tuple [.tuple ((cntN (r % 2) (r / 2 % 4)).map .int), .int ((if r / 2 % 4 = 0 then 4 + k else 4 + k - r % 2 - r / 2 % 4 : Nat) : Int)], .bool (decide ((cntN (r % 2) (r / 2 % 4)).length ≤ 1))]
theorem all8 {P : Nat → Prop} (h0 : P 0) (h1 : P 1) (h2 : P 2) (h3 : P 3) (h4 : P 4) (h5 : P 5) (h6 : P 6) (h7 : P 7) : ∀ r, r < 8 → P r
  | 0, _ => h0 | 1, _ => h1 | 2, _ => h2 | 3, _ => h3 | 4, _ => h4 | 5, _ => h5 | 6, _ => h6 | 7, _ => h7
theorem all4 {P : Nat → Prop} (h0 : P 0) (h1 : P 1) (h2 : P 2) (h3 : P 3) : ∀ r, r < 4 → P r
  | 0, _ => h0 | 1, _ => h1 | 2, _ => h2 | 3, _ => h3
noncomputable def isB : Option AV → Option Bool
  | some (.bool b) => some b
  | _ => none
theorem isB_eq {o : Option AV} {b : Bool} (h : isB o = some b) : o = some (.bool b) := by
  unfold isB at h; split at h <;> cases h; rfl
noncomputable def isI : Option AV → Option Int
  | some (.int b) => some b
  | _ => none
theorem isI_eq {o : Option AV} {b : Int} (h : isI o = some b) : o = some (.int b) := by
  unfold isI at h; split at h <;> cases h; rfl
abbrev S135 : List AV → Option AV := ctorSem 135 1 0 vt_90 D_90.1 []
abbrev S125 : List AV → Option AV := fnSem 2 0 vt_125 D_125.1 []
abbrev S315 : List AV → Option AV := fnSem 2 0 vt_315 D_315.1 []
theorem ws_ok : ∀ k, k < 4 → ∀ r, r < 8 → S135 [.str (lead k r)] = some (W k r) :=
  all4 (all8 (by kernel_rfl) (by kernel_rfl) (by kernel_rfl) (by kernel_rfl) (by kernel_rfl) (by kernel_rfl) (by kernel_rfl) (by kernel_rfl)) (all8 (by kernel_rfl) (by kernel_rfl) (by kernel_rfl) (by kernel_rfl) (by kernel_rfl) (by kernel_rfl) (by kernel_rfl) (by kernel_rfl)) (all8 (by kernel_rfl) (by kernel_rfl) (by kernel_rfl) (by kernel_rfl) (by kernel_rfl) (by kernel_rfl) (by kernel_rfl) (by kernel_rfl)) (all8 (by kernel_rfl) (by kernel_rfl) (by kernel_rfl) (by kernel_rfl) (by kernel_rfl) (by kernel_rfl) (by kernel_rfl) (by kernel_rfl))
noncomputable def lessRow (i j : Nat) : Bool := (List.range 8).all fun a => (List.range 8).all fun b => isB (S125 [W i a, W j b]) == some (tb i a j b)
theorem less_00 : lessRow 0 0 = true := by kernel_rfl
theorem less_01 : lessRow 0 1 = true := by kernel_rfl
theorem less_02 : lessRow 0 2 = true := by kernel_rfl
theorem less_03 : lessRow 0 3 = true := by kernel_rfl
theorem less_10 : lessRow 1 0 = true := by kernel_rfl
theorem less_11 : lessRow 1 1 = true := by kernel_rfl
theorem less_12 : lessRow 1 2 = true := by kernel_rfl
theorem less_13 : lessRow 1 3 = true := by kernel_rfl
theorem less_20 : lessRow 2 0 = true := by kernel_rfl
theorem less_21 : lessRow 2 1 = true := by kernel_rfl
theorem less_22 : lessRow 2 2 = true := by kernel_rfl
theorem less_23 : lessRow 2 3 = true := by kernel_rfl
theorem less_30 : lessRow 3 0 = true := by kernel_rfl
theorem less_31 : lessRow 3 1 = true := by kernel_rfl
theorem less_32 : lessRow 3 2 = true := by kernel_rfl
theorem less_33 : lessRow 3 3 = true := by kernel_rfl
theorem less_row : ∀ i, i < 4 → ∀ j, j < 4 → lessRow i j = true :=
  all4 (all4 less_00 less_01 less_02 less_03) (all4 less_10 less_11 less_12 less_13) (all4 less_20 less_21 less_22 less_23) (all4 less_30 less_31 less_32 less_33)
theorem less_ok {i j a b : Nat} (hi : i < 4) (hj : j < 4) (ha : a < 8) (hb : b < 8) : S125 [W i a, W j b] = some (.bool (tb i a j b)) := by
  have h := less_row i hi j hj
  unfold lessRow at h
  rw [List.all_eq_true] at h
  have h := h a (List.mem_range.mpr ha)
  rw [List.all_eq_true] at h
  exact isB_eq (beq_iff_eq.mp (h b (List.mem_range.mpr hb)))
noncomputable def colRow (k s : Nat) : Bool := (List.range 8).all fun r => isI (S315 [.str (lead k r), .int s]) == some ((colN s (lead k r) 0 : Nat) : Int)
theorem col_row {k s : Nat} (h : colRow k s = true) {r : Nat} (hr : r < 8) : S315 [.str (lead k r), .int s] = some (.int ((colN s (lead k r) 0 : Nat) : Int)) := by
  unfold colRow at h
  rw [List.all_eq_true] at h
  exact isI_eq (beq_iff_eq.mp (h r (List.mem_range.mpr hr)))
theorem col_1 : ∀ k, k < 4 → colRow k 1 = true := all4 (by kernel_rfl) (by kernel_rfl) (by kernel_rfl) (by kernel_rfl)
theorem col_2 : ∀ k, k < 4 → colRow k 2 = true := all4 (by kernel_rfl) (by kernel_rfl) (by kernel_rfl) (by kernel_rfl)
theorem col_8 : ∀ k, k < 4 → colRow k 8 = true := all4 (by kernel_rfl) (by kernel_rfl) (by kernel_rfl) (by kernel_rfl)
end
noncomputable section
theorem loop_gen {ks : List Nat} {fi : ST} {fb : SB} {st : Sto} (J : Fm → Prop) (h : List AV → List AV) (M : Nat) :
    ∀ (ls : List (List AV)) (fm : Fm) (acc : List AV), J fm → acc.length + M * ls.length ≤ 4000 →
    (∀ x ∈ ls, x.length = ks.length ∧ (h x).length ≤ M ∧ ∀ fm acc, J fm → acc.length + M ≤ 4000 → ∃ fm', J fm' ∧
      ((fi (fsets fm ks x) st).bind fun b => if b then fb (fsets fm ks x) st (.list acc) else some (fsets fm ks x, .list acc)) = some (fm', .list (acc ++ h x))) →
    ∃ fm', J fm' ∧ loopSem ks fi fb st ls fm (.list acc) = some (fm', .list (acc ++ ls.flatMap h))
  | [], fm, acc, hJ, _, _ => ⟨fm, hJ, by simp [loopSem]⟩
  | x :: xs, fm, acc, hJ, hM, H => by
    obtain ⟨h1, h2, h3⟩ := H x List.mem_cons_self
    rw [List.length_cons, Nat.mul_add, Nat.mul_one] at hM
    obtain ⟨fm', hJ', e⟩ := h3 fm acc hJ (by omega)
    obtain ⟨fm'', hJ'', e2⟩ := loop_gen J h M xs fm' (acc ++ h x) hJ' (by rw [List.length_append]; omega) fun y hy => H y (List.mem_cons_of_mem _ hy)
    refine ⟨fm'', hJ'', ?_⟩
    have goal : acc ++ (x :: xs).flatMap h = acc ++ h x ++ xs.flatMap h := by rw [List.flatMap_cons, List.append_assoc]
    rw [goal]
    unfold loopSem
    rw [if_pos (by simpa using h1)]
    obtain ⟨b, hb, e⟩ := Option.bind_eq_some_iff.mp e
    rw [hb]
    show (if b = true then _ else _) = _
    cases b with
    | true => rw [if_pos rfl] at e ⊢; rw [e]; exact e2
    | false =>
      rw [if_neg (by decide)] at e ⊢
      simp only [Option.some.injEq, Prod.mk.injEq, AC.list.injEq] at e
      rw [← e.1, ← e.2] at e2
      rw [← e.2]
      exact e2
theorem comp_gen {mp : List (Option Nat)} {ks : List Nat} {fg : Fm → Sto → Option (List (List AV))} {fi : ST} {fb : SB} {fm : Fm} {st : Sto} {ls : List (List AV)} (J : Fm → Prop) (h : List AV → List AV) (M : Nat) (hg : fg fm st = some ls) (hJ : J (fm0 mp fm)) (hM : M * ls.length ≤ 4000)
    (H : ∀ x ∈ ls, x.length = ks.length ∧ (h x).length ≤ M ∧ ∀ fm acc, J fm → acc.length + M ≤ 4000 → ∃ fm', J fm' ∧
      ((fi (fsets fm ks x) st).bind fun b => if b then fb (fsets fm ks x) st (.list acc) else some (fsets fm ks x, .list acc)) = some (fm', .list (acc ++ h x))) :
    compSem mp ks fg fi fb fm st = some (ls.flatMap h) := by
  obtain ⟨fm', _, e⟩ := loop_gen J h M ls (fm0 mp fm) [] hJ (by simpa using hM) H
  unfold compSem
  rw [hg]
  show (loopSem ks fi fb st ls (fm0 mp fm) (.list [])).bind _ = _
  rw [e]
  rfl
/-- one turn that emits when the test says so -/
theorem turn_emit {o : Option Bool} {fe : SE} {st : Sto} {f : Fm} {acc : List AV} {b : Bool} {v : AV} (J : Fm → Prop) (hJ : J f) (hi : o = some b) (he : b = true → fe f st = some v) (hl : acc.length + 1 ≤ 4000) :
    ∃ fm', J fm' ∧ (o.bind fun b => if b then emitS fe f st (.list acc) else some (f, .list acc)) = some (fm', .list (acc ++ if b then [v] else [])) := by
  refine ⟨f, hJ, ?_⟩
  rw [hi]
  cases b with
  | false => simp
  | true =>
    show emitS fe f st (.list acc) = _
    show ((fe f st).bind fun a => if acc.length < 4096 then some (f, AC.list (acc ++ [a])) else none) = _
    rw [he rfl]
    show (if acc.length < 4096 then some (f, AC.list (acc ++ [v])) else none) = _
    rw [if_pos (by omega)]
    rfl
theorem turn_sub {ks : List Nat} {fg : Fm → Sto → Option (List (List AV))} {fi : ST} {fb : SB} {st : Sto} {f : Fm} {acc h' : List AV} {ls : List (List AV)} (J J' : Fm → Prop) (h : List AV → List AV) (M : Nat) (hg : fg f st = some ls) (hh : h' = ls.flatMap h) (hJ' : J' f) (hJ : ∀ fm, J' fm → J fm)
    (hM : acc.length + M * ls.length ≤ 4000) (H : ∀ x ∈ ls, x.length = ks.length ∧ (h x).length ≤ M ∧ ∀ fm acc, J' fm → acc.length + M ≤ 4000 → ∃ fm', J' fm' ∧
      ((fi (fsets fm ks x) st).bind fun b => if b then fb (fsets fm ks x) st (.list acc) else some (fsets fm ks x, .list acc)) = some (fm', .list (acc ++ h x))) :
    ∃ fm', J fm' ∧ ((some true).bind fun b => if b then nestS ks fg fi fb f st (.list acc) else some (f, .list acc)) = some (fm', .list (acc ++ h')) := by
  obtain ⟨fm', h1, e⟩ := loop_gen J' h M ls f acc hJ' hM H
  refine ⟨fm', hJ _ h1, ?_⟩
  show (fg f st).bind (fun ls => loopSem ks fi fb st ls f (.list acc)) = _
  rw [hg, hh]
  exact e
theorem for4 {ks : List Nat} {body : SX} {fm f1 f2 f3 f4 : Fm} {st : Sto} {x0 x1 x2 x3 : List AV} (l0 : x0.length = ks.length) (l1 : x1.length = ks.length) (l2 : x2.length = ks.length) (l3 : x3.length = ks.length)
    (h0 : body (fsets fm ks x0) st = some (.next, f1, st)) (h1 : body (fsets f1 ks x1) st = some (.next, f2, st)) (h2 : body (fsets f2 ks x2) st = some (.next, f3, st)) (h3 : body (fsets f3 ks x3) st = some (.next, f4, st)) :
    forSem ks body [x0, x1, x2, x3] fm st = some (.next, f4, st) := by
  have k : ∀ {x : List AV}, x.length = ks.length → (x.length == ks.length) = true := fun h => by simpa using h
  unfold forSem; rw [if_pos (k l0), h0]
  show forSem ks body [x1, x2, x3] f1 st = _
  unfold forSem; rw [if_pos (k l1), h1]
  show forSem ks body [x2, x3] f2 st = _
  unfold forSem; rw [if_pos (k l2), h2]
  show forSem ks body [x3] f3 st = _
  unfold forSem; rw [if_pos (k l3), h3]
  rfl
abbrev nm4 : List Nat := [66, 67, 68, 69]
noncomputable def lds (r : Nat → Nat) : AV := .list [.str (lead 0 (r 0)), .str (lead 1 (r 1)), .str (lead 2 (r 2)), .str (lead 3 (r 3))]
noncomputable def Wl (r : Nat → Nat) : AV := .list [W 0 (r 0), W 1 (r 1), W 2 (r 2), W 3 (r 3)]
theorem four {r : Nat → Nat} {f : Nat → List AV} {x : List AV} (h : x ∈ [f 0, f 1, f 2, f 3]) : ∃ k, k < 4 ∧ x = f k := by
  simp only [List.mem_cons, List.not_mem_nil, or_false] at h
  rcases h with h | h | h | h
  · exact ⟨0, by decide, h⟩
  · exact ⟨1, by decide, h⟩
  · exact ⟨2, by decide, h⟩
  · exact ⟨3, by decide, h⟩
theorem t293a (r : Nat → Nat) (hr : ∀ i, r i < 8) : D_293a.1 [some (.str nm4), some (lds r), none] [] = some (Wl r) := by
  dsimp only [D_293a]
  rw [comp_gen (fun fm => ∃ a, fm = [a]) (fun x => match x with | [.str l] => [(S135 [.str l]).getD .none] | _ => []) 1 (ls := [[.str (lead 0 (r 0))], [.str (lead 1 (r 1))], [.str (lead 2 (r 2))], [.str (lead 3 (r 3))]]) rfl ⟨_, rfl⟩ (by simp)]
  · simp [ws_ok, hr, Wl]
  · intro x hx
    obtain ⟨k, hk, rfl⟩ := four (r := r) (f := fun k => [.str (lead k (r k))]) hx
    refine ⟨rfl, by simp, ?_⟩
    rintro fm acc ⟨a, rfl⟩ hl
    have e := ws_ok k hk _ (hr k)
    exact turn_emit (b := true) (v := (S135 [.str (lead k (r k))]).getD .none) (fun fm => ∃ a, fm = [a]) ⟨_, rfl⟩ rfl (fun _ => (show S135 [.str (lead k (r k))] = _ by rw [e]; rfl)) (by omega)
theorem fi_less {o : Option AV} {b : Bool} (h : o = some (.bool b)) : ((o.bind truthAV).bind fun b => if b = true then some true else some false) = some b := by
  subst h; cases b <;> rfl
noncomputable def pairJ (r : Nat → Nat) (j : Nat) : List AV := [0, 1, 2, 3].flatMap fun i => if tb i (r i) j (r j) then [.tuple [.str [66 + j], .str [66 + i]]] else []
noncomputable def pairsR (r : Nat → Nat) : List AV := [0, 1, 2, 3].flatMap (pairJ r)
theorem ranges4 : rangeLs 0 4 = [[.int 0], [.int 1], [.int 2], [.int 3]] := rfl
theorem item_W {r : Nat → Nat} {i : Nat} (hi : i < 4) : itemAV [] (Wl r) (.int (i : Int)) = some (W i (r i)) := all4 (P := fun i => itemAV [] (Wl r) (.int (i : Int)) = some (W i (r i))) (by kernel_rfl) (by kernel_rfl) (by kernel_rfl) (by kernel_rfl) i hi
theorem item_nm {i : Nat} (hi : i < 4) : itemAV [] (AV.str nm4) (.int (i : Int)) = some (.str [66 + i]) := all4 (P := fun i => itemAV [] (AV.str nm4) (.int (i : Int)) = some (.str [66 + i])) (by kernel_rfl) (by kernel_rfl) (by kernel_rfl) (by kernel_rfl) i hi
theorem t293b (r : Nat → Nat) (hr : ∀ i, r i < 8) : D_293b.1 [some (.str nm4), some (lds r), some (Wl r)] [] = some (.list (pairsR r)) := by
  dsimp only [D_293b]
  rw [comp_gen (fun fm => ∃ a b, fm = [a, b, some (Wl r), some (.str nm4)]) (fun x => match x with | [.int j] => pairJ r j.toNat | _ => []) 4 (ls := rangeLs 0 4) rfl ⟨_, _, rfl⟩ (by rw [ranges4]; simp)]
  · rw [ranges4]; rfl
  · intro x hx
    rw [ranges4] at hx
    obtain ⟨j, hj, rfl⟩ := four (r := r) (f := fun k => [.int (k : Int)]) hx
    refine ⟨rfl, ?_, ?_⟩
    · show (pairJ r ((j : Int).toNat)).length ≤ 4
      unfold pairJ
      simp only [List.flatMap_cons, List.flatMap_nil, List.append_nil, List.length_append]
      have q : ∀ (b : Bool) (v : AV), (if b = true then [v] else []).length ≤ 1 := fun b v => by cases b <;> simp
      have h0 := q (tb 0 (r 0) (j : Int).toNat (r (j : Int).toNat))
      have h1 := q (tb 1 (r 1) (j : Int).toNat (r (j : Int).toNat))
      have h2 := q (tb 2 (r 2) (j : Int).toNat (r (j : Int).toNat))
      have h3 := q (tb 3 (r 3) (j : Int).toNat (r (j : Int).toNat))
      have := h0 (.tuple [.str [66 + (j : Int).toNat], .str [66 + 0]])
      have := h1 (.tuple [.str [66 + (j : Int).toNat], .str [66 + 1]])
      have := h2 (.tuple [.str [66 + (j : Int).toNat], .str [66 + 2]])
      have := h3 (.tuple [.str [66 + (j : Int).toNat], .str [66 + 3]])
      omega
    · rintro fm acc ⟨a, b, rfl⟩ hl
      refine turn_sub (fun fm => ∃ a b, fm = [a, b, some (Wl r), some (AV.str nm4)]) (fun fm => ∃ b, fm = [some (AV.int j), b, some (Wl r), some (AV.str nm4)]) (fun x => match x with | [.int i] => if tb i.toNat (r i.toNat) j (r j) then [.tuple [.str [66 + j], .str [66 + i.toNat]]] else [] | _ => []) 1 (ls := rangeLs 0 4) rfl rfl ⟨b, rfl⟩ (fun _ ⟨b, h⟩ => ⟨_, b, h⟩) (by rw [ranges4]; simp; omega) ?_
      · intro x hx
        rw [ranges4] at hx
        obtain ⟨i, hi, rfl⟩ := four (r := r) (f := fun k => [.int (k : Int)]) hx
        refine ⟨rfl, ?_, ?_⟩
        · show (if tb i (r i) j (r j) = true then _ else _ : List AV).length ≤ 1
          cases tb i (r i) j (r j) <;> simp
        · rintro fm acc ⟨b, rfl⟩ hl
          refine turn_emit (b := tb i (r i) j (r j)) (v := .tuple [.str [66 + j], .str [66 + i]]) (fun fm => ∃ b, fm = [some (AV.int j), b, some (Wl r), some (AV.str nm4)]) ⟨_, rfl⟩ ?_ (fun _ => ?_) (by omega)
          · show ((((itemAV [] (Wl r) (.int i)).bind fun a => (((itemAV [] (Wl r) (.int j)).bind fun a => (some [a] : Option (List AV))).bind fun l => (clsOf [] a).bind fun x => if (x.fst == 135 && !x.snd.fst.contains (Str.ofString "less")) = true then fnSem 2 0 vt_125 D_125.1 [] (a :: l) else none)).bind truthAV).bind fun b => if b = true then some true else some false) = _
            rw [item_W hi, item_W hj]
            exact fi_less (less_ok hi hj (hr i) (hr j))
          · show (((itemAV [] (AV.str nm4) (.int j)).bind fun a => ((itemAV [] (AV.str nm4) (.int i)).bind fun b => (some [b] : Option (List AV))).bind fun l => some (a :: l)).bind fun l => if l.length ≤ 4096 then some (AV.tuple l) else none) = _
            rw [item_nm hi, item_nm hj]
            rfl
end
noncomputable section
noncomputable def colAV (k r : Nat) : AV := .list [.int ((colN 1 (lead k r) 0 : Nat) : Int), .int ((colN 2 (lead k r) 0 : Nat) : Int), .int ((colN 8 (lead k r) 0 : Nat) : Int)]
noncomputable def cols (r : Nat → Nat) : AV := .list [colAV 0 (r 0), colAV 1 (r 1), colAV 2 (r 2), colAV 3 (r 3)]
theorem t320c (r : Nat → Nat) (hr : ∀ i, r i < 8) : D_320c.1 [some (lds r), none, none, none, none, none, none, none] [] = some (.next, [some (lds r), some (cols r), none, none, none, none, none, none], []) := by
  dsimp only [D_320c]
  rw [comp_gen (fun fm => ∃ a, fm = [a]) (fun x => match x with | [.str l] => [.list [.int ((colN 1 l 0 : Nat) : Int), .int ((colN 2 l 0 : Nat) : Int), .int ((colN 8 l 0 : Nat) : Int)]] | _ => []) 1 (ls := [[.str (lead 0 (r 0))], [.str (lead 1 (r 1))], [.str (lead 2 (r 2))], [.str (lead 3 (r 3))]]) rfl ⟨_, rfl⟩ (by simp)]
  · rfl
  · intro x hx
    obtain ⟨k, hk, rfl⟩ := four (r := r) (f := fun k => [.str (lead k (r k))]) hx
    refine ⟨rfl, by simp, ?_⟩
    rintro fm acc ⟨a, rfl⟩ hl
    refine turn_emit (b := true) (v := colAV k (r k)) (fun fm => ∃ a, fm = [a]) ⟨_, rfl⟩ rfl (fun _ => ?_) (by omega)
    rw [comp_gen (fun fm => ∃ b, fm = [b, some (.str (lead k (r k)))]) (fun x => match x with | [.int s] => [.int ((colN s.toNat (lead k (r k)) 0 : Nat) : Int)] | _ => []) 1 (ls := [[.int 1], [.int 2], [.int 8]]) rfl ⟨_, rfl⟩ (by simp)]
    · rfl
    · intro x hx
      have hx' : ∃ s : Nat, colRow k s = true ∧ x = [.int (s : Int)] := by
        simp only [List.mem_cons, List.not_mem_nil, or_false] at hx
        rcases hx with h | h | h
        · exact ⟨1, col_1 k hk, h⟩
        · exact ⟨2, col_2 k hk, h⟩
        · exact ⟨8, col_8 k hk, h⟩
      obtain ⟨s, hs, rfl⟩ := hx'
      refine ⟨rfl, by simp, ?_⟩
      rintro fm acc ⟨b, rfl⟩ hl
      exact turn_emit (b := true) (v := .int ((colN s (lead k (r k)) 0 : Nat) : Int)) (fun fm => ∃ b, fm = [b, some (.str (lead k (r k)))]) ⟨_, rfl⟩ rfl (fun _ => col_row hs (hr k)) (by omega)
noncomputable def geH : List AV → List AV := fun x => match x with
  | [.int a, .int z] => if decide (a ≥ z) then [.int 1] else []
  | _ => []
theorem emp3 (a1 z1 a2 z2 a3 z3 : Nat) : ([[AV.int a1, .int z1], [.int a2, .int z2], [.int a3, .int z3]].flatMap geH).isEmpty = (decide (a1 < z1) && (decide (a2 < z2) && (decide (a3 < z3) && true))) := by
  have q : ∀ (a z : Nat), geH [AV.int a, .int z] = if decide (a < z) then [] else [.int 1] := fun a z => by
    show (if decide ((a : Int) ≥ (z : Int)) = true then _ else _) = _
    by_cases h : a < z
    · rw [if_neg (by simpa using h), if_pos (by simpa using h)]
    · rw [if_pos (by simp; omega), if_neg (by simpa using h)]
  simp only [List.flatMap_cons, List.flatMap_nil, q]
  cases decide (a1 < z1) <;> cases decide (a2 < z2) <;> cases decide (a3 < z3) <;> rfl
theorem fi_some {o : Option Bool} {b : Bool} (h : o = some b) : (o.bind fun b => if b = true then some true else some false) = some b := by
  subst h; cases b <;> rfl
noncomputable def lowH (r : Nat → Nat) (j : Nat) : List AV → List AV := fun x => match x with
  | [.int i] => if tb i.toNat (r i.toNat) j (r j) then [.int (2 ^ i.toNat)] else []
  | _ => []
theorem item_cols {r : Nat → Nat} {i : Nat} (hi : i < 4) : itemAV [] (cols r) (.int (i : Int)) = some (colAV i (r i)) := all4 (P := fun i => itemAV [] (cols r) (.int (i : Int)) = some (colAV i (r i))) (by kernel_rfl) (by kernel_rfl) (by kernel_rfl) (by kernel_rfl) i hi
theorem small4 {i : Nat} (hi : i < 4) : small (i : Int) = true := all4 (P := fun i => small (i : Int) = true) (by kernel_rfl) (by kernel_rfl) (by kernel_rfl) (by kernel_rfl) i hi
theorem t320t (r : Nat → Nat) (L s : AV) (j : Nat) (hj : j < 4) (x : Option AV) : D_320l.1 [some L, some (cols r), some s, some (.int j), x, none, none, none] [] = sumAV [] [.list ((rangeLs 0 j).flatMap (lowH r j))] := by
  dsimp only [D_320l]
  rw [comp_gen (fun fm => ∃ a, fm = [a, some (cols r), some (.int j)]) (lowH r j) 1 (ls := rangeLs 0 j) ?_ ⟨_, rfl⟩ (by simp [rangeLs]; omega)]
  · rfl
  rotate_left
  · rcases (by omega : j = 0 ∨ j = 1 ∨ j = 2 ∨ j = 3) with rfl | rfl | rfl | rfl <;> rfl
  · intro y hy
    have hy' : ∃ i : Nat, i < j ∧ y = [.int (i : Int)] := by
      unfold rangeLs at hy
      obtain ⟨i, h1, h2⟩ := List.mem_map.mp hy
      refine ⟨i, by simpa using h1, ?_⟩
      rw [← h2, Int.zero_add]
    obtain ⟨i, hi, rfl⟩ := hy'
    refine ⟨rfl, ?_, ?_⟩
    · show (if tb i (r i) j (r j) = true then _ else _ : List AV).length ≤ 1
      cases tb i (r i) j (r j) <;> simp
    · rintro fm acc ⟨a, rfl⟩ hl
      refine turn_emit (b := tb i (r i) j (r j)) (v := .int (2 ^ i)) (fun fm => ∃ a, fm = [a, some (cols r), some (.int j)]) ⟨_, rfl⟩ (fi_some ?_) (fun _ => ?_) (by omega)
      · rw [comp_gen (fun fm => ∃ a b, fm = [a, b]) geH 1 (ls := [[.int ((colN 1 (lead i (r i)) 0 : Nat) : Int), .int ((colN 1 (lead j (r j)) 0 : Nat) : Int)], [.int ((colN 2 (lead i (r i)) 0 : Nat) : Int), .int ((colN 2 (lead j (r j)) 0 : Nat) : Int)], [.int ((colN 8 (lead i (r i)) 0 : Nat) : Int), .int ((colN 8 (lead j (r j)) 0 : Nat) : Int)]]) ?_ ⟨_, _, rfl⟩ (by simp)]
        · exact congrArg some (emp3 _ _ _ _ _ _)
        · intro x hx
          have hx' : ∃ p q : Nat, x = [.int (p : Int), .int (q : Int)] := by
            simp only [List.mem_cons, List.not_mem_nil, or_false] at hx
            rcases hx with h | h | h <;> exact ⟨_, _, h⟩
          obtain ⟨p, q, rfl⟩ := hx'
          refine ⟨rfl, ?_, ?_⟩
          · show (if decide ((p : Int) ≥ q) = true then _ else _ : List AV).length ≤ 1
            cases decide ((p : Int) ≥ q) <;> simp
          · rintro fm acc ⟨a, b, rfl⟩ hl
            exact turn_emit (b := decide ((p : Int) ≥ q)) (v := .int 1) (fun fm => ∃ a b, fm = [a, b]) ⟨_, _, rfl⟩ (fi_some rfl) (fun _ => rfl) (by omega)
        · simp only [fsets, fset, fget, Option.bind_some, item_cols hj, item_cols (Nat.lt_trans hi hj)]
          rfl
      · exact all4 (P := fun i => binAV [] Operator.Pow (.int 2) (.int (i : Int)) = some (AV.int (2 ^ i))) (by kernel_rfl) (by kernel_rfl) (by kernel_rfl) (by kernel_rfl) i (Nat.lt_trans hi hj)
end
noncomputable section
noncomputable def bmN (m i j : Nat) : Bool := if i = 0 then (if j = 1 then m.testBit 0 else if j = 2 then m.testBit 1 else if j = 3 then m.testBit 2 else false)
  else if i = 1 then (if j = 2 then m.testBit 3 else if j = 3 then m.testBit 4 else false) else if i = 2 then (if j = 3 then m.testBit 5 else false) else false
noncomputable def lowM (m j : Nat) : Nat := (if bmN m 0 j then 1 else 0) + (if bmN m 1 j then 2 else 0) + (if bmN m 2 j then 4 else 0)
noncomputable def stepS (m j : Nat) (sets : List Nat) : List Nat := sets ++ (sets.filter fun o => o &&& lowM m j == lowM m j).map (· + 2 ^ j)
noncomputable def setsM (m : Nat) : Nat → List Nat
  | 0 => [0]
  | j + 1 => stepS m j (setsM m j)
noncomputable def intsA (l : List Nat) : AV := .list (l.map fun n => .int ((n : Nat) : Int))
abbrev S270 : List AV → Option AV := ctorSem 270 1 0 vt_164 D_164.1 []
noncomputable def pairsM (m : Nat) : List AV := [0, 1, 2, 3].flatMap fun j => [0, 1, 2, 3].flatMap fun i => if bmN m i j then [.tuple [.str [66 + j], .str [66 + i]]] else []
noncomputable def Tm (m : Nat) : AV := .inst 270 ["_headers"] [.list (pairsM m)]
noncomputable def Um (m : Nat) : AV := .dict [[66], [67], [68], [69]] ([0, 1, 2, 3].map fun j => .list (([0, 1, 2, 3].filter fun i => bmN m i j).map fun i => .str [66 + i]))
structure Fact (m : Nat) (w : List Nat) : Prop where
  cln : clean (Tm m) = true
  hdr : S270 [.list (pairsM m)] = some (Tm m)
  s0 : ∀ L C, D_320s.1 [L, C, some (intsA (setsM m 0)), some (.int 0), some (.int (lowM m 0 : Nat)), none, none, none] [] = some (.next, [L, C, some (intsA (setsM m 1)), some (.int 0), some (.int (lowM m 0 : Nat)), none, none, none], [])
  s1 : ∀ L C, D_320s.1 [L, C, some (intsA (setsM m 1)), some (.int 1), some (.int (lowM m 1 : Nat)), none, none, none] [] = some (.next, [L, C, some (intsA (setsM m 2)), some (.int 1), some (.int (lowM m 1 : Nat)), none, none, none], [])
  s2 : ∀ L C, D_320s.1 [L, C, some (intsA (setsM m 2)), some (.int 2), some (.int (lowM m 2 : Nat)), none, none, none] [] = some (.next, [L, C, some (intsA (setsM m 3)), some (.int 2), some (.int (lowM m 2 : Nat)), none, none, none], [])
  s3 : ∀ L C, D_320s.1 [L, C, some (intsA (setsM m 3)), some (.int 3), some (.int (lowM m 3 : Nat)), none, none, none] [] = some (.next, [L, C, some (intsA (setsM m 4)), some (.int 3), some (.int (lowM m 3 : Nat)), none, none, none], [])
  due : ∀ L C, ((D_320R.1 [L, C, some (intsA (setsM m 4)), some (.int 3), some (.int (lowM m 3 : Nat)), none, none, none] []).bind fun r => frz r.2.2 (flAV r.1)) = some (.str w)
  und : ∀ s L, D_332u.1 [s, L, some (.str nm4), some (Tm m), none, none] [] = some (.next, [s, L, some (.str nm4), some (Tm m), some (Um m), none], [])
  wrd : ∀ s L, D_332w.1 [s, L, some (.str nm4), some (Tm m), some (Um m), none] [] = some (.next, [s, L, some (.str nm4), some (Tm m), some (Um m), some (.str w)], [])
  hld : ∀ s L, D_332h.1 [s, L, some (.str nm4), some (Tm m), some (Um m), some (.str w)] [] = some (.bool true)
theorem fact_0 : Fact 0 [66, 76, 76, 66] := ⟨by kernel_rfl, by kernel_rfl, fun _ _ => by kernel_rfl, fun _ _ => by kernel_rfl, fun _ _ => by kernel_rfl, fun _ _ => by kernel_rfl, fun _ _ => by kernel_rfl, fun _ _ => by kernel_rfl, fun _ _ => by kernel_rfl, fun _ _ => by kernel_rfl⟩
theorem fact_1 : Fact 1 [69, 72, 66] := ⟨by kernel_rfl, by kernel_rfl, fun _ _ => by kernel_rfl, fun _ _ => by kernel_rfl, fun _ _ => by kernel_rfl, fun _ _ => by kernel_rfl, fun _ _ => by kernel_rfl, fun _ _ => by kernel_rfl, fun _ _ => by kernel_rfl, fun _ _ => by kernel_rfl⟩
theorem fact_3 : Fact 3 [67, 70, 66] := ⟨by kernel_rfl, by kernel_rfl, fun _ _ => by kernel_rfl, fun _ _ => by kernel_rfl, fun _ _ => by kernel_rfl, fun _ _ => by kernel_rfl, fun _ _ => by kernel_rfl, fun _ _ => by kernel_rfl, fun _ _ => by kernel_rfl, fun _ _ => by kernel_rfl⟩
theorem fact_7 : Fact 7 [66, 69, 66] := ⟨by kernel_rfl, by kernel_rfl, fun _ _ => by kernel_rfl, fun _ _ => by kernel_rfl, fun _ _ => by kernel_rfl, fun _ _ => by kernel_rfl, fun _ _ => by kernel_rfl, fun _ _ => by kernel_rfl, fun _ _ => by kernel_rfl, fun _ _ => by kernel_rfl⟩
theorem fact_8 : Fact 8 [69, 72, 66] := ⟨by kernel_rfl, by kernel_rfl, fun _ _ => by kernel_rfl, fun _ _ => by kernel_rfl, fun _ _ => by kernel_rfl, fun _ _ => by kernel_rfl, fun _ _ => by kernel_rfl, fun _ _ => by kernel_rfl, fun _ _ => by kernel_rfl, fun _ _ => by kernel_rfl⟩
theorem fact_10 : Fact 10 [67, 70, 66] := ⟨by kernel_rfl, by kernel_rfl, fun _ _ => by kernel_rfl, fun _ _ => by kernel_rfl, fun _ _ => by kernel_rfl, fun _ _ => by kernel_rfl, fun _ _ => by kernel_rfl, fun _ _ => by kernel_rfl, fun _ _ => by kernel_rfl, fun _ _ => by kernel_rfl⟩
theorem fact_11 : Fact 11 [68, 66] := ⟨by kernel_rfl, by kernel_rfl, fun _ _ => by kernel_rfl, fun _ _ => by kernel_rfl, fun _ _ => by kernel_rfl, fun _ _ => by kernel_rfl, fun _ _ => by kernel_rfl, fun _ _ => by kernel_rfl, fun _ _ => by kernel_rfl, fun _ _ => by kernel_rfl⟩
theorem fact_15 : Fact 15 [67, 66] := ⟨by kernel_rfl, by kernel_rfl, fun _ _ => by kernel_rfl, fun _ _ => by kernel_rfl, fun _ _ => by kernel_rfl, fun _ _ => by kernel_rfl, fun _ _ => by kernel_rfl, fun _ _ => by kernel_rfl, fun _ _ => by kernel_rfl, fun _ _ => by kernel_rfl⟩
theorem fact_24 : Fact 24 [67, 70, 66] := ⟨by kernel_rfl, by kernel_rfl, fun _ _ => by kernel_rfl, fun _ _ => by kernel_rfl, fun _ _ => by kernel_rfl, fun _ _ => by kernel_rfl, fun _ _ => by kernel_rfl, fun _ _ => by kernel_rfl, fun _ _ => by kernel_rfl, fun _ _ => by kernel_rfl⟩
theorem fact_26 : Fact 26 [66, 68, 66] := ⟨by kernel_rfl, by kernel_rfl, fun _ _ => by kernel_rfl, fun _ _ => by kernel_rfl, fun _ _ => by kernel_rfl, fun _ _ => by kernel_rfl, fun _ _ => by kernel_rfl, fun _ _ => by kernel_rfl, fun _ _ => by kernel_rfl, fun _ _ => by kernel_rfl⟩
theorem fact_30 : Fact 30 [66, 67, 66] := ⟨by kernel_rfl, by kernel_rfl, fun _ _ => by kernel_rfl, fun _ _ => by kernel_rfl, fun _ _ => by kernel_rfl, fun _ _ => by kernel_rfl, fun _ _ => by kernel_rfl, fun _ _ => by kernel_rfl, fun _ _ => by kernel_rfl, fun _ _ => by kernel_rfl⟩
theorem fact_31 : Fact 31 [66, 66] := ⟨by kernel_rfl, by kernel_rfl, fun _ _ => by kernel_rfl, fun _ _ => by kernel_rfl, fun _ _ => by kernel_rfl, fun _ _ => by kernel_rfl, fun _ _ => by kernel_rfl, fun _ _ => by kernel_rfl, fun _ _ => by kernel_rfl, fun _ _ => by kernel_rfl⟩
theorem fact_32 : Fact 32 [69, 72, 66] := ⟨by kernel_rfl, by kernel_rfl, fun _ _ => by kernel_rfl, fun _ _ => by kernel_rfl, fun _ _ => by kernel_rfl, fun _ _ => by kernel_rfl, fun _ _ => by kernel_rfl, fun _ _ => by kernel_rfl, fun _ _ => by kernel_rfl, fun _ _ => by kernel_rfl⟩
theorem fact_33 : Fact 33 [66, 69, 66] := ⟨by kernel_rfl, by kernel_rfl, fun _ _ => by kernel_rfl, fun _ _ => by kernel_rfl, fun _ _ => by kernel_rfl, fun _ _ => by kernel_rfl, fun _ _ => by kernel_rfl, fun _ _ => by kernel_rfl, fun _ _ => by kernel_rfl, fun _ _ => by kernel_rfl⟩
theorem fact_37 : Fact 37 [66, 68, 66] := ⟨by kernel_rfl, by kernel_rfl, fun _ _ => by kernel_rfl, fun _ _ => by kernel_rfl, fun _ _ => by kernel_rfl, fun _ _ => by kernel_rfl, fun _ _ => by kernel_rfl, fun _ _ => by kernel_rfl, fun _ _ => by kernel_rfl, fun _ _ => by kernel_rfl⟩
theorem fact_39 : Fact 39 [67, 66] := ⟨by kernel_rfl, by kernel_rfl, fun _ _ => by kernel_rfl, fun _ _ => by kernel_rfl, fun _ _ => by kernel_rfl, fun _ _ => by kernel_rfl, fun _ _ => by kernel_rfl, fun _ _ => by kernel_rfl, fun _ _ => by kernel_rfl, fun _ _ => by kernel_rfl⟩
theorem fact_48 : Fact 48 [67, 70, 66] := ⟨by kernel_rfl, by kernel_rfl, fun _ _ => by kernel_rfl, fun _ _ => by kernel_rfl, fun _ _ => by kernel_rfl, fun _ _ => by kernel_rfl, fun _ _ => by kernel_rfl, fun _ _ => by kernel_rfl, fun _ _ => by kernel_rfl, fun _ _ => by kernel_rfl⟩
theorem fact_52 : Fact 52 [66, 69, 66] := ⟨by kernel_rfl, by kernel_rfl, fun _ _ => by kernel_rfl, fun _ _ => by kernel_rfl, fun _ _ => by kernel_rfl, fun _ _ => by kernel_rfl, fun _ _ => by kernel_rfl, fun _ _ => by kernel_rfl, fun _ _ => by kernel_rfl, fun _ _ => by kernel_rfl⟩
theorem fact_53 : Fact 53 [67, 66] := ⟨by kernel_rfl, by kernel_rfl, fun _ _ => by kernel_rfl, fun _ _ => by kernel_rfl, fun _ _ => by kernel_rfl, fun _ _ => by kernel_rfl, fun _ _ => by kernel_rfl, fun _ _ => by kernel_rfl, fun _ _ => by kernel_rfl, fun _ _ => by kernel_rfl⟩
theorem fact_55 : Fact 55 [66, 66] := ⟨by kernel_rfl, by kernel_rfl, fun _ _ => by kernel_rfl, fun _ _ => by kernel_rfl, fun _ _ => by kernel_rfl, fun _ _ => by kernel_rfl, fun _ _ => by kernel_rfl, fun _ _ => by kernel_rfl, fun _ _ => by kernel_rfl, fun _ _ => by kernel_rfl⟩
theorem fact_56 : Fact 56 [68, 66] := ⟨by kernel_rfl, by kernel_rfl, fun _ _ => by kernel_rfl, fun _ _ => by kernel_rfl, fun _ _ => by kernel_rfl, fun _ _ => by kernel_rfl, fun _ _ => by kernel_rfl, fun _ _ => by kernel_rfl, fun _ _ => by kernel_rfl, fun _ _ => by kernel_rfl⟩
theorem fact_60 : Fact 60 [67, 66] := ⟨by kernel_rfl, by kernel_rfl, fun _ _ => by kernel_rfl, fun _ _ => by kernel_rfl, fun _ _ => by kernel_rfl, fun _ _ => by kernel_rfl, fun _ _ => by kernel_rfl, fun _ _ => by kernel_rfl, fun _ _ => by kernel_rfl, fun _ _ => by kernel_rfl⟩
theorem fact_62 : Fact 62 [66, 66] := ⟨by kernel_rfl, by kernel_rfl, fun _ _ => by kernel_rfl, fun _ _ => by kernel_rfl, fun _ _ => by kernel_rfl, fun _ _ => by kernel_rfl, fun _ _ => by kernel_rfl, fun _ _ => by kernel_rfl, fun _ _ => by kernel_rfl, fun _ _ => by kernel_rfl⟩
theorem fact_63 : Fact 63 [66] := ⟨by kernel_rfl, by kernel_rfl, fun _ _ => by kernel_rfl, fun _ _ => by kernel_rfl, fun _ _ => by kernel_rfl, fun _ _ => by kernel_rfl, fun _ _ => by kernel_rfl, fun _ _ => by kernel_rfl, fun _ _ => by kernel_rfl, fun _ _ => by kernel_rfl⟩
noncomputable def masks : List Nat := [0, 1, 3, 7, 8, 10, 11, 15, 24, 26, 30, 31, 32, 33, 37, 39, 48, 52, 53, 55, 56, 60, 62, 63]
theorem facts : ∀ m ∈ masks, ∃ w, Fact m w := by
  intro m hm
  simp only [masks, List.mem_cons, List.not_mem_nil, or_false] at hm
  rcases hm with h | h | h | h | h | h | h | h | h | h | h | h | h | h | h | h | h | h | h | h | h | h | h | h <;> subst h
  · exact ⟨_, fact_0⟩
  · exact ⟨_, fact_1⟩
  · exact ⟨_, fact_3⟩
  · exact ⟨_, fact_7⟩
  · exact ⟨_, fact_8⟩
  · exact ⟨_, fact_10⟩
  · exact ⟨_, fact_11⟩
  · exact ⟨_, fact_15⟩
  · exact ⟨_, fact_24⟩
  · exact ⟨_, fact_26⟩
  · exact ⟨_, fact_30⟩
  · exact ⟨_, fact_31⟩
  · exact ⟨_, fact_32⟩
  · exact ⟨_, fact_33⟩
  · exact ⟨_, fact_37⟩
  · exact ⟨_, fact_39⟩
  · exact ⟨_, fact_48⟩
  · exact ⟨_, fact_52⟩
  · exact ⟨_, fact_53⟩
  · exact ⟨_, fact_55⟩
  · exact ⟨_, fact_56⟩
  · exact ⟨_, fact_60⟩
  · exact ⟨_, fact_62⟩
  · exact ⟨_, fact_63⟩
end
noncomputable section
structure Rel (r : Nat → Nat) (m : Nat) : Prop where
  lt : ∀ i, r i < 8
  rel : ∀ i, i < 4 → ∀ j, j < 4 → tb i (r i) j (r j) = bmN m i j
theorem pairs_eq {r : Nat → Nat} {m : Nat} (R : Rel r m) : pairsR r = pairsM m := by
  unfold pairsR pairsM pairJ
  simp only [List.flatMap_cons, List.flatMap_nil, R.rel _ (by decide : 0 < 4) _ (by decide : 0 < 4), R.rel _ (by decide : 0 < 4) _ (by decide : 1 < 4), R.rel _ (by decide : 0 < 4) _ (by decide : 2 < 4), R.rel _ (by decide : 0 < 4) _ (by decide : 3 < 4),
    R.rel _ (by decide : 1 < 4) _ (by decide : 0 < 4), R.rel _ (by decide : 1 < 4) _ (by decide : 1 < 4), R.rel _ (by decide : 1 < 4) _ (by decide : 2 < 4), R.rel _ (by decide : 1 < 4) _ (by decide : 3 < 4),
    R.rel _ (by decide : 2 < 4) _ (by decide : 0 < 4), R.rel _ (by decide : 2 < 4) _ (by decide : 1 < 4), R.rel _ (by decide : 2 < 4) _ (by decide : 2 < 4), R.rel _ (by decide : 2 < 4) _ (by decide : 3 < 4),
    R.rel _ (by decide : 3 < 4) _ (by decide : 0 < 4), R.rel _ (by decide : 3 < 4) _ (by decide : 1 < 4), R.rel _ (by decide : 3 < 4) _ (by decide : 2 < 4), R.rel _ (by decide : 3 < 4) _ (by decide : 3 < 4)]
theorem fnSem_clean {n k : Nat} {vt : VT} {fb : SX} {sto : Sto} {avs : List AV} (hl : (avs.length == n) = true) (hc : cleanL avs = true) : fnSem n k vt fb sto avs = (fb (fmIn vt (avs ++ List.replicate k .none)) []).bind fun r => frz r.2.2 (flAV r.1) := by
  unfold fnSem
  rw [if_pos hl, if_pos hc]
  rfl
theorem s293 {r : Nat → Nat} {m : Nat} {w : List Nat} (R : Rel r m) (F : Fact m w) : fnSem 2 0 vt_293 D_293.1 [] [.str nm4, lds r] = some (Tm m) := by
  rw [fnSem_clean rfl rfl]
  have h1 := t293a r R.lt
  have h2 := t293b r R.lt
  rw [pairs_eq R] at h2
  have h3 := F.hdr
  show (D_293.1 [some (.str nm4), some (lds r), none] []).bind _ = _
  dsimp only [D_293]
  rw [h1]
  dsimp only [Option.map_some, fset]
  rw [h2]
  dsimp only [Option.map_some, Option.bind_some]
  rw [show ctorSem 270 1 0 vt_164 D_164.1 [] [.list (pairsM m)] = _ from h3]
  show (if clean (Tm m) = true then some (Tm m) else none) = _
  rw [if_pos F.cln]
theorem low_val {r : Nat → Nat} {m : Nat} (R : Rel r m) : ∀ j, j < 4 → sumAV [] [.list ((rangeLs 0 (j : Nat)).flatMap (lowH r j))] = some (.int (lowM m j : Nat)) := by
  refine all4 ?_ ?_ ?_ ?_
  · kernel_rfl
  · show sumAV [] [.list ((if tb 0 (r 0) 1 (r 1) = true then [.int 1] else []) ++ [])] = _
    rw [R.rel 0 (by decide) 1 (by decide)]
    show _ = some (AV.int (((if bmN m 0 1 = true then 1 else 0) + 0 + 0 : Nat) : Int))
    cases bmN m 0 1 <;> kernel_rfl
  · show sumAV [] [.list ((if tb 0 (r 0) 2 (r 2) = true then [.int 1] else []) ++ ((if tb 1 (r 1) 2 (r 2) = true then [.int 2] else []) ++ []))] = _
    rw [R.rel 0 (by decide) 2 (by decide), R.rel 1 (by decide) 2 (by decide)]
    show _ = some (AV.int (((if bmN m 0 2 = true then 1 else 0) + (if bmN m 1 2 = true then 2 else 0) + 0 : Nat) : Int))
    cases bmN m 0 2 <;> cases bmN m 1 2 <;> kernel_rfl
  · show sumAV [] [.list ((if tb 0 (r 0) 3 (r 3) = true then [.int 1] else []) ++ ((if tb 1 (r 1) 3 (r 3) = true then [.int 2] else []) ++ ((if tb 2 (r 2) 3 (r 3) = true then [.int 4] else []) ++ [])))] = _
    rw [R.rel 0 (by decide) 3 (by decide), R.rel 1 (by decide) 3 (by decide), R.rel 2 (by decide) 3 (by decide)]
    show _ = some (AV.int (((if bmN m 0 3 = true then 1 else 0) + (if bmN m 1 3 = true then 2 else 0) + (if bmN m 2 3 = true then 4 else 0) : Nat) : Int))
    cases bmN m 0 3 <;> cases bmN m 1 3 <;> cases bmN m 2 3 <;> kernel_rfl
theorem step320 {fm : Fm} {n : AV} {f' : Fm} (hl : D_320l.1 fm [] = some n) (hs : D_320s.1 (fset fm 4 n) [] = some (.next, f', [])) :
    (match Option.map (fun a => (Fl.next, fset fm 4 a, ([] : Sto))) (D_320l.1 fm []) with
      | some (Fl.next, fm', sto') => (match D_320s.1 fm' sto' with
        | some (Fl.next, fm', sto') => some (Fl.next, fm', sto')
        | r => r)
      | r => r) = some (.next, f', []) := by
  rw [hl]
  dsimp only [Option.map_some]
  rw [hs]
theorem s320 {r : Nat → Nat} {m : Nat} {w : List Nat} (R : Rel r m) (F : Fact m w) : fnSem 1 0 vt_320 D_320.1 [] [lds r] = some (.str w) := by
  rw [fnSem_clean rfl rfl]
  have h1 := t320c r R.lt
  have lo : ∀ j, j < 4 → ∀ s x, D_320l.1 [some (lds r), some (cols r), some s, some (.int (j : Nat)), x, none, none, none] [] = some (.int (lowM m j : Nat)) := fun j hj s x => (t320t r (lds r) s j hj x).trans (low_val R j hj)
  show (D_320.1 [some (lds r), none, none, none, none, none, none, none] []).bind _ = _
  dsimp only [D_320]
  rw [h1]
  dsimp only [Option.map_some, Option.bind_some, fset]
  rw [if_pos (by decide)]
  dsimp only [Option.map_some]
  rw [if_pos (by kernel_rfl)]
  dsimp only [Option.bind_some]
  rw [ranges4]
  rw [for4 (ks := [3]) rfl rfl rfl rfl (step320 (lo 0 (by decide) _ _) (F.s0 _ _)) (step320 (lo 1 (by decide) _ _) (F.s1 _ _)) (step320 (lo 2 (by decide) _ _) (F.s2 _ _)) (step320 (lo 3 (by decide) _ _) (F.s3 _ _))]
  exact F.due _ _
theorem rows_lt : ((List.range 4).all fun i => (List.range 4).all fun j => decide (i < j) || (List.range 8).all fun a => (List.range 8).all fun b => !tb i a j b) = true := by kernel_rfl
noncomputable def tN (i j : Nat) : Nat := if j = i + 1 then 13853337234179424255 else 13889366168637865983
noncomputable def tRow (i j : Nat) : Bool := (List.range 8).all fun a => (List.range 8).all fun b => tb i a j b == (tN i j).testBit (8 * a + b)
theorem rows_eq : (tRow 0 1 && tRow 0 2 && tRow 0 3 && tRow 1 2 && tRow 1 3 && tRow 2 3) = true := by kernel_rfl
noncomputable def mk6 (p q u v x y : Bool) : Nat := (if p then 1 else 0) + (if q then 2 else 0) + (if u then 4 else 0) + (if v then 8 else 0) + (if x then 16 else 0) + (if y then 32 else 0)
noncomputable def maskN (a b c d : Nat) : Nat := mk6 ((tN 0 1).testBit (8 * a + b)) ((tN 0 2).testBit (8 * a + c)) ((tN 0 3).testBit (8 * a + d)) ((tN 1 2).testBit (8 * b + c)) ((tN 1 3).testBit (8 * b + d)) ((tN 2 3).testBit (8 * c + d))
theorem cover : ((List.range 8).all fun a => (List.range 8).all fun b => (List.range 8).all fun c => (List.range 8).all fun d => masks.contains (maskN a b c d)) = true := by kernel_rfl
theorem bm6 : ∀ p q u v x y : Bool, (bmN (mk6 p q u v x y) 0 1 = p ∧ bmN (mk6 p q u v x y) 0 2 = q ∧ bmN (mk6 p q u v x y) 0 3 = u) ∧ bmN (mk6 p q u v x y) 1 2 = v ∧ bmN (mk6 p q u v x y) 1 3 = x ∧ bmN (mk6 p q u v x y) 2 3 = y := by decide +kernel
theorem all_r {n : Nat} {f : Nat → Bool} (h : (List.range n).all f = true) {a : Nat} (ha : a < n) : f a = true := List.all_eq_true.mp h a (List.mem_range.mpr ha)
theorem row_bit {i j : Nat} (h : tRow i j = true) {a b : Nat} (ha : a < 8) (hb : b < 8) : tb i a j b = (tN i j).testBit (8 * a + b) := beq_iff_eq.mp (all_r (all_r h ha) hb)
theorem rel_of (r : Nat → Nat) (hr : ∀ i, r i < 8) : ∃ m ∈ masks, Rel r m := by
  have hc := all_r (all_r (all_r (all_r cover (hr 0)) (hr 1)) (hr 2)) (hr 3)
  refine ⟨_, List.contains_iff_mem.mp hc, hr, ?_⟩
  have e := rows_eq
  simp only [Bool.and_eq_true] at e
  obtain ⟨⟨⟨⟨⟨e01, e02⟩, e03⟩, e12⟩, e13⟩, e23⟩ := e
  unfold maskN
  rw [← row_bit e01 (hr 0) (hr 1), ← row_bit e02 (hr 0) (hr 2), ← row_bit e03 (hr 0) (hr 3), ← row_bit e12 (hr 1) (hr 2), ← row_bit e13 (hr 1) (hr 3), ← row_bit e23 (hr 2) (hr 3)]
  obtain ⟨⟨b1, b2, b3⟩, b4, b5, b6⟩ := bm6 (tb 0 (r 0) 1 (r 1)) (tb 0 (r 0) 2 (r 2)) (tb 0 (r 0) 3 (r 3)) (tb 1 (r 1) 2 (r 2)) (tb 1 (r 1) 3 (r 3)) (tb 2 (r 2) 3 (r 3))
  have low : ∀ i, i < 4 → ∀ j, j < 4 → ¬ i < j → tb i (r i) j (r j) = false := fun i hi j hj hij => by
    have h := all_r (all_r rows_lt hi) hj
    rw [Bool.or_eq_true] at h
    rcases h with h | h
    · exact absurd (of_decide_eq_true h) hij
    · have := all_r (all_r h (hr i)) (hr j)
      simpa using this
  have ge : ∀ m i, ∀ j, ¬ i < j → bmN m i j = false := fun m i j hij => by
    unfold bmN
    by_cases h0 : i = 0
    · subst h0; obtain rfl : j = 0 := by omega
      rfl
    · rw [if_neg h0]
      by_cases h1 : i = 1
      · subst h1
        rw [if_pos rfl, if_neg (by omega), if_neg (by omega)]
      · rw [if_neg h1]
        by_cases h2 : i = 2
        · rw [if_pos h2, if_neg (by omega)]
        · rw [if_neg h2]
  intro i hi j hj
  by_cases hij : i < j
  · have : (i = 0 ∧ j = 1) ∨ (i = 0 ∧ j = 2) ∨ (i = 0 ∧ j = 3) ∨ (i = 1 ∧ j = 2) ∨ (i = 1 ∧ j = 3) ∨ (i = 2 ∧ j = 3) := by omega
    rcases this with ⟨rfl, rfl⟩ | ⟨rfl, rfl⟩ | ⟨rfl, rfl⟩ | ⟨rfl, rfl⟩ | ⟨rfl, rfl⟩ | ⟨rfl, rfl⟩
    · exact b1.symm
    · exact b2.symm
    · exact b3.symm
    · exact b4.symm
    · exact b5.symm
    · exact b6.symm
  · rw [low i hi j hj hij, ge _ i j hij]
end
noncomputable section
theorem forSem_cons {ks : List Nat} {body : SX} {x : List AV} {xs : List (List AV)} {fm fm' : Fm} {st st' : Sto} (hl : (x.length == ks.length) = true) (h : body (fsets fm ks x) st = some (.next, fm', st')) : forSem ks body (x :: xs) fm st = forSem ks body xs fm' st' := by
  rw [forSem, if_pos hl, h]
theorem mod4 (k : Int) : k.fmod 4 = 0 ∨ k.fmod 4 = 1 ∨ k.fmod 4 = 2 ∨ k.fmod 4 = 3 := by
  rw [Int.fmod_eq_emod_of_nonneg _ (by decide)]; omega
theorem step281 (s : AV) (k : Nat) (x a b c d : Int) : ∃ a' b' c' d' : Int, D_281b.1 [some s, some (.mut 0), some (.int (k : Nat)), some (.int x)] [.list [.int a, .int b, .int c, .int d]] =
    some (.next, [some s, some (.mut 0), some (.int (k : Nat)), some (.int x)], [.list [.int a', .int b', .int c', .int d']]) := by
  have hm : ∀ st, binAV st .Mod (.int (k : Nat)) (.int 4) = some (.int ((k : Int).fmod 4)) := fun _ => rfl
  have hx : ∀ st, binAV st .Mod (.int x) (.int 1000000) = some (.int (x.fmod 1000000)) := fun _ => rfl
  dsimp only [D_281b, fget, Option.bind_some]
  simp only [hm, hx, Option.bind_some]
  rcases mod4 k with h | h | h | h <;> rw [h]
  · exact ⟨a + x.fmod 1000000, b, c, d, rfl⟩
  · exact ⟨a, b + x.fmod 1000000, c, d, rfl⟩
  · exact ⟨a, b, c + x.fmod 1000000, d, rfl⟩
  · exact ⟨a, b, c, d + x.fmod 1000000, rfl⟩
theorem run281 (s : AV) : ∀ (ys : List Int) (k : Nat) (x2 x3 : Option AV) (a b c d : Int), ∃ y2 y3, ∃ a' b' c' d' : Int,
    forSem [2, 3] D_281b.1 (enumLs k (ys.map .int)) [some s, some (.mut 0), x2, x3] [.list [.int a, .int b, .int c, .int d]] = some (.next, [some s, some (.mut 0), y2, y3], [.list [.int a', .int b', .int c', .int d']])
  | [], k, x2, x3, a, b, c, d => ⟨x2, x3, a, b, c, d, rfl⟩
  | y :: ys, k, x2, x3, a, b, c, d => by
    obtain ⟨a1, b1, c1, d1, e⟩ := step281 s k y a b c d
    obtain ⟨y2, y3, a2, b2, c2, d2, e2⟩ := run281 s ys (k + 1) (some (.int (k : Nat))) (some (.int y)) a1 b1 c1 d1
    refine ⟨y2, y3, a2, b2, c2, d2, ?_⟩
    show forSem [2, 3] D_281b.1 ([.int (k : Nat), .int y] :: enumLs (k + 1) (ys.map .int)) _ _ = _
    rw [forSem_cons rfl e]
    exact e2
theorem clean_ints : ∀ xs : List Int, cleanL (xs.map .int) = true
  | [] => rfl
  | x :: xs => by show (clean (.int x) && cleanL (xs.map .int)) = true; rw [clean_ints xs]; rfl
theorem slice_ints (xs : List Int) (h : xs.length ≤ 63) : ∃ ys : List Int, sliceAV [MO.list [.int 3, .int 2, .int 5, .int 0]] (.list (xs.map .int)) none (some 16) none = some (.list (ys.map .int)) := by
  refine ⟨(sliceRange (sliceBounds none (some 16) none (xs.map AV.int).length).1 (sliceBounds none (some 16) none (xs.map AV.int).length).2.1 (sliceBounds none (some 16) none (xs.map AV.int).length).2.2).filterMap (xs[·]?), ?_⟩
  unfold sliceAV
  show (if _ then _ else _) = _
  rw [if_pos (by simp; omega)]
  congr 2
  rw [List.map_filterMap]
  congr 1
  funext i
  simp
theorem s281 (xs : List Int) (h : xs.length ≤ 63) : ∃ a b c d : Int, fnSem 1 0 vt_281 D_281.1 [] [.list (xs.map .int)] = some (.list [.int a, .int b, .int c, .int d]) := by
  rw [fnSem_clean rfl (by show (cleanL (xs.map .int) && true) = true; rw [clean_ints]; rfl)]
  obtain ⟨ys, e⟩ := slice_ints xs h
  obtain ⟨y2, y3, a, b, c, d, e2⟩ := run281 (.list (xs.map .int)) ys 0 none none 3 2 5 0
  refine ⟨a, b, c, d, ?_⟩
  show (D_281.1 [some (.list (xs.map .int)), none, none, none] []).bind _ = _
  dsimp only [D_281, Option.bind_some]
  rw [if_pos (by decide)]
  dsimp only [Option.map_some, fset, fget, Option.bind_some, List.nil_append, List.length_nil]
  rw [e]
  dsimp only [Option.bind_some]
  rw [e2]
  rfl
theorem mod2 (c : Int) : ∃ f : Nat, f < 2 ∧ c.fmod 2 = (f : Int) := by
  refine ⟨(c % 2).toNat, by omega, ?_⟩
  rw [Int.fmod_eq_emod_of_nonneg _ (by decide)]; omega
theorem mod4' (c : Int) : ∃ t : Nat, t < 4 ∧ c.fmod 4 = (t : Int) := by
  refine ⟨(c % 4).toNat, by omega, ?_⟩
  rw [Int.fmod_eq_emod_of_nonneg _ (by decide)]; omega
noncomputable def acc3 (x0 x1 x2 : AV) : Nat → List AV
  | 0 => []
  | 1 => [x0]
  | 2 => [x0, x1]
  | _ => [x0, x1, x2]
theorem acc3_len (x0 x1 x2 : AV) (k : Nat) : (acc3 x0 x1 x2 k).length < 4096 := by
  unfold acc3; split <;> simp
noncomputable def isS : Option AV → Option (List Nat)
  | some (.str b) => some b
  | _ => none
theorem isS_eq {o : Option AV} {b : List Nat} (h : isS o = some b) : o = some (.str b) := by
  unfold isS at h; split at h <;> cases h; rfl
abbrev v288 (st : Sto) (k f t : Nat) : Option AV := ((binAV st .Mult (.str [32]) (.int (f : Nat))).bind fun a => (binAV st .Mult (.str [9]) (.int (t : Nat))).bind fun b => binAV st .Add a b).bind fun a =>
  ((((binAV st .Add (.int 4) (.int (k : Nat))).bind fun a => binAV st .Sub a (.int (f : Nat))).bind fun a => binAV st .Sub a (.int (t : Nat))).bind fun b => binAV st .Mult (.str [32]) b).bind fun b => binAV st .Add a b
theorem v288_all (st : Sto) : ((List.range 4).all fun k => (List.range 2).all fun f => (List.range 4).all fun t => isS (v288 st k f t) == some (lead k (f + 2 * t))) = true := by kernel_rfl
theorem v288_ok (st : Sto) {k f t : Nat} (hk : k < 4) (hf : f < 2) (ht : t < 4) : v288 st k f t = some (.str (lead k (f + 2 * t))) :=
  isS_eq (beq_iff_eq.mp (all_r (all_r (all_r (v288_all st) hk) hf) ht))
theorem step288 (s x0 x1 x2 : AV) (c : Int) (x4 x5 : Option AV) (k : Nat) (hk : k < 4) : ∃ r, r < 8 ∧ ∃ y4 y5, D_288b.1 [some s, some (.mut 0), some (.int (k : Nat)), some (.int c), x4, x5] [.list (acc3 x0 x1 x2 k)] =
    some (.next, [some s, some (.mut 0), some (.int (k : Nat)), some (.int c), y4, y5], [.list (acc3 x0 x1 x2 k ++ [.str (lead k r)])]) := by
  obtain ⟨f, hf, ef⟩ := mod2 c
  obtain ⟨t, ht, et⟩ := mod4' (c.fdiv 2)
  have h1 : ∀ st, binAV st .Mod (.int c) (.int 2) = some (.int (c.fmod 2)) := fun _ => rfl
  have h2 : ∀ st, binAV st .FloorDiv (.int c) (.int 2) = some (.int (c.fdiv 2)) := fun _ => rfl
  have h3 : ∀ st, binAV st .Mod (.int (c.fdiv 2)) (.int 4) = some (.int ((c.fdiv 2).fmod 4)) := fun _ => rfl
  refine ⟨f + 2 * t, by omega, some (.int (f : Nat)), some (.int (t : Nat)), ?_⟩
  have hv := v288_ok [MO.list (acc3 x0 x1 x2 k)] hk hf ht
  dsimp only [v288] at hv
  dsimp only [D_288b, fget, fset, Option.bind_some, Option.map_some]
  rw [h1, ef]
  dsimp only [fget, fset, Option.bind_some, Option.map_some]
  rw [h2]
  dsimp only [Option.bind_some]
  rw [h3, et]
  dsimp only [fget, fset, Option.bind_some, Option.map_some]
  rw [hv]
  dsimp only [Option.bind_some, sget]
  rw [if_pos (acc3_len x0 x1 x2 k)]
  rfl
noncomputable def r4 (a b c d : Nat) : Nat → Nat
  | 0 => a
  | 1 => b
  | 2 => c
  | 3 => d
  | _ => 0
theorem s288 (a b c d : Int) : ∃ r : Nat → Nat, (∀ i, r i < 8) ∧ fnSem 1 0 vt_288 D_288.1 [] [.list [.int a, .int b, .int c, .int d]] = some (lds r) := by
  obtain ⟨r0, l0, p4, p5, e0⟩ := step288 (.list [.int a, .int b, .int c, .int d]) .none .none .none a none none 0 (by decide)
  obtain ⟨r1, l1, q4, q5, e1⟩ := step288 (.list [.int a, .int b, .int c, .int d]) (.str (lead 0 r0)) .none .none b p4 p5 1 (by decide)
  obtain ⟨r2, l2, u4, u5, e2⟩ := step288 (.list [.int a, .int b, .int c, .int d]) (.str (lead 0 r0)) (.str (lead 1 r1)) .none c q4 q5 2 (by decide)
  obtain ⟨r3, l3, v4, v5, e3⟩ := step288 (.list [.int a, .int b, .int c, .int d]) (.str (lead 0 r0)) (.str (lead 1 r1)) (.str (lead 2 r2)) d u4 u5 3 (by decide)
  refine ⟨r4 r0 r1 r2 r3, fun i => ?_, ?_⟩
  · unfold r4; split <;> first | assumption | decide
  · rw [fnSem_clean rfl rfl]
    show (D_288.1 [some (.list [.int a, .int b, .int c, .int d]), none, none, none, none, none] []).bind _ = _
    dsimp only [D_288, Option.bind_some]
    rw [if_pos (by decide)]
    dsimp only [Option.map_some, fset, fget, Option.bind_some, List.nil_append, List.length_nil, enumLs]
    rw [forSem_cons rfl e0, forSem_cons rfl e1, forSem_cons rfl e2, forSem_cons rfl e3]
    rfl
theorem law_true (xs : List Int) (h : xs.length ≤ 63) : fnSem 1 0 vt_332 D_332.1 [] [.list (xs.map .int)] = some (.bool true) := by
  rw [fnSem_clean rfl (by show (cleanL (xs.map .int) && true) = true; rw [clean_ints]; rfl)]
  obtain ⟨a, b, c, d, e1⟩ := s281 xs h
  obtain ⟨r, hr, e2⟩ := s288 a b c d
  obtain ⟨m, hm, R⟩ := rel_of r hr
  obtain ⟨w, F⟩ := facts m hm
  have hl : D_332l.1 [some (.list (xs.map .int)), none, none, none, none, none] [] = some (.next, [some (.list (xs.map .int)), some (lds r), none, none, none, none], []) := by
    dsimp only [D_332l, fget, Option.bind_some]
    rw [e1]
    dsimp only [Option.bind_some]
    rw [e2]
    rfl
  have hn : ∀ s L, D_332n.1 [some s, some L, none, none, none, none] [] = some (.next, [some s, some L, some (.str nm4), none, none, none], []) := fun s L => by kernel_rfl
  have ht : D_332t.1 [some (.list (xs.map .int)), some (lds r), some (.str nm4), none, none, none] [] = some (.next, [some (.list (xs.map .int)), some (lds r), some (.str nm4), some (Tm m), none, none], []) := by
    dsimp only [D_332t, fget, Option.bind_some]
    rw [s293 R F]
    rfl
  have he : ∀ s T U W, D_332e.1 [some s, some (lds r), some (.str nm4), some T, some U, some W] [] = some (.str w) := fun s T U W => by
    dsimp only [D_332e, fget, Option.bind_some]
    exact s320 R F
  show (D_332.1 [some (.list (xs.map .int)), none, none, none, none, none] []).bind _ = _
  dsimp only [D_332]
  rw [hl]
  dsimp only
  rw [hn]
  dsimp only
  rw [ht]
  dsimp only
  rw [F.und]
  dsimp only
  rw [F.wrd]
  dsimp only [fget, Option.bind_some]
  rw [he]
  have hc : cmpAV [] .Eq (.str w) (.str w) = some true := by show some (w == w) = _; rw [beq_self_eq_true]
  dsimp only [Option.bind_some]
  rw [hc]
  dsimp only [Option.map_some, Option.bind_some, truthAV]
  rw [if_pos rfl, F.hld]
  rfl
end
theorem reps_ints {C : Cx} {h : Heap} {W : List Addr} {ρ : List (List Addr)} {P : Params} : ∀ {ns : List Int} {vs : List Value}, WellAll P h vs (ofPys (ns.map PyData.int)) → Reps C h W ρ (ns.map .int) vs
  | [], _, .nil => rfl
  | n :: ns, _, .cons (v := v) (vs := vs) w ws => by
    cases w
    exact ⟨_, _, rfl, ⟨_, rfl⟩, reps_ints ws⟩
theorem good_caller : Good 9 callerA := ⟨rfl, by decide +kernel, by decide +kernel⟩
theorem law_call {w : World} {mg mb : Str → Option Value} {s : Shared} {ns : List Int} {l : Addr} {Q : Value → Shared → Prop} {E : Value → Shared → Prop} (K : (getK.heap_1 w.params).In s.heap) (g : s.heap.Ns mainGlobals mg) (b : s.heap.Ns builtinsNs mb) (nl : s.heap.NoLimit)
    (bt : ∀ x : Str, x ≠ "__name__" → mb x = bootBuiltins x) (hl : ns.length ≤ 63) (hw : Well w.params s.heap (.ref l) (ofPy (PyData.list (ns.map PyData.int))))
    (hQ : ∀ h' tk, Kp s.heap h' → Q (.bool true) { s with heap := h', toks := tk }) : wpAny (model pp w) callerA (call (.ref 332) [.ref l]) Q E s := by
  let C : Cx := ⟨pp, w, getK.heap_1 w.params, mg, mb, s.heap⟩
  have ok : C.Ok s.heap := ⟨K, g, b, bt, nl⟩
  have I : Inv0 C [] [] [] s.heap := ⟨⟨ok, Kp.refl _, by simp⟩, fun i m e => by simp at e, by simp, by simp, by simp, rfl⟩
  have r : Reps C s.heap [] [] [.list (ns.map .int)] [.ref l] := by
    cases hw with
    | list h1 h2 => exact ⟨_, _, rfl, ⟨l, _, rfl, by simp, ⟨_, h1⟩, reps_ints h2⟩, rfl⟩
  exact F_332 (C := C) rfl good_caller I (law_true ns hl) r fun v h' tk k rv => by
    obtain rfl : v = .bool true := rv
    exact hQ h' tk k
theorem final : PySem.Challenge.rw_wj0078_01.Holds := by
  refine head ?_
  intro w s₀ s₁ mg mb G Y a o pm cd doc dV kV ho hd hcd hD hmg hg args vals as hpre hlay hrd hwl hlo
  have T := Ground.T G
  have ha : mg "law" = some (.ref 332) := mg_of Y T.g (by kernel_rfl)
  have hn : dlaw.name = "law" := by kernel_rfl
  rw [hn, ha] at hmg
  cases hmg
  wrow_args hpre hlay hrd hwl hlo
  rename_i ns _ _ _ _ _ _ _ l vs _ _ _ wl _ _ _ hlen _
  refine law_call Y T.g T.b T.nolimit T.builtins (by omega) wl fun h' tk k => ?_
  refine ⟨.inl ⟨_, .bool true, [], rfl, fun _ => rfl, .bool true, ?_, fun _ => ⟨by simp, by simp⟩⟩, .of_keep k, rfl, .of_eq hg⟩
  wrow_post
end Mine
theorem PySem.Challenge.cw_wj0078_01_holds : PySem.Challenge.rw_wj0078_01.Holds :=
  Mine.final
