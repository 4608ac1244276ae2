import PyProof.Rows.All
import Wide.All
import OpenK.AllK
import Wide.FinOn
import KE.KNest
import KE.KLam
import KE.KxPercent
import PyProof.StationsW
import OpenK.KRaise
import KE.KxBytes
import PyProof.RulesTry
import PyProof.IsiH_list
import PyProof.FactsAll.object
import PyProof.SliceStr2
import PyProof.IsInstanceH
import PyProof.StrCalls
import PyProof.Rows.StrCut
import PyProof.Rows.SeqMore
import PyProof.Rows.RuleDivmod
import PyProof.Rows.RuleN_abs
import PyProof.Rows.RuleB_small
import PyProof.StrBlock2
import PyProof.ListCopy
import PyProof.StrReplace2
import PyProof.StrLawsReplace
import KE.KRevSl
import PyProof.WalkInts
import PyProof.MinMaxWalk
import PyProof.Dict
import PyProof.EqAt
import PyProof.IsiPairs
import PyProof.IsiHeapPairs
import Wide.WTab
import PySem.Challenge.RW_dm0155_03
set_option bootstrap.genMatcherCode false
set_option genInjectivity false
set_option genSizeOf false
set_option genSizeOfSpec false
set_option maxRecDepth 100000
set_option Elab.async false
namespace Mine
open PySem PyProof.Rows

inductive V where
  | none
  | bool (b : Bool)
  | int (i : Int)
  | str (s : Str)
  | bytes (b : Array UInt8)
  | tup (xs : List V)
  | fl (xs : List V)
  | list (a : Addr)
  | raw (v : Value)
  | rng (a b c : Int)
  | mat (x : Str) (sp : List Int)

noncomputable abbrev Zt := Addr → Option Obj
noncomputable def Zle (Z Z' : Zt) : Prop := ∀ a o, Z a = some o → Z' a = some o
theorem Zle.refl {Z : Zt} : Zle Z Z := fun _ _ h => h
theorem Zle.trans {Z Z' Z'' : Zt} (h : Zle Z Z') (h' : Zle Z' Z'') : Zle Z Z'' := fun a o e => h' a o (h a o e)

noncomputable def ZSeq (Z : Zt) (T : String) (a : Addr) (ws : List Value) : Prop :=
  ∃ o, Z a = some o ∧ o.cls = .type T ∧ ∃ n, o.data = .seq ws.toArray n
theorem ZSeq.mono {Z Z' : Zt} {T : String} {a : Addr} {ws : List Value} (h : ZSeq Z T a ws) (hZ : Zle Z Z') : ZSeq Z' T a ws :=
  by obtain ⟨o, e, r⟩ := h; exact ⟨o, hZ _ _ e, r⟩

mutual
noncomputable def VR (Z : Zt) : V → Value → Prop
  | .none, w => w = .none
  | .bool b, w => w = .bool b
  | .int i, w => ∃ t, w = .int i t
  | .str s, w => ∃ t, w = .str s t
  | .bytes b, w => ∃ t, w = .bytes b t
  | .tup xs, w => ∃ a ws, w = .ref a ∧ ZSeq Z "tuple" a ws ∧ VRs Z xs ws
  | .fl xs, w => ∃ a ws, w = .ref a ∧ ZSeq Z "list" a ws ∧ VRs Z xs ws
  | .list a, w => w = .ref a
  | .raw v, w => w = v
  | .rng a b c, w => ∃ r t u v, w = .ref r ∧ Z r = some { cls := .type "range", dict := none, data := .fields #[.int a t, .int b u, .int c v], slots := #[] }
  | .mat x sp, w => ∃ a b t pt ps lm li n, w = .ref a ∧ Z a = some { cls := .type "re.Match", dict := none, data := .fields #[.str x t, pt, ps, lm, li, .ref b], slots := #[] } ∧
      Z b = some { cls := .type "tuple", dict := none, data := .seq (sp.map rawInt).toArray n, slots := #[] }
noncomputable def VRs (Z : Zt) : List V → List Value → Prop
  | [], ws => ws = []
  | x :: xs, ws => ∃ w ws', ws = w :: ws' ∧ VR Z x w ∧ VRs Z xs ws'
end

mutual
theorem VR.mono {Z Z' : Zt} (hZ : Zle Z Z') : ∀ (v : V) (w : Value), VR Z v w → VR Z' v w
  | .none, _, h | .bool _, _, h | .int _, _, h | .str _, _, h | .bytes _, _, h | .list _, _, h | .raw _, _, h => by
    unfold VR at h ⊢; exact h
  | .tup xs, w, h => by
    unfold VR at h ⊢
    obtain ⟨a, ws, e, hs, hr⟩ := h
    exact ⟨a, ws, e, hs.mono hZ, VRs.mono hZ xs ws hr⟩
  | .fl xs, w, h => by
    unfold VR at h ⊢
    obtain ⟨a, ws, e, hs, hr⟩ := h
    exact ⟨a, ws, e, hs.mono hZ, VRs.mono hZ xs ws hr⟩
  | .rng a b c, w, h => by
    unfold VR at h ⊢
    obtain ⟨r, t, u, v, e, hs⟩ := h
    exact ⟨r, t, u, v, e, hZ _ _ hs⟩
  | .mat x sp, w, h => by
    unfold VR at h ⊢
    obtain ⟨a, b, t, pt, ps, lm, li, n, e, h1, h2⟩ := h
    exact ⟨a, b, t, pt, ps, lm, li, n, e, hZ _ _ h1, hZ _ _ h2⟩
theorem VRs.mono {Z Z' : Zt} (hZ : Zle Z Z') : ∀ (xs : List V) (ws : List Value), VRs Z xs ws → VRs Z' xs ws
  | [], _, h => by unfold VRs at h ⊢; exact h
  | x :: xs, ws, h => by
    unfold VRs at h ⊢
    obtain ⟨w, ws', e, h1, h2⟩ := h
    exact ⟨w, ws', e, VR.mono hZ x w h1, VRs.mono hZ xs ws' h2⟩
end

theorem VRs.nil {Z : Zt} : VRs Z [] [] := by unfold VRs; rfl
theorem VRs.cons {Z : Zt} {x : V} {xs : List V} {w : Value} {ws : List Value} (h : VR Z x w) (h' : VRs Z xs ws) : VRs Z (x :: xs) (w :: ws) := by
  unfold VRs; exact ⟨w, ws, rfl, h, h'⟩
theorem VRs.of_nil {Z : Zt} {ws : List Value} (h : VRs Z [] ws) : ws = [] := by unfold VRs at h; exact h
theorem VRs.of_cons {Z : Zt} {x : V} {xs : List V} {ws : List Value} (h : VRs Z (x :: xs) ws) : ∃ w ws', ws = w :: ws' ∧ VR Z x w ∧ VRs Z xs ws' := by
  unfold VRs at h; exact h
theorem VRs.length {Z : Zt} : ∀ {xs : List V} {ws : List Value}, VRs Z xs ws → ws.length = xs.length
  | [], _, h => by rw [h.of_nil]; rfl
  | x :: xs, ws, h => by
    obtain ⟨w, ws', rfl, _, h2⟩ := h.of_cons
    simp [h2.length]
theorem VRs.append {Z : Zt} : ∀ {xs ys : List V} {ws us : List Value}, VRs Z xs ws → VRs Z ys us → VRs Z (xs ++ ys) (ws ++ us)
  | [], _, _, _, h, h' => by rw [h.of_nil]; exact h'
  | x :: xs, ys, ws, us, h, h' => by
    obtain ⟨w, ws', rfl, h1, h2⟩ := h.of_cons
    exact .cons h1 (h2.append h')
theorem VRs.get {Z : Zt} : ∀ {xs : List V} {ws : List Value} (_ : VRs Z xs ws) (i : Nat) {v : V}, xs[i]? = some v → ∃ w, ws[i]? = some w ∧ VR Z v w
  | [], _, _, i, v, e => by simp at e
  | x :: xs, ws, h, i, v, e => by
    obtain ⟨w, ws', rfl, h1, h2⟩ := h.of_cons
    cases i with
    | zero => simp at e; subst e; exact ⟨w, by simp, h1⟩
    | succ i => simp at e; obtain ⟨w', e', r⟩ := h2.get i e; exact ⟨w', by simpa using e', r⟩
theorem VRs.take {Z : Zt} : ∀ {xs : List V} {ws : List Value} (_ : VRs Z xs ws) (n : Nat), VRs Z (xs.take n) (ws.take n)
  | [], _, h, n => by rw [h.of_nil]; simp; exact .nil
  | x :: xs, ws, h, n => by
    obtain ⟨w, ws', rfl, h1, h2⟩ := h.of_cons
    cases n with
    | zero => simp; exact .nil
    | succ n => simp; exact .cons h1 (h2.take n)
theorem VRs.drop {Z : Zt} : ∀ {xs : List V} {ws : List Value} (_ : VRs Z xs ws) (n : Nat), VRs Z (xs.drop n) (ws.drop n)
  | [], _, h, n => by rw [h.of_nil]; simp; exact .nil
  | x :: xs, ws, h, n => by
    obtain ⟨w, ws', rfl, h1, h2⟩ := h.of_cons
    cases n with
    | zero => simpa using VRs.cons h1 h2
    | succ n => simpa using h2.drop n
theorem VRs.reverse {Z : Zt} : ∀ {xs : List V} {ws : List Value} (_ : VRs Z xs ws), VRs Z xs.reverse ws.reverse
  | [], _, h => by rw [h.of_nil]; exact .nil
  | x :: xs, ws, h => by
    obtain ⟨w, ws', rfl, h1, h2⟩ := h.of_cons
    simpa using h2.reverse.append (.cons h1 .nil)

structure Tab where
  P : Addr
  pos : Pos
  qual : Str

structure Gl where
  prog : Program
  w : World
  base : Heap
  os : OsState
  mg : Str → Option Value
  mb : Str → Option Value
  tabs : List Tab
  cells : List (Addr × V) := []

noncomputable abbrev Gl.M (G : Gl) : Model := model G.prog G.w

structure St where
  loc : List (Str × V)
  ar : List (Addr × List V)

noncomputable def LR (Z : Zt) : Option V → Option Value → Prop
  | none, _ => True
  | some v, some w => VR Z v w
  | some _, none => False

noncomputable def TabOk (Z : Zt) (t : Tab) (h : Heap) : Prop :=
  ∃ ps, h.get? t.P = some (PySem.W.tabObj ps) ∧ (ps = #[] ∨ ∃ c' oc vs tk, ps = #[rawInt t.pos.line, rawInt t.pos.col, .ref c'] ∧ Z c' = some oc ∧ oc.data = .fields vs ∧ vs[1]? = some (.str t.qual tk))

structure Sim (G : Gl) (K Z : Zt) (L : Addr) (st : St) (s : Shared) : Prop where
  kk : ∀ b o, K b = some o → s.heap.get? b = some o
  zz : ∀ b o, Z b = some o → s.heap.get? b = some o
  kz : ∀ b o, K b = some o → Z b = none
  bz : ∀ b o, G.base.get? b = some o → Z b = some o
  ns : ∃ m, s.heap.Ns L m ∧ ∀ x, LR Z (st.loc.lookup x) (m x)
  kL : K L = none
  zL : Z L = none
  ar : ∀ p ∈ st.ar, K p.1 = none ∧ Z p.1 = none ∧ p.1 ≠ L ∧ ∃ ws n, s.heap.get? p.1 = some ⟨.type "list", none, .seq ws.toArray n, #[]⟩ ∧ VRs Z p.2 ws
  nd : (st.ar.map (·.1)).Nodup
  tb : ∀ t ∈ G.tabs, K t.P = none ∧ Z t.P = none ∧ t.P ≠ L ∧ (∀ p ∈ st.ar, p.1 ≠ t.P) ∧ TabOk Z t s.heap
  gens : s.gens = #[]
  os : s.os = G.os
  cl : ∀ p ∈ G.cells, ∃ o w, Z p.1 = some o ∧ o.data = .cell (some w) ∧ VR Z p.2 w

noncomputable def Tracked (G : Gl) (K Z : Zt) (L : Addr) (st : St) (b : Addr) : Prop :=
  (∃ o, K b = some o) ∨ (∃ o, Z b = some o) ∨ b = L ∨ (∃ p ∈ st.ar, p.1 = b) ∨ (∃ t ∈ G.tabs, t.P = b)

theorem Sim.there {G : Gl} {K Z : Zt} {L : Addr} {st : St} {s : Shared} (S : Sim G K Z L st s) {b : Addr} (h : Tracked G K Z L st b) : ∃ o, s.heap.get? b = some o := by
  rcases h with ⟨o, h⟩ | ⟨o, h⟩ | rfl | ⟨p, hp, rfl⟩ | ⟨t, ht, rfl⟩
  · exact ⟨o, S.kk _ _ h⟩
  · exact ⟨o, S.zz _ _ h⟩
  · obtain ⟨m, ⟨o, _, _, e, _⟩, _⟩ := S.ns; exact ⟨o, e⟩
  · obtain ⟨_, _, _, ws, n, e, _⟩ := S.ar p hp; exact ⟨_, e⟩
  · obtain ⟨_, _, _, _, ps, e, _⟩ := S.tb t ht; exact ⟨_, e⟩

theorem Sim.fresh {G : Gl} {K Z : Zt} {L : Addr} {st : St} {s : Shared} (S : Sim G K Z L st s) : ¬ Tracked G K Z L st s.heap.objs.size := fun h => by
  obtain ⟨o, e⟩ := S.there h
  exact absurd (Heap.lt_size e) (Nat.lt_irrefl _)

theorem Sim.heap {G : Gl} {K Z : Zt} {L : Addr} {st : St} {s : Shared} (S : Sim G K Z L st s) {h' : Heap} {tk : Nat} {dr : Drawn}
    (hk : ∀ b o, Tracked G K Z L st b → s.heap.get? b = some o → h'.get? b = some o) :
    Sim G K Z L st { s with heap := h', toks := tk, drawn := dr } where
  kk b o e := hk b o (.inl ⟨o, e⟩) (S.kk b o e)
  zz b o e := hk b o (.inr (.inl ⟨o, e⟩)) (S.zz b o e)
  kz := S.kz
  bz := S.bz
  ns := by
    obtain ⟨m, ⟨o, es, ep, e, r⟩, h2⟩ := S.ns
    exact ⟨m, ⟨o, es, ep, hk _ _ (.inr (.inr (.inl rfl))) e, r⟩, h2⟩
  kL := S.kL
  zL := S.zL
  ar p hp := by
    obtain ⟨h1, h2, h3, ws, n, e, r⟩ := S.ar p hp
    exact ⟨h1, h2, h3, ws, n, hk _ _ (.inr (.inr (.inr (.inl ⟨p, hp, rfl⟩)))) e, r⟩
  nd := S.nd
  tb t ht := by
    obtain ⟨h1, h2, h3, h4, ps, e, r⟩ := S.tb t ht
    exact ⟨h1, h2, h3, h4, ps, hk _ _ (.inr (.inr (.inr (.inr ⟨t, ht, rfl⟩)))) e, r⟩
  gens := S.gens
  os := S.os
  cl := S.cl

theorem Sim.push {G : Gl} {K Z : Zt} {L : Addr} {st : St} {s : Shared} (S : Sim G K Z L st s) (o : Obj) {tk : Nat} :
    Sim G K Z L st { s with heap := s.heap.push o, toks := tk } := S.heap fun _ _ _ e => Heap.get?_push_of_some o e

theorem Sim.toks {G : Gl} {K Z : Zt} {L : Addr} {st : St} {s : Shared} (S : Sim G K Z L st s) {tk : Nat} :
    Sim G K Z L st { s with toks := tk } := S.heap fun _ _ _ e => e

theorem Sim.ext {G : Gl} {K Z : Zt} {L : Addr} {st : St} {s : Shared} (S : Sim G K Z L st s) {a : Addr} {h' : Heap} {tk : Nat} (hx : Heap.ExtBut a s.heap h')
    (ha : ¬ Tracked G K Z L st a) : Sim G K Z L st { s with heap := h', toks := tk } := S.heap fun b o hb e => hx b o (fun q => ha (q ▸ hb)) e

theorem Sim.base {G : Gl} {K Z : Zt} {L : Addr} {st : St} {s : Shared} (S : Sim G K Z L st s) : ∀ b o, G.base.get? b = some o → s.heap.get? b = some o :=
  fun b o e => S.zz b o (S.bz b o e)

inductive Post (G : Gl) (K Z : Zt) (L : Addr) {α β : Type} (R : Zt → β → α → Prop) (Q : β → St → Prop) (w : α) (s' : Shared) : Prop
  | intro (Z' : Zt) (v : β) (st' : St) (le : Zle Z Z') (sim : Sim G K Z' L st' s') (rel : R Z' v w) (q : Q v st') : Post G K Z L R Q w s'
noncomputable def Tri (G : Gl) (A : Around) (L : Addr) {α β : Type} (R : Zt → β → α → Prop) (t : Sem α) (st : St) (Q : β → St → Prop) : Prop :=
  ∀ K Z s, Sim G K Z L st s → wpAny G.M A t (Post G K Z L R Q) (fun _ _ => False) s

section
variable {G : Gl} {A : Around} {L : Addr} {α β γ δ : Type} {st : St}

theorem Tri.mono {R : Zt → β → α → Prop} {t : Sem α} {Q Q' : β → St → Prop} (h : Tri G A L R t st Q) (hQ : ∀ v st', Q v st' → Q' v st') : Tri G A L R t st Q' :=
  fun K Z s S => wpAny_mono (h K Z s S) (fun _ _ hm0 => by obtain ⟨Z', v, st', a, b, c, d⟩ := hm0; exact ⟨Z', v, st', a, b, c, hQ _ _ d⟩) fun _ _ x => x

noncomputable def Ent (G : Gl) (L : Addr) (st st₀ : St) : Prop := ∀ K Z s, Sim G K Z L st s → ∃ Z', Zle Z Z' ∧ Sim G K Z' L st₀ s
theorem Ent.refl : Ent G L st st := fun _ Z _ S => ⟨Z, .refl, S⟩
theorem Ent.trans {st₁ st₂ : St} (h : Ent G L st st₁) (h' : Ent G L st₁ st₂) : Ent G L st st₂ := fun K Z s S =>
  by obtain ⟨Z', a, b⟩ := h K Z s S; obtain ⟨Z'', a', b'⟩ := h' K Z' s b; exact ⟨Z'', a.trans a', b'⟩
theorem Tri.ent {st₀ : St} {R : Zt → β → α → Prop} {t : Sem α} {Q : β → St → Prop} (he : Ent G L st st₀) (h : Tri G A L R t st₀ Q) : Tri G A L R t st Q := fun K Z s S =>
  let ⟨Z', a, b⟩ := he K Z s S
  wpAny_mono (h K Z' s b) (fun _ _ hm1 => by obtain ⟨Z'', v, st', a', r1, r2, r3⟩ := hm1; exact ⟨Z'', v, st', a.trans a', r1, r2, r3⟩) fun _ _ x => x

theorem Ent.less {st₀ : St} (hl : ∀ x v, st₀.loc.lookup x = some v → st.loc.lookup x = some v) (ha : ∀ p ∈ st₀.ar, p ∈ st.ar) (hn : (st₀.ar.map (·.1)).Nodup) : Ent G L st st₀ := fun K Z s S =>
  ⟨Z, .refl, { S with
    ns := by
      obtain ⟨m, h1, h2⟩ := S.ns
      refine ⟨m, h1, fun x => ?_⟩
      cases e : st₀.loc.lookup x with
      | none => trivial
      | some v => have := h2 x; rw [hl x v e] at this; exact this
    ar := fun p hp => S.ar p (ha p hp)
    nd := hn
    tb := fun t ht => by obtain ⟨a, b, c, d, e⟩ := S.tb t ht; exact ⟨a, b, c, fun p hp => d p (ha p hp), e⟩ }⟩
end

mutual
noncomputable def V.fz (a : Addr) (xs : List V) : V → V
  | .list b => if b = a then .fl xs else .list b
  | .tup ys => .tup (V.fzs a xs ys)
  | .fl ys => .fl (V.fzs a xs ys)
  | .none => .none | .bool b => .bool b | .int i => .int i | .str s => .str s | .bytes b => .bytes b | .raw v => .raw v | .rng a b c => .rng a b c | .mat x sp => .mat x sp
noncomputable def V.fzs (a : Addr) (xs : List V) : List V → List V
  | [] => []
  | y :: ys => V.fz a xs y :: V.fzs a xs ys
end
theorem V.fzs_eq (a : Addr) (xs ys : List V) : V.fzs a xs ys = ys.map (V.fz a xs) := by
  induction ys with
  | nil => simp [V.fzs]
  | cons y ys ih => simp [V.fzs, ih]


mutual
theorem VR.fz {Z : Zt} {a : Addr} {xs : List V} {ws : List Value} (hz : ZSeq Z "list" a ws) (hx : VRs Z xs ws) : ∀ (v : V) (w : Value), VR Z v w → VR Z (v.fz a xs) w
  | .list b, w, h => by
    unfold VR at h
    simp only [V.fz]
    split
    · rename_i e; subst e; unfold VR; exact ⟨b, ws, h, hz, hx⟩
    · unfold VR; exact h
  | .tup ys, w, h => by
    unfold VR at h; obtain ⟨b, us, e, h1, h2⟩ := h
    simp only [V.fz]; unfold VR
    exact ⟨b, us, e, h1, VRs.fzs hz hx ys us h2⟩
  | .fl ys, w, h => by
    unfold VR at h; obtain ⟨b, us, e, h1, h2⟩ := h
    simp only [V.fz]; unfold VR
    exact ⟨b, us, e, h1, VRs.fzs hz hx ys us h2⟩
  | .none, _, h | .bool _, _, h | .int _, _, h | .str _, _, h | .bytes _, _, h | .raw _, _, h | .rng _ _ _, _, h | .mat _ _, _, h => by simp only [V.fz]; exact h
theorem VRs.fzs {Z : Zt} {a : Addr} {xs : List V} {ws : List Value} (hz : ZSeq Z "list" a ws) (hx : VRs Z xs ws) : ∀ (ys : List V) (us : List Value), VRs Z ys us → VRs Z (V.fzs a xs ys) us
  | [], us, h => by simp only [V.fzs]; exact h
  | y :: ys, us, h => by
    obtain ⟨w, us', rfl, h1, h2⟩ := h.of_cons
    simp only [V.fzs]
    exact .cons (VR.fz hz hx y w h1) (VRs.fzs hz hx ys us' h2)
end

noncomputable def St.fz (st : St) (a : Addr) (xs : List V) : St :=
  ⟨st.loc.map fun p => (p.1, p.2.fz a xs), (st.ar.filter fun p => p.1 ≠ a).map fun p => (p.1, V.fzs a xs p.2)⟩

theorem lookup_mapV (f : V → V) (l : List (Str × V)) (x : Str) : (l.map fun p => (p.1, f p.2)).lookup x = (l.lookup x).map f := by
  induction l with
  | nil => rfl
  | cons p l ih =>
    obtain ⟨y, v⟩ := p
    simp only [List.map_cons, List.lookup_cons]
    cases x == y <;> simp [ih]

noncomputable def Zset (Z : Zt) (a : Addr) (o : Obj) : Zt := fun b => if b = a then some o else Z b
theorem Zset.le {Z : Zt} {a : Addr} {o : Obj} (h : Z a = none) : Zle Z (Zset Z a o) := fun b o' e => by
  unfold Zset; split
  · rename_i q; subst q; rw [h] at e; cases e
  · exact e
theorem Zset.self {Z : Zt} {a : Addr} {o : Obj} : Zset Z a o a = some o := by unfold Zset; rw [if_pos rfl]
theorem Zset.ne {Z : Zt} {a b : Addr} {o : Obj} (h : b ≠ a) : Zset Z a o b = Z b := by unfold Zset; rw [if_neg h]

theorem TabOk.mono {Z Z' : Zt} {t : Tab} {h : Heap} (x : TabOk Z t h) (hZ : Zle Z Z') : TabOk Z' t h := by
  obtain ⟨ps, e, r⟩ := x
  refine ⟨ps, e, r.imp id fun hm2 => by obtain ⟨c', oc, vs, tk, h1, h2, h3⟩ := hm2; exact ⟨c', oc, vs, tk, h1, hZ _ _ h2, h3⟩⟩

theorem LR.mono {Z Z' : Zt} (hZ : Zle Z Z') {v : Option V} {w : Option Value} (h : LR Z v w) : LR Z' v w := by
  cases v with
  | none => trivial
  | some v => cases w with
    | none => exact h
    | some w => exact VR.mono hZ v w h

theorem Sim.addZ {G : Gl} {K Z : Zt} {L : Addr} {st : St} {s : Shared} (S : Sim G K Z L st s) {a : Addr} {o : Obj} (ha : ¬ Tracked G K Z L st a) (e : s.heap.get? a = some o) :
    Zle Z (Zset Z a o) ∧ Sim G K (Zset Z a o) L st s := by
  have hZa : Z a = none := by
    cases q : Z a with
    | none => rfl
    | some o' => exact absurd (.inr (.inl ⟨o', q⟩)) ha
  have hle : Zle Z (Zset Z a o) := Zset.le hZa
  refine ⟨hle, ?_⟩
  have ne : ∀ b, Tracked G K Z L st b → b ≠ a := fun b hb q => ha (q ▸ hb)
  exact { S with
    zz := fun b o' e' => by
      unfold Zset at e'; split at e'
      · rename_i q; subst q; cases e'; exact e
      · exact S.zz b o' e'
    kz := fun b o' e' => by rw [Zset.ne (ne b (.inl ⟨o', e'⟩))]; exact S.kz b o' e'
    bz := fun b o' e' => hle _ _ (S.bz b o' e')
    ns := by obtain ⟨m, h1, h2⟩ := S.ns; exact ⟨m, h1, fun x => (h2 x).mono hle⟩
    zL := by rw [Zset.ne (ne L (.inr (.inr (.inl rfl))))]; exact S.zL
    cl := fun p hp => by obtain ⟨o', w, h1, h2, h3⟩ := S.cl p hp; exact ⟨o', w, hle _ _ h1, h2, VR.mono hle _ _ h3⟩
    ar := fun p hp => by
      obtain ⟨h1, h2, h3, ws, n, h4, h5⟩ := S.ar p hp
      exact ⟨h1, by rw [Zset.ne (ne p.1 (.inr (.inr (.inr (.inl ⟨p, hp, rfl⟩)))))]; exact h2, h3, ws, n, h4, VRs.mono hle _ _ h5⟩
    tb := fun t ht => by
      obtain ⟨h1, h2, h3, h4, h5⟩ := S.tb t ht
      exact ⟨h1, by rw [Zset.ne (ne t.P (.inr (.inr (.inr (.inr ⟨t, ht, rfl⟩)))))]; exact h2, h3, h4, h5.mono hle⟩ }

theorem not_tracked_of_drop {G : Gl} {K Z : Zt} {L : Addr} {st : St} {s : Shared} (S : Sim G K Z L st s) {a : Addr} {xs : List V} (ha : (a, xs) ∈ st.ar) :
    ¬ Tracked G K Z L ⟨st.loc, st.ar.filter fun p => p.1 ≠ a⟩ a := by
  obtain ⟨h1, h2, h3, _⟩ := S.ar _ ha
  rintro (⟨o, h⟩ | ⟨o, h⟩ | h | ⟨p, hp, h⟩ | ⟨t, ht, h⟩)
  · rw [h1] at h; cases h
  · rw [h2] at h; cases h
  · exact h3 h
  · have := (List.mem_filter.mp hp).2; simp [h] at this
  · exact (S.tb t ht).2.2.2.1 _ ha h.symm

theorem nodup_filter_keys {l : List (Addr × List V)} (h : (l.map (·.1)).Nodup) (q : Addr × List V → Bool) : ((l.filter q).map (·.1)).Nodup :=
  h.sublist (List.Sublist.map _ List.filter_sublist)

theorem Sim.freeze {G : Gl} {K Z : Zt} {L : Addr} {st : St} {s : Shared} (S : Sim G K Z L st s) {a : Addr} {xs : List V} (ha : (a, xs) ∈ st.ar) :
    ∃ Z', Zle Z Z' ∧ Sim G K Z' L (st.fz a xs) s ∧ ∀ v w, VR Z v w → VR Z' (v.fz a xs) w := by
  obtain ⟨h1, h2, h3, ws, n, h4, h5⟩ := S.ar _ ha
  have S₁ : Sim G K Z L ⟨st.loc, st.ar.filter fun p => p.1 ≠ a⟩ s := { S with
    ar := fun p hp => S.ar p (List.mem_filter.mp hp).1
    nd := nodup_filter_keys S.nd _
    tb := fun t ht => by obtain ⟨a, b, c, d, e⟩ := S.tb t ht; exact ⟨a, b, c, fun p hp => d p (List.mem_filter.mp hp).1, e⟩ }
  obtain ⟨hle, S₂⟩ := S₁.addZ (not_tracked_of_drop S ha) h4
  refine ⟨_, hle, ?_, fun v w h => ?_⟩
  · have hz : ZSeq (Zset Z a ⟨.type "list", none, .seq ws.toArray n, #[]⟩) "list" a ws := ⟨_, Zset.self, rfl, n, rfl⟩
    have hx := VRs.mono hle _ _ h5
    exact { S₂ with
      ns := by
        obtain ⟨m, g1, g2⟩ := S₂.ns
        refine ⟨m, g1, fun x => ?_⟩
        have := g2 x
        show LR _ ((st.loc.map fun p => (p.1, p.2.fz a xs)).lookup x) _
        rw [lookup_mapV]
        change LR _ (st.loc.lookup x) _ at this
        revert this
        cases st.loc.lookup x with
        | none => intro _; trivial
        | some v =>
          cases m x with
          | none => exact id
          | some w => exact VR.fz hz hx v w
      ar := fun p hp => by
        obtain ⟨q, hq, rfl⟩ := List.mem_map.mp hp
        obtain ⟨g1, g2, g3, us, k, g4, g5⟩ := S₂.ar q hq
        exact ⟨g1, g2, g3, us, k, g4, VRs.fzs hz hx _ _ g5⟩
      nd := by
        have := S₂.nd
        show (((st.ar.filter fun p => p.1 ≠ a).map fun p => (p.1, V.fzs a xs p.2)).map (·.1)).Nodup
        rw [List.map_map]; exact this
      tb := fun t ht => by
        obtain ⟨g1, g2, g3, g4, g5⟩ := S₂.tb t ht
        refine ⟨g1, g2, g3, fun p hp => ?_, g5⟩
        obtain ⟨q, hq, rfl⟩ := List.mem_map.mp hp
        exact g4 q hq }
  · exact VR.fz ⟨_, Zset.self, rfl, n, rfl⟩ (VRs.mono hle _ _ h5) v w (VR.mono hle v w h)

theorem Ent.freeze {G : Gl} {L : Addr} {st : St} {a : Addr} {xs : List V} (ha : (a, xs) ∈ st.ar) : Ent G L st (st.fz a xs) := fun _ _ _ S =>
  by obtain ⟨Z', h1, h2, _⟩ := S.freeze ha; exact ⟨Z', h1, h2⟩

end Mine

set_option maxRecDepth 100000
set_option Elab.async false
set_option linter.unusedVariables false
namespace Mine
open PySem PyProof.Rows

theorem ite_pos {c : Prop} [Decidable c] {a b : Prop} (h : c) (ha : a) : if c then a else b := by rw [if_pos h]; exact ha
theorem ite_neg {c : Prop} [Decidable c] {a b : Prop} (h : ¬ c) (hb : b) : if c then a else b := by rw [if_neg h]; exact hb
noncomputable abbrev Nope : Value → Shared → Prop := fun _ _ => False

theorem Post.le {G : Gl} {K Z Z₁ : Zt} {L : Addr} {α β : Type} {R : Zt → β → α → Prop} {Q : β → St → Prop} {w : α} {s : Shared} (h : Post G K Z₁ L R Q w s) (hz : Zle Z Z₁) : Post G K Z L R Q w s :=
  by obtain ⟨Z', v, st', a, r1, r2, r3⟩ := h; exact ⟨Z', v, st', hz.trans a, r1, r2, r3⟩
theorem Post.mk {G : Gl} {K Z : Zt} {L : Addr} {α β : Type} {R : Zt → β → α → Prop} {Q : β → St → Prop} {w : α} {s : Shared} {v : β} {st : St} (S : Sim G K Z L st s) (r : R Z v w) (q : Q v st) : Post G K Z L R Q w s :=
  ⟨Z, v, st, .refl, S, r, q⟩

section
variable {G : Gl} {A : Around} {L : Addr} {α β γ δ : Type} {st : St}
theorem Tri.use {R : Zt → β → α → Prop} {t : Sem α} {Q : β → St → Prop} (h : Tri G A L R t st Q) {K Z : Zt} {s : Shared} (S : Sim G K Z L st s) {P : α → Shared → Prop}
    (f : ∀ Z' v st' w s', Zle Z Z' → Sim G K Z' L st' s' → R Z' v w → Q v st' → P w s') : wpAny G.M A t P Nope s :=
  wpAny_mono (h K Z s S) (fun w s' hm0 => by obtain ⟨Z', v, st', a, b, c, d⟩ := hm0; exact f Z' v st' w s' a b c d) fun _ _ x => x
theorem wpLe {K Z Z₁ : Zt} {R : Zt → β → α → Prop} {Q : β → St → Prop} {t : Sem α} {s : Shared} (hz : Zle Z Z₁) (h : wpAny G.M A t (Post G K Z₁ L R Q) Nope s) : wpAny G.M A t (Post G K Z L R Q) Nope s :=
  wpAny_mono h (fun _ _ p => p.le hz) fun _ _ x => x
end

noncomputable def BR (_ : Zt) (b c : Bool) : Prop := c = b
noncomputable def UR (_ : Zt) (_ _ : Unit) : Prop := True

inductive Fl where
  | next | brk | cont
  | ret (v : V)
noncomputable def FR (Z : Zt) : Fl → Flow → Prop
  | .next, f => f = .next
  | .brk, f => f = .brk
  | .cont, f => f = .cont
  | .ret v, f => ∃ w, f = .ret w ∧ VR Z v w

structure Room (A : Around) (k : Nat) : Prop where
  hd : A.handled = none
  dp : A.depth + k < recursionLimit
  un : A.units + 20 * k + 40 < cLine
theorem Room.deeper {A : Around} {k : Nat} (r : Room A (k + 1)) (env : Env) : Room (A.deeper env) k :=
  ⟨r.hd, by have := r.dp; show A.depth + 1 + k < _; first | lia | omega, by have := r.un; show A.units + 3 + 20 * k + 40 < _; first | lia | omega⟩
theorem Room.less {A : Around} {k j : Nat} (r : Room A k) (h : j ≤ k) : Room A j :=
  ⟨r.hd, by have := r.dp; first | lia | omega, by have := r.un; first | lia | omega⟩

structure Ev (G : Gl) (A : Around) (env : Env) (e : Expr) (st : St) (Q : V → St → Prop) : Prop where
  run : Tri G A env.locals VR (eval e env) st Q
structure Tst (G : Gl) (A : Around) (env : Env) (e : Expr) (st : St) (Q : Bool → St → Prop) : Prop where
  run : Tri G A env.locals BR (isTrue e env (eval e env)) st Q
structure Evs (G : Gl) (A : Around) (env : Env) (es : List Expr) (st : St) (Q : List V → St → Prop) : Prop where
  run : ∀ pos, Tri G A env.locals VRs (spliced (backTo pos (starEach es env))) st Q
structure Exs (G : Gl) (A : Around) (env : Env) (ss : List Stmt) (st : St) (Q : Fl → St → Prop) : Prop where
  run : Tri G A env.locals FR (execs ss env) st Q
structure Ex (G : Gl) (A : Around) (env : Env) (x : Stmt) (st : St) (Q : Fl → St → Prop) : Prop where
  run : Tri G A env.locals FR (exec x env) st Q
structure Asg (G : Gl) (A : Around) (env : Env) (t : Expr) (v : V) (st : St) (Q : St → Prop) : Prop where
  run : ∀ K Z w s, Sim G K Z env.locals st s → VR Z v w → wpAny G.M A (assign t env w) (Post G K Z env.locals UR fun _ => Q) Nope s
structure Op (G : Gl) (A : Around) (L : Addr) (f : List Value → Sem Value) (vs : List V) (st : St) (Q : V → St → Prop) : Prop where
  run : ∀ K Z ws s, Sim G K Z L st s → VRs Z vs ws → wpAny G.M A (f ws) (Post G K Z L VR Q) Nope s
structure Op1 (G : Gl) (A : Around) (L : Addr) (f : Value → Sem Value) (a : V) (st : St) (Q : V → St → Prop) : Prop where
  run : ∀ K Z w s, Sim G K Z L st s → VR Z a w → wpAny G.M A (f w) (Post G K Z L VR Q) Nope s
structure Op2 (G : Gl) (A : Around) (L : Addr) (f : Value → Value → Sem Value) (a b : V) (st : St) (Q : V → St → Prop) : Prop where
  run : ∀ K Z w u s, Sim G K Z L st s → VR Z a w → VR Z b u → wpAny G.M A (f w u) (Post G K Z L VR Q) Nope s
structure Tru (G : Gl) (A : Around) (L : Addr) (a : V) (st : St) (Q : Bool → St → Prop) : Prop where
  run : ∀ K Z w s, Sim G K Z L st s → VR Z a w → wpAny G.M A (truthy w) (Post G K Z L BR Q) Nope s

section
variable {G : Gl} {A : Around} {env : Env} {st : St} {pos : Pos}

theorem Ev.mono {e : Expr} {Q Q' : V → St → Prop} (h : Ev G A env e st Q) (hQ : ∀ v st', Q v st' → Q' v st') : Ev G A env e st Q' := ⟨h.run.mono hQ⟩
theorem Exs.mono {ss : List Stmt} {Q Q' : Fl → St → Prop} (h : Exs G A env ss st Q) (hQ : ∀ v st', Q v st' → Q' v st') : Exs G A env ss st Q' := ⟨h.run.mono hQ⟩
theorem Ex.mono {x : Stmt} {Q Q' : Fl → St → Prop} (h : Ex G A env x st Q) (hQ : ∀ v st', Q v st' → Q' v st') : Ex G A env x st Q' := ⟨h.run.mono hQ⟩
theorem exs_abs {ss : List Stmt} {Q : Fl → St → Prop} (h : ∀ N : Fl → St → Prop, (∀ fl st', Q fl st' → N fl st') → Exs G A env ss st N) : Exs G A env ss st Q := h Q fun _ _ q => q
theorem ex_abs {x : Stmt} {Q : Fl → St → Prop} (h : ∀ N : Fl → St → Prop, (∀ fl st', Q fl st' → N fl st') → Ex G A env x st N) : Ex G A env x st Q := h Q fun _ _ q => q
theorem Exs.ent {ss : List Stmt} {st₀ : St} {Q : Fl → St → Prop} (he : Ent G env.locals st st₀) (h : Exs G A env ss st₀ Q) : Exs G A env ss st Q := ⟨h.run.ent he⟩
theorem Ex.ent {x : Stmt} {st₀ : St} {Q : Fl → St → Prop} (he : Ent G env.locals st st₀) (h : Ex G A env x st₀ Q) : Ex G A env x st Q := ⟨h.run.ent he⟩
theorem Ev.ent {e : Expr} {st₀ : St} {Q : V → St → Prop} (he : Ent G env.locals st st₀) (h : Ev G A env e st₀ Q) : Ev G A env e st Q := ⟨h.run.ent he⟩

theorem vr_str {Z : Zt} {x : Str} {t : Tok} : VR Z (.str x) (.str x t) := by unfold VR; exact ⟨t, rfl⟩
theorem vr_int {Z : Zt} {x : Int} {t : Tok} : VR Z (.int x) (.int x t) := by unfold VR; exact ⟨t, rfl⟩
theorem vr_bytes {Z : Zt} {x : Array UInt8} {t : Tok} : VR Z (.bytes x) (.bytes x t) := by unfold VR; exact ⟨t, rfl⟩
theorem vr_bool {Z : Zt} {x : Bool} : VR Z (.bool x) (.bool x) := by unfold VR; rfl
theorem vr_none {Z : Zt} : VR Z .none .none := by unfold VR; rfl
theorem vr_list {Z : Zt} {a : Addr} : VR Z (.list a) (.ref a) := by unfold VR; rfl
theorem vr_raw {Z : Zt} {a : Value} : VR Z (.raw a) a := by unfold VR; rfl
theorem of_str {Z : Zt} {x : Str} {w : Value} (h : VR Z (.str x) w) : ∃ t, w = .str x t := by unfold VR at h; exact h
theorem of_int {Z : Zt} {x : Int} {w : Value} (h : VR Z (.int x) w) : ∃ t, w = .int x t := by unfold VR at h; exact h
theorem of_bytes {Z : Zt} {x : Array UInt8} {w : Value} (h : VR Z (.bytes x) w) : ∃ t, w = .bytes x t := by unfold VR at h; exact h
theorem of_bool {Z : Zt} {x : Bool} {w : Value} (h : VR Z (.bool x) w) : w = .bool x := by unfold VR at h; exact h
theorem of_none {Z : Zt} {w : Value} (h : VR Z .none w) : w = .none := by unfold VR at h; exact h
theorem of_list {Z : Zt} {a : Addr} {w : Value} (h : VR Z (.list a) w) : w = .ref a := by unfold VR at h; exact h
theorem of_raw {Z : Zt} {a w : Value} (h : VR Z (.raw a) w) : w = a := by unfold VR at h; exact h
theorem of_tup {Z : Zt} {xs : List V} {w : Value} (h : VR Z (.tup xs) w) : ∃ a ws, w = .ref a ∧ ZSeq Z "tuple" a ws ∧ VRs Z xs ws := by unfold VR at h; exact h
theorem of_fl {Z : Zt} {xs : List V} {w : Value} (h : VR Z (.fl xs) w) : ∃ a ws, w = .ref a ∧ ZSeq Z "list" a ws ∧ VRs Z xs ws := by unfold VR at h; exact h

theorem ev_local {x : Str} {v : V} {Q : V → St → Prop} (hk : env.scope.kind = .function) (hl : env.kindOf x = some .local) (hd : (x == ("__debug__" : Str)) = false)
    (hv : st.loc.lookup x = some v) (h : Q v st) : Ev G A env (.Name x pos) st Q := ⟨fun K Z s S => by
  obtain ⟨m, hn, hm⟩ := S.ns
  have := hm x
  rw [hv] at this
  cases hw : m x with
  | none => rw [hw] at this; exact this.elim
  | some w => rw [hw] at this; exact wpAny_Name (wpAny_loadName_local hk hl hn hw (Post.mk S this h)) hd⟩

structure GlOk (G : Gl) : Prop where
  g : G.base.Ns mainGlobals G.mg
  b : G.base.Ns builtinsNs G.mb
  nolimit : G.base.NoLimit
  nodigits : ∃ mc, G.base.Ns cStatics mc ∧ mc "sys.int_max_str_digits" = none
  bm : ∃ bm ob, G.mg "__builtins__" = some (.ref bm) ∧ bm ≠ builtinsNs ∧ bm ≠ mainGlobals ∧ G.base.get? bm = some ob ∧ ob.cls = .type "module" ∧ ob.dict = some builtinsNs ∧ ob.data = .plain
  tabs : ∀ t ∈ G.tabs, ∀ t' ∈ G.tabs, t.P = t'.P → t = t'

theorem ev_global {x : Str} {v : Value} {Q : V → St → Prop} (O : GlOk G) (hk : env.scope.kind = .function) (hg : env.globals = mainGlobals) (hl : env.kindOf x = some .globalImplicit) (hd : (x == ("__debug__" : Str)) = false)
    (hv : G.mg x = some v) (h : Q (.raw v) st) : Ev G A env (.Name x pos) st Q := ⟨fun K Z s S =>
  Calls.Name_function_global hk hl (Calls.loadGlobal_global (by rw [hg]; exact O.g.keeps S.base) hv (Post.mk S vr_raw h)) hd⟩
theorem ev_builtin {x : Str} {v : Value} {Q : V → St → Prop} (O : GlOk G) (hk : env.scope.kind = .function) (hg : env.globals = mainGlobals) (hb : env.builtins = builtinsNs) (hl : env.kindOf x = some .globalImplicit)
    (hd : (x == ("__debug__" : Str)) = false) (hv : G.mg x = none) (hv' : G.mb x = some v) (h : Q (.raw v) st) : Ev G A env (.Name x pos) st Q := ⟨fun K Z s S =>
  Calls.Name_function_global hk hl (Calls.loadGlobal_builtin (by rw [hg]; exact O.g.keeps S.base) hv (by rw [hb]; exact O.b.keeps S.base) hv' (Post.mk S vr_raw h)) hd⟩

theorem ev_none {k : Nat} {Q : V → St → Prop} (h : Q .none st) : Ev G A env (.Constant .none k pos) st Q := ⟨fun K Z s S => Constant_none (Post.mk S vr_none h)⟩
theorem ev_bool {k : Nat} {b : Bool} {Q : V → St → Prop} (h : Q (.bool b) st) : Ev G A env (.Constant (.bool b) k pos) st Q := ⟨fun K Z s S => Constant_bool (Post.mk S vr_bool h)⟩
theorem ev_int {k : Nat} {i : Int} {Q : V → St → Prop} (h : Q (.int i) st) : Ev G A env (.Constant (.int i) k pos) st Q := ⟨fun K Z s S => wpAny_Constant_int (Post.mk S.toks vr_int h)⟩
theorem ev_str {k : Nat} {x : Str} {Q : V → St → Prop} (h : Q (.str x) st) : Ev G A env (.Constant (.str x) k pos) st Q := ⟨fun K Z s S => Calls.Constant_str (Post.mk S.toks vr_str h)⟩
theorem ev_bytes {k : Nat} {x : List UInt8} {Q : V → St → Prop} (h : Q (.bytes x.toArray) st) : Ev G A env (.Constant (.bytes x) k pos) st Q :=
  ⟨fun K Z s S _ _ _ => (show Post G K Z env.locals VR Q _ _ from Post.mk (s := { s with toks := s.toks + 1 }) S.toks vr_bytes h)⟩

theorem ev_bin {l r : Expr} {op : Operator} {Q : V → St → Prop} (h : Ev G A env l st fun a st₁ => Ev G A env r st₁ fun b st₂ => Op2 G A env.locals (binaryOp op) a b st₂ Q) :
    Ev G A env (.BinOp l op r pos) st Q := ⟨fun K Z s S => wpAny_BinOp (h.run.use S fun Z₁ a st₁ w s₁ z₁ S₁ r₁ h₁ => h₁.run.use S₁ fun Z₂ b st₂ u s₂ z₂ S₂ r₂ h₂ =>
      wpLe (z₁.trans z₂) (h₂.run K Z₂ w u s₂ S₂ (VR.mono z₂ _ _ r₁) r₂))⟩
theorem ev_un {x : Expr} {op : UnaryOp} {Q : V → St → Prop} (h : Ev G A env x st fun a st₁ => Op1 G A env.locals (unaryOp op) a st₁ Q) :
    Ev G A env (.UnaryOp op x pos) st Q := ⟨fun K Z s S => UnaryOp_ (h.run.use S fun Z₁ a st₁ w s₁ z₁ S₁ r₁ h₁ => wpLe z₁ (h₁.run K Z₁ w s₁ S₁ r₁))⟩
theorem ev_ite {t b o : Expr} {Q : V → St → Prop} (h : Tst G A env t st fun c st₁ => if c then Ev G A env b st₁ Q else Ev G A env o st₁ Q) :
    Ev G A env (.IfExp t b o pos) st Q := ⟨fun K Z s S => IfExp_ (h.run.use S fun Z₁ c st₁ w s₁ z₁ S₁ e h₁ => by
      cases e
      cases c
      · exact wpLe z₁ (h₁.run K Z₁ s₁ S₁)
      · exact wpLe z₁ (h₁.run K Z₁ s₁ S₁))⟩
theorem ev_cmp {l r : Expr} {op : CmpOp} {Q : V → St → Prop} (hm : behindInMarks op r = false) (h : Ev G A env l st fun a st₁ => Ev G A env r st₁ fun b st₂ => Op2 G A env.locals (compareOp op) a b st₂ Q) :
    Ev G A env (.Compare l [op] [r] pos) st Q := ⟨fun K Z s S => wpAny_Compare1 (h.run.use S fun Z₁ a st₁ w s₁ z₁ S₁ r₁ h₁ => h₁.run.use S₁ fun Z₂ b st₂ u s₂ z₂ S₂ r₂ h₂ =>
      wpLe (z₁.trans z₂) (h₂.run K Z₂ w u s₂ S₂ (VR.mono z₂ _ _ r₁) r₂)) hm⟩
theorem ev_and {a b : Expr} {rest : List Expr} {Q : V → St → Prop}
    (h : Ev G A env a st fun v st₁ => Tru G A env.locals v st₁ fun c st₂ => if c then Ev G A env (.BoolOp .And (b :: rest) pos) st₂ Q else Q v st₂) : Ev G A env (.BoolOp .And (a :: b :: rest) pos) st Q :=
  ⟨fun K Z s S => BoolOp_and (h.run.use S fun Z₁ v st₁ w s₁ z₁ S₁ r₁ h₁ => wpAny_mono (h₁.run K Z₁ w s₁ S₁ r₁) (fun c s₂ hq1 => by
    obtain ⟨Z₂, b, st₂, z₂, S₂, e, q⟩ := hq1
    cases e
    cases c
    · exact (Post.mk S₂ (VR.mono z₂ _ _ r₁) q : Post G K Z₂ _ VR Q w s₂).le (z₁.trans z₂)
    · exact wpLe (z₁.trans z₂) (q.run K Z₂ s₂ S₂)) fun _ _ x => x)⟩
theorem ev_or {a b : Expr} {rest : List Expr} {Q : V → St → Prop}
    (h : Ev G A env a st fun v st₁ => Tru G A env.locals v st₁ fun c st₂ => if c then Q v st₂ else Ev G A env (.BoolOp .Or (b :: rest) pos) st₂ Q) : Ev G A env (.BoolOp .Or (a :: b :: rest) pos) st Q :=
  ⟨fun K Z s S => BoolOp_or (h.run.use S fun Z₁ v st₁ w s₁ z₁ S₁ r₁ h₁ => wpAny_mono (h₁.run K Z₁ w s₁ S₁ r₁) (fun c s₂ hq2 => by
    obtain ⟨Z₂, b, st₂, z₂, S₂, e, q⟩ := hq2
    cases e
    cases c
    · exact wpLe (z₁.trans z₂) (q.run K Z₂ s₂ S₂)
    · exact (Post.mk S₂ (VR.mono z₂ _ _ r₁) q : Post G K Z₂ _ VR Q w s₂).le (z₁.trans z₂)) fun _ _ x => x)⟩
theorem ev_bool_one {a : Expr} {op : BoolOp} {Q : V → St → Prop} (h : Ev G A env a st Q) : Ev G A env (.BoolOp op [a] pos) st Q := ⟨fun K Z s S => BoolOp_one (h.run K Z s S)⟩

theorem tst_not {x : Expr} {Q : Bool → St → Prop} (h : Tst G A env x st fun b st₁ => Q (!b) st₁) : Tst G A env (.UnaryOp .Not x pos) st Q :=
  ⟨fun K Z s S => isTrue_not (h.run.use S fun Z₁ b st₁ c s₁ z₁ S₁ e q => by cases e; exact ⟨Z₁, _, st₁, z₁, S₁, rfl, q⟩)⟩
theorem tst_cmp {l r : Expr} {op : CmpOp} {Q : Bool → St → Prop} (hm : behindInMarks op r = false)
    (h : Ev G A env l st fun a st₁ => Ev G A env r st₁ fun b st₂ => Op2 G A env.locals (compareOp op) a b st₂ fun v st₃ => ∃ c, v = .bool c ∧ Q c st₃) :
    Tst G A env (.Compare l [op] [r] pos) st Q := ⟨fun K Z s S => wpAny_isTrue_Compare1 (h.run.use S fun Z₁ a st₁ w s₁ z₁ S₁ r₁ h₁ => h₁.run.use S₁ fun Z₂ b st₂ u s₂ z₂ S₂ r₂ h₂ =>
      wpAny_mono (h₂.run K Z₂ w u s₂ S₂ (VR.mono z₂ _ _ r₁) r₂) (fun x s₃ hq3 => by
        obtain ⟨Z₃, v, st₃, z₃, S₃, r₃, c, hv, q⟩ := hq3
        subst hv
        rw [of_bool r₃]
        exact wpAny_truthy_bool ⟨Z₃, c, st₃, (z₁.trans z₂).trans z₃, S₃, rfl, q⟩) fun _ _ x => x) hm⟩
theorem tst_plain {e : Expr} {Q : Bool → St → Prop} (he : ∀ whole, isTrue e env whole = (do let v ← whole; standAt e.pos; holding [v] (truthy v)))
    (h : Ev G A env e st fun v st₁ => Tru G A env.locals v st₁ Q) : Tst G A env e st Q :=
  ⟨fun K Z s S => isTrue_plain (h.run.use S fun Z₁ v st₁ w s₁ z₁ S₁ r₁ h₁ => wpLe z₁ (h₁.run K Z₁ w s₁ S₁ r₁)) (he _)⟩

theorem evs_nil {Q : List V → St → Prop} (h : Q [] st) : Evs G A env [] st Q := ⟨fun _ K Z s S => Calls.spliced_nil (Post.mk (R := VRs) S .nil h)⟩
theorem evs_cons {e : Expr} {es : List Expr} {Q : List V → St → Prop} (hs : starEach (e :: es) env = (false, eval e env) :: starEach es env)
    (h : Ev G A env e st fun v st₁ => Evs G A env es st₁ fun vs st₂ => Q (v :: vs) st₂) : Evs G A env (e :: es) st Q := ⟨fun p K Z s S => by
  rw [hs]
  exact Calls.spliced_cons (h.run.use S fun Z₁ v st₁ w s₁ z₁ S₁ r₁ h₁ => (h₁.run p).use S₁ fun Z₂ vs st₂ ws s₂ z₂ S₂ r₂ q =>
    ⟨Z₂, v :: vs, st₂, z₁.trans z₂, S₂, .cons (VR.mono z₂ _ _ r₁) r₂, q⟩)⟩

theorem Sim.newTup {K Z : Zt} {L : Addr} {s : Shared} (S : Sim G K Z L st s) {vs : List V} {ws : List Value} (r : VRs Z vs ws) :
    ∃ Z', Zle Z Z' ∧ Sim G K Z' L st { s with heap := s.heap.push { cls := .type "tuple", data := .seq ws.toArray } } ∧ VR Z' (.tup vs) (.ref s.heap.objs.size) := by
  have S' := S.push { cls := .type "tuple", data := .seq ws.toArray } (tk := s.toks)
  obtain ⟨z, S''⟩ := S'.addZ (a := s.heap.objs.size) (o := { cls := .type "tuple", data := .seq ws.toArray }) S.fresh (Heap.get?_push_size _ rfl)
  refine ⟨_, z, S'', ?_⟩
  unfold VR
  exact ⟨_, ws, rfl, ⟨_, Zset.self, rfl, 0, rfl⟩, VRs.mono z _ _ r⟩
theorem Sim.newList {K Z : Zt} {L : Addr} {s : Shared} (S : Sim G K Z L st s) {vs : List V} {ws : List Value} (r : VRs Z vs ws) :
    Sim G K Z L ⟨st.loc, (s.heap.objs.size, vs) :: st.ar⟩ { s with heap := s.heap.push { cls := .type "list", data := .seq ws.toArray } } := by
  have S' := S.push { cls := .type "list", data := .seq ws.toArray } (tk := s.toks)
  have hf := S.fresh
  exact { S' with
    ar := fun p hp => by
      rcases List.mem_cons.mp hp with rfl | hp
      · refine ⟨?_, ?_, fun q => hf (.inr (.inr (.inl q))), ws, 0, Heap.get?_push_size _ rfl, r⟩
        · cases q : K s.heap.objs.size with
          | none => rfl
          | some o => exact absurd (.inl ⟨o, q⟩) hf
        · cases q : Z s.heap.objs.size with
          | none => rfl
          | some o => exact absurd (.inr (.inl ⟨o, q⟩)) hf
      · exact S'.ar p hp
    nd := by
      show (s.heap.objs.size :: st.ar.map (·.1)).Nodup
      refine List.nodup_cons.mpr ⟨fun hm => ?_, S.nd⟩
      obtain ⟨p, hp, e⟩ := List.mem_map.mp hm
      exact hf (.inr (.inr (.inr (.inl ⟨p, hp, e⟩))))
    tb := fun t ht => by
      obtain ⟨h1, h2, h3, h4, h5⟩ := S'.tb t ht
      refine ⟨h1, h2, h3, fun p hp => ?_, h5⟩
      rcases List.mem_cons.mp hp with rfl | hp
      · exact fun q => hf (.inr (.inr (.inr (.inr ⟨t, ht, q.symm⟩))))
      · exact h4 p hp }

theorem ev_tuple {es : List Expr} {k : Nat} {Q : V → St → Prop} (h : Evs G A env es st fun vs st₁ => vs.length ≤ 16777216 ∧ Q (.tup vs) st₁) : Ev G A env (.Tuple es k pos) st Q :=
  ⟨fun K Z s S => Tuple_ ((h.run pos).use S fun Z₁ vs st₁ ws s₁ z₁ S₁ r₁ hq4 => by
    obtain ⟨hl, q⟩ := hq4
    obtain ⟨Z₂, z₂, S₂, r₂⟩ := S₁.newTup r₁
    refine wpAny_newObj_type (show Post _ _ _ _ _ _ _ _ from ⟨Z₂, _, st₁, z₁.trans z₂, S₂, r₂, q⟩) ?_
    show ws.toArray.size ≤ sizeLine
    rw [List.size_toArray, r₁.length, sizeLine_eq]; exact hl)⟩
theorem ev_list {es : List Expr} {Q : V → St → Prop} (h : Evs G A env es st fun vs st₁ => vs.length ≤ 16777216 ∧ ∀ a, (∀ p ∈ st₁.ar, p.1 ≠ a) → Q (.list a) ⟨st₁.loc, (a, vs) :: st₁.ar⟩) : Ev G A env (.List es pos) st Q :=
  ⟨fun K Z s S => List_ ((h.run pos).use S fun Z₁ vs st₁ ws s₁ z₁ S₁ r₁ hq5 => by
    obtain ⟨hl, q⟩ := hq5
    have S₂ := S₁.newList r₁
    refine wpAny_newObj_type (show Post _ _ _ _ _ _ _ _ from ⟨Z₁, _, _, z₁, S₂, vr_list, q _ ?_⟩) ?_
    · exact fun p hp e => S₁.fresh (.inr (.inr (.inr (.inl ⟨p, hp, e⟩))))
    · show ws.toArray.size ≤ sizeLine
      rw [List.size_toArray, r₁.length, sizeLine_eq]; exact hl)⟩

theorem exs_nil {Q : Fl → St → Prop} (h : Q .next st) : Exs G A env [] st Q := ⟨fun K Z s S => wpAny_execs_nil (Post.mk (R := FR) (v := Fl.next) S rfl h)⟩
noncomputable abbrev Nxt (G : Gl) (A : Around) (env : Env) (rest : List Stmt) (Q : Fl → St → Prop) (f : Fl) (st₁ : St) : Prop := match f with | .next => Exs G A env rest st₁ Q | f => Q f st₁
theorem exs_cons {x : Stmt} {rest : List Stmt} {Q : Fl → St → Prop} (h : Ex G A env x st (Nxt G A env rest Q)) : Exs G A env (x :: rest) st Q :=
  ⟨fun K Z s S => wpAny_execs_cons (h.run.use S fun Z₁ f st₁ fl s₁ z₁ S₁ r₁ h₁ => by
    cases f with
    | next => cases r₁; exact wpLe z₁ (h₁.run K Z₁ s₁ S₁)
    | brk => cases r₁; exact ⟨Z₁, .brk, st₁, z₁, S₁, rfl, h₁⟩
    | cont => cases r₁; exact ⟨Z₁, .cont, st₁, z₁, S₁, rfl, h₁⟩
    | ret v => obtain ⟨w, rfl, r⟩ := r₁; exact ⟨Z₁, .ret v, st₁, z₁, S₁, ⟨w, rfl, r⟩, h₁⟩)⟩
theorem ex_ret {e : Expr} {Q : Fl → St → Prop} (h : Ev G A env e st fun v st₁ => Q (.ret v) st₁) : Ex G A env (.Return (some e) pos) st Q :=
  ⟨fun K Z s S => wpAny_Return_some (h.run.use S fun Z₁ v st₁ w s₁ z₁ S₁ r₁ q => ⟨Z₁, .ret v, st₁, z₁, S₁, ⟨w, rfl, r₁⟩, q⟩)⟩
theorem ex_if {t : Expr} {b o : List Stmt} {Q : Fl → St → Prop} (h : Tst G A env t st fun c st₁ => if c then Exs G A env b st₁ Q else Exs G A env o st₁ Q) : Ex G A env (.If t b o pos) st Q :=
  ⟨fun K Z s S => wpAny_If (h.run.use S fun Z₁ c st₁ w s₁ z₁ S₁ e h₁ => by
    cases e
    cases c
    · exact wpLe z₁ (h₁.run K Z₁ s₁ S₁)
    · exact wpLe z₁ (h₁.run K Z₁ s₁ S₁))⟩

noncomputable def setL (x : Str) (v : V) : List (Str × V) → List (Str × V)
  | [] => [(x, v)]
  | (y, u) :: r => if y == x then (x, v) :: r else (y, u) :: setL x v r
theorem lookup_setL {x : Str} {v : V} : ∀ (l : List (Str × V)) (y : Str), (setL x v l).lookup y = if y = x then some v else l.lookup y
  | [], y => by
    simp only [setL, List.lookup_cons, List.lookup_nil]
    by_cases h : y = x
    · subst h; simp
    · have : (y == x) = false := by simpa using h
      simp [this, h]
  | (z, u) :: r, y => by
    simp only [setL]
    by_cases hz : z = x
    · subst hz
      simp only [beq_self_eq_true, if_true, List.lookup_cons]
      by_cases h : y = z
      · subst h; simp
      · have : (y == z) = false := by simpa using h
        simp [this, h]
    · have hz' : (z == x) = false := by simpa using hz
      simp only [hz', Bool.false_eq_true, if_false, List.lookup_cons, lookup_setL r y]
      by_cases h : y = z
      · subst h; simp [hz]
      · have : (y == z) = false := by simpa using h
        simp [this]
noncomputable def St.set (st : St) (x : Str) (v : V) : St := ⟨setL x v st.loc, st.ar⟩

theorem Sim.store {K Z : Zt} {s : Shared} {x : Str} {v : V} {w : Value} (S : Sim G K Z env.locals st s) (r : VR Z v w) {P : Unit → Shared → Prop}
    (hk : env.scope.kind = .function) (hl : env.kindOf x = some .local) (h : ∀ s', Sim G K Z env.locals (st.set x v) s' → P () s') : wpAny G.M A (storeName env x w) P Nope s := by
  obtain ⟨m, hn, hm⟩ := S.ns
  refine wpAny_storeName_local hl hn (fun h' hn' hs => h _ ?_) (by rw [hk]; rfl)
  have hne : ∀ b, (∃ o, K b = some o) ∨ (∃ o, Z b = some o) ∨ (∃ p ∈ st.ar, p.1 = b) ∨ (∃ t ∈ G.tabs, t.P = b) → b ≠ env.locals := by
    rintro b (⟨o, e⟩ | ⟨o, e⟩ | ⟨p, hp, e⟩ | ⟨t, ht, e⟩) q
    · rw [q, S.kL] at e; cases e
    · rw [q, S.zL] at e; cases e
    · exact (S.ar p hp).2.2.1 (e.trans q)
    · exact (S.tb t ht).2.2.1 (e.trans q)
  exact {
    kk := fun b o e => (hs.2 b (hne b (.inl ⟨o, e⟩))).trans (S.kk b o e)
    zz := fun b o e => (hs.2 b (hne b (.inr (.inl ⟨o, e⟩)))).trans (S.zz b o e)
    kz := S.kz
    bz := S.bz
    ns := ⟨_, hn', fun y => by
      show LR Z ((setL x v st.loc).lookup y) _
      rw [lookup_setL]
      by_cases h : y = x
      · subst h; simp only [if_true]; exact r
      · simp only [h, if_false]; exact hm y⟩
    kL := S.kL
    zL := S.zL
    ar := fun p hp => by
      obtain ⟨h1, h2, h3, ws, n, e, r⟩ := S.ar p hp
      exact ⟨h1, h2, h3, ws, n, (hs.2 p.1 (hne p.1 (.inr (.inr (.inl ⟨p, hp, rfl⟩))))).trans e, r⟩
    nd := S.nd
    tb := fun t ht => by
      obtain ⟨h1, h2, h3, h4, ps, e, r⟩ := S.tb t ht
      exact ⟨h1, h2, h3, h4, ps, (hs.2 t.P (hne t.P (.inr (.inr (.inr ⟨t, ht, rfl⟩))))).trans e, r⟩
    gens := S.gens
    os := S.os
    cl := S.cl }

theorem asg_name {x : Str} {v : V} {Q : St → Prop} (hk : env.scope.kind = .function) (hl : env.kindOf x = some .local) (h : Q (st.set x v)) : Asg G A env (.Name x pos) v st Q :=
  ⟨fun K Z w s S r => wpAny_assign_Name (S.store r hk hl fun s' S' => ⟨Z, (), _, .refl, S', trivial, h⟩)⟩
theorem ex_assign {x : Str} {e : Expr} {p' : Pos} {Q : Fl → St → Prop} (hk : env.scope.kind = .function) (hl : env.kindOf x = some .local)
    (hs : swapsWith e (some (.Name x p')) pos.line env = pure false) (h : Ev G A env e st fun v st₁ => Q .next (st₁.set x v)) : Ex G A env (.Assign [.Name x p'] e pos) st Q :=
  ⟨fun K Z s S => wpAny_Assign_Name (h.run.use S fun Z₁ v st₁ w s₁ z₁ S₁ r₁ q => S₁.store r₁ hk hl fun s' S' => ⟨Z₁, .next, _, z₁, S', rfl, q⟩) hs⟩
end

end Mine

set_option maxRecDepth 100000
set_option Elab.async false
set_option linter.unusedVariables false
namespace Mine
open PySem PyProof.Rows

section
variable {G : Gl} {A : Around} {L : Addr} {st : St} {K Z : Zt} {s : Shared}

theorem Sim.addK (S : Sim G K Z L st s) {a : Addr} {o : Obj} (ha : ¬ Tracked G K Z L st a) (e : s.heap.get? a = some o) : Sim G (Zset K a o) Z L st s := by
  have ne : ∀ b, Tracked G K Z L st b → b ≠ a := fun b hb q => ha (q ▸ hb)
  have hZa : Z a = none := by
    cases q : Z a with
    | none => rfl
    | some o' => exact absurd (.inr (.inl ⟨o', q⟩)) ha
  exact { S with
    kk := fun b o' e' => by
      unfold Zset at e'; split at e'
      · rename_i q; subst q; cases e'; exact e
      · exact S.kk b o' e'
    kz := fun b o' e' => by
      unfold Zset at e'; split at e'
      · rename_i q; subst q; exact hZa
      · exact S.kz b o' e'
    kL := by rw [Zset.ne (ne L (.inr (.inr (.inl rfl))))]; exact S.kL
    ar := fun p hp => by
      obtain ⟨h1, h2⟩ := S.ar p hp
      exact ⟨by rw [Zset.ne (ne p.1 (.inr (.inr (.inr (.inl ⟨p, hp, rfl⟩)))))]; exact h1, h2⟩
    tb := fun t ht => by
      obtain ⟨h1, h2⟩ := S.tb t ht
      exact ⟨by rw [Zset.ne (ne t.P (.inr (.inr (.inr (.inr ⟨t, ht, rfl⟩)))))]; exact h1, h2⟩ }

theorem Sim.lessK {K' : Zt} (S : Sim G K Z L st s) (h : Zle K' K) : Sim G K' Z L st s :=
  have nn : ∀ b, K b = none → K' b = none := fun b e => by
    cases q : K' b with
    | none => rfl
    | some o => rw [h b o q] at e; cases e
  { S with
    kk := fun b o e => S.kk b o (h b o e)
    kz := fun b o e => S.kz b o (h b o e)
    kL := nn _ S.kL
    ar := fun p hp => by obtain ⟨h1, h2⟩ := S.ar p hp; exact ⟨nn _ h1, h2⟩
    tb := fun t ht => by obtain ⟨h1, h2⟩ := S.tb t ht; exact ⟨nn _ h1, h2⟩ }

theorem Zset.le' {K : Zt} {a : Addr} {o : Obj} (h : K a = none) : Zle K (Zset K a o) := Zset.le h

theorem not_tracked_dropK {a : Addr} {o : Obj} (S : Sim G (Zset K a o) Z L st s) (hK : K a = none) : ¬ Tracked G K Z L st a := by
  have e : Zset K a o a = some o := Zset.self
  rintro (⟨o', h⟩ | ⟨o', h⟩ | h | ⟨p, hp, h⟩ | ⟨t, ht, h⟩)
  · rw [hK] at h; cases h
  · rw [S.kz a o e] at h; cases h
  · subst h; rw [S.kL] at e; cases e
  · have := (S.ar p hp).1; rw [h, e] at this; cases this
  · have := (S.tb t ht).1; rw [h, e] at this; cases this
end

noncomputable def rngItems (a b c : Int) : List V := (List.range (Builtin.Range.rangeSize a b c).toNat).map fun (i : Nat) => .int (a + (i : Int) * c)

noncomputable def iterItems : V → Option (List V)
  | .fl xs => some xs
  | .tup xs => some xs
  | .str x => some (x.cps.toList.map fun c => .str ⟨#[c]⟩)
  | .rng a b c => if Builtin.Range.small a b c then some (rngItems a b c) else none
  | _ => none

noncomputable def iterTypes : List String := ["list_iterator", "tuple_iterator", "str_ascii_iterator", "str_iterator", "range_iterator"]

structure Itr (G : Gl) (A : Around) (Z : Zt) (it : Addr) (xs : List V) (P : Nat → Obj → Prop) : Prop where
  next : ∀ {i : Nat} {v : V}, xs[i]? = some v → ∀ (s : Shared) (o : Obj) (Q : Option Value → Shared → Prop), (∀ b o, Z b = some o → s.heap.get? b = some o) → s.heap.get? it = some o → P i o →
    (∀ w h' tk o', VR Z v w → h'.get? it = some o' → P (i + 1) o' → Heap.SameBut it s.heap h' → Q (some w) { s with heap := h', toks := tk }) → wpAny G.M A (pyNext (.ref it)) Q Nope s
  done : ∀ (s : Shared) (o : Obj) (Q : Option Value → Shared → Prop), (∀ b o, Z b = some o → s.heap.get? b = some o) → s.heap.get? it = some o → P xs.length o →
    (∀ h', Heap.ExtBut it s.heap h' → Q none { s with heap := h' }) → wpAny G.M A (pyNext (.ref it)) Q Nope s
  kind : ∀ i o, P i o → ∃ T vs, T ∈ iterTypes ∧ o.cls = .type T ∧ o.data = .fields vs
  self : ∀ i o (s : Shared) (Q : Value → Shared → Prop), s.heap.get? it = some o → P i o → Q (.ref it) s → wpAny G.M A (pyIter (.ref it)) Q Nope s

theorem Itr.mono {G : Gl} {A : Around} {Z Z' : Zt} {it : Addr} {xs : List V} {P : Nat → Obj → Prop} (I : Itr G A Z it xs P) (h : Zle Z Z') : Itr G A Z' it xs P where
  next e s o Q hz ho hp hQ := I.next e s o Q (fun b o q => hz b o (h b o q)) ho hp fun w h' tk o' r => hQ w h' tk o' (VR.mono h _ _ r)
  done s o Q hz := I.done s o Q fun b o q => hz b o (h b o q)
  kind := I.kind
  self := I.self

theorem zseq_list {Z : Zt} {a : Addr} {ws : List Value} {h : Heap} (x : ZSeq Z "list" a ws) (hz : ∀ b o, Z b = some o → h.get? b = some o) : h.IsList a ws.toArray :=
  by obtain ⟨o, e, hc, n, hd⟩ := x; exact ⟨o, hz _ _ e, hc, n, hd⟩
theorem zseq_tuple {Z : Zt} {a : Addr} {ws : List Value} {h : Heap} (x : ZSeq Z "tuple" a ws) (hz : ∀ b o, Z b = some o → h.get? b = some o) : h.IsTuple a ws.toArray :=
  by obtain ⟨o, e, hc, n, hd⟩ := x; exact ⟨o, hz _ _ e, hc, n, hd⟩
theorem zseq_tup {Z : Zt} {a : Addr} {ws : List Value} {h : Heap} (x : ZSeq Z "tuple" a ws) (hz : ∀ b o, Z b = some o → h.get? b = some o) : IsTup h a ws.toArray :=
  by obtain ⟨o, e, hc, n, hd⟩ := x; exact ⟨o, hz _ _ e, hc, n, hd⟩

theorem Itr.list {G : Gl} {A : Around} {Z : Zt} {it l : Addr} {xs : List V} {ws : List Value} (hh : A.handled = none) (hz : ZSeq Z "list" l ws) (r : VRs Z xs ws) (hne : l ≠ it) :
    Itr G A Z it xs fun i o => o.cls = .type "list_iterator" ∧ o.data = .fields #[.ref l, .int i 0] where
  next {i v} e s o Q hs ho hp hQ := by
    obtain ⟨w, hw, hr⟩ := r.get i e
    exact wpAny_pyNext_list_item (x := w) ⟨o, ho, hp⟩ (zseq_list hz hs) (by simpa using hw) fun h' hm0 hsb => by obtain ⟨o', e', hp'⟩ := hm0; exact hQ w h' s.toks o' hr e' hp' hsb
  done s o Q hs ho hp hQ := wpAny_pyNext_list_end hh ⟨o, ho, hp⟩ (zseq_list hz hs) (by rw [List.getElem?_toArray, List.getElem?_eq_none]; rw [r.length]; exact Nat.le_refl _) fun h' hx => hQ h' hx
  kind i o hp := ⟨_, _, by decide, hp.1, hp.2⟩
  self i o s Q ho hp h := wpAny_pyIter_listiter ⟨o, ho, hp⟩ h

theorem Itr.tuple {G : Gl} {A : Around} {Z : Zt} {it l : Addr} {xs : List V} {ws : List Value} (hh : A.handled = none) (hz : ZSeq Z "tuple" l ws) (r : VRs Z xs ws) (hne : l ≠ it) :
    Itr G A Z it xs fun i o => o.cls = .type "tuple_iterator" ∧ o.data = .fields #[.ref l, .int i 0] where
  next {i v} e s o Q hs ho hp hQ := by
    obtain ⟨w, hw, hr⟩ := r.get i e
    exact wpAny_pyNext_tuple_item (x := w) ⟨o, ho, hp⟩ (zseq_tuple hz hs) (by simpa using hw) fun h' hm1 hsb => by obtain ⟨o', e', hp'⟩ := hm1; exact hQ w h' s.toks o' hr e' hp' hsb
  done s o Q hs ho hp hQ := wpAny_pyNext_tuple_end hh ⟨o, ho, hp⟩ (zseq_tuple hz hs) (by rw [List.getElem?_toArray, List.getElem?_eq_none]; rw [r.length]; exact Nat.le_refl _) fun h' hx => hQ h' hx
  kind i o hp := ⟨_, _, by decide, hp.1, hp.2⟩
  self i o s Q ho hp h := wpAny_pyIter_tupleiter ⟨o, ho, hp⟩ h

theorem Itr.strA {G : Gl} {A : Around} {Z : Zt} {it : Addr} {x : Str} {t : Tok} (hh : A.handled = none) :
    Itr G A Z it (x.cps.toList.map fun c => V.str ⟨#[c]⟩) fun i o => o.cls = .type "str_ascii_iterator" ∧ o.data = .fields #[.str x t, .int i 0] where
  next {i v} e s o Q hs ho hp hQ := by
    rw [List.getElem?_map, Array.getElem?_toList] at e
    obtain ⟨c, hc, rfl⟩ := Option.map_eq_some_iff.mp e
    exact wpAny_pyNext_ascii_item ⟨o, ho, hp⟩ hc fun h' hm2 hsb => by obtain ⟨o', e', hp'⟩ := hm2; exact hQ _ h' _ o' vr_str e' hp' hsb
  done s o Q hs ho hp hQ := wpAny_pyNext_ascii_end hh ⟨o, ho, hp⟩ (by rw [Array.getElem?_eq_none]; simp) fun h' hx => hQ h' hx
  kind i o hp := ⟨_, _, by decide, hp.1, hp.2⟩
  self i o s Q ho hp h := wpAny_pyIter_striter_ascii ⟨o, ho, hp⟩ h

theorem Itr.strW {G : Gl} {A : Around} {Z : Zt} {it : Addr} {x : Str} {t : Tok} (hh : A.handled = none) :
    Itr G A Z it (x.cps.toList.map fun c => V.str ⟨#[c]⟩) fun i o => o.cls = .type "str_iterator" ∧ o.data = .fields #[.str x t, .int i 0] where
  next {i v} e s o Q hs ho hp hQ := by
    rw [List.getElem?_map, Array.getElem?_toList] at e
    obtain ⟨c, hc, rfl⟩ := Option.map_eq_some_iff.mp e
    exact wpAny_pyNext_wide_item ⟨o, ho, hp⟩ hc fun h' hm3 hsb => by obtain ⟨o', e', hp'⟩ := hm3; exact hQ _ h' _ o' vr_str e' hp' hsb
  done s o Q hs ho hp hQ := wpAny_pyNext_wide_end hh ⟨o, ho, hp⟩ (by rw [Array.getElem?_eq_none]; simp) fun h' hx => hQ h' hx
  kind i o hp := ⟨_, _, by decide, hp.1, hp.2⟩
  self i o s Q ho hp h := wpAny_pyIter_striter_wide ⟨o, ho, hp⟩ h

theorem rangeSize_nonneg (a b c : Int) : 0 ≤ Builtin.Range.rangeSize a b c := by
  unfold Builtin.Range.rangeSize
  split
  · split
    · have : 0 ≤ (b - a - 1) / c := Int.ediv_nonneg (by first | lia | omega) (by exact Int.le_of_lt (by assumption))
      omega
    · decide
  · split
    · by_cases h : c = 0
      · subst h; simp
      · have : 0 ≤ (a - b - 1) / (-c) := Int.ediv_nonneg (by (clear h; first | lia | omega)) (by (clear h; first | lia | omega))
        (clear h; omega)
    · decide

theorem Itr.rng {G : Gl} {A : Around} {Z : Zt} {it : Addr} {a b c : Int} (hh : A.handled = none) :
    Itr G A Z it (rngItems a b c) fun i o => o = { cls := .type "range_iterator", dict := none, data := .fields #[rawInt (a + (i : Int) * c), rawInt (Builtin.Range.rangeSize a b c - i), rawInt c], slots := #[] } where
  next {i v} e s o Q hs ho hp hQ := by
    subst hp
    unfold rngItems at e
    rw [List.getElem?_map] at e
    obtain ⟨j, hj, rfl⟩ := Option.map_eq_some_iff.mp e
    obtain ⟨hlt, rfl⟩ := List.getElem?_eq_some_iff.mp hj
    rw [List.length_range] at hlt
    rw [List.getElem_range] at hQ
    refine wpAny_pyNext_range_item ho (by (clear hQ e hj ho hs hh; first | lia | omega)) fun h' e' hsb => hQ _ h' _ _ vr_int e' ?_ hsb
    have e1 : a + ((i + 1 : Nat) : Int) * c = a + (i : Int) * c + c := by
      have : ((i + 1 : Nat) : Int) * c = (i : Int) * c + c := by rw [show ((i + 1 : Nat) : Int) = (i : Int) + 1 from rfl, Int.add_mul, Int.one_mul]
      (clear e' hQ e hj hlt ho hs hh; first | lia | omega)
    have e2 : Builtin.Range.rangeSize a b c - ((i + 1 : Nat) : Int) = Builtin.Range.rangeSize a b c - (i : Int) - 1 := by (clear e1 e' hQ e hj hlt ho hs hh; first | lia | omega)
    rw [e1, e2]
  done s o Q hs ho hp hQ := by
    subst hp
    have := rangeSize_nonneg a b c
    refine wpAny_pyNext_range_end hh ho ?_ fun h' hx => hQ h' hx
    simp only [rngItems, List.length_map, List.length_range]; (clear this ho hQ hs hh; first | lia | omega)
  kind i o hp := by subst hp; exact ⟨"range_iterator", _, by decide, rfl, rfl⟩
  self i o s Q ho hp h := by subst hp; exact wpAny_pyIter_rangeiter ho h

section
variable {G : Gl} {A : Around} {L : Addr} {st : St} {K Z : Zt} {s : Shared}
theorem of_rng {Z : Zt} {a b c : Int} {w : Value} (h : VR Z (.rng a b c) w) : ∃ r t u v, w = .ref r ∧ Z r = some { cls := .type "range", dict := none, data := .fields #[.int a t, .int b u, .int c v], slots := #[] } := by unfold VR at h; exact h

theorem pyIter_use (S : Sim G K Z L st s) (hh : A.handled = none) {v : V} {w : Value} {xs : List V} (r : VR Z v w) (hx : iterItems v = some xs) {Q : Value → Shared → Prop}
    (h : ∀ P o, o.isFreed = false → Itr G A Z s.heap.objs.size xs P → P 0 o → Q (.ref s.heap.objs.size) { s with heap := s.heap.push o }) : wpAny G.M A (pyIter w) Q Nope s := by
  cases v with
  | fl ys =>
    cases hx
    obtain ⟨a, ws, rfl, hz, hr⟩ := of_fl r
    have hl := zseq_list hz S.zz
    exact wpAny_pyIter_list hl (h _ _ rfl (Itr.list hh hz hr (by obtain ⟨o, e, _⟩ := hl; exact Nat.ne_of_lt (Heap.lt_size e))) ⟨rfl, rfl⟩)
  | tup ys =>
    cases hx
    obtain ⟨a, ws, rfl, hz, hr⟩ := of_tup r
    have hl := zseq_tuple hz S.zz
    exact wpAny_pyIter_tuple hl (h _ _ rfl (Itr.tuple hh hz hr (by obtain ⟨o, e, _⟩ := hl; exact Nat.ne_of_lt (Heap.lt_size e))) ⟨rfl, rfl⟩)
  | str x =>
    cases hx
    obtain ⟨t, rfl⟩ := of_str r
    cases ha : x.cps.all (· < 128) with
    | true => exact wpAny_pyIter_ascii ha (h _ _ rfl (Itr.strA (t := t) hh) ⟨rfl, rfl⟩)
    | false => exact wpAny_pyIter_wide ha (h _ _ rfl (Itr.strW (t := t) hh) ⟨rfl, rfl⟩)
  | rng a b c =>
    simp only [iterItems] at hx
    split at hx
    · rename_i hs
      cases hx
      obtain ⟨q, t, u, z, rfl, e⟩ := of_rng r
      refine wpAny_pyIter_range (S.zz _ _ e) hs (h _ _ rfl (Itr.rng hh) ?_)
      simp
    · cases hx
  | _ => cases hx

theorem letOwned_ok {target : Expr} {it : Addr} {o : Obj} {T : String} {vs : Array Value} {v : Value} {Q : Unit → Shared → Prop} (ho : s.heap.get? it = some o) (hT : T ∈ iterTypes) (hc : o.cls = .type T) (hd : o.data = .fields vs)
    (h : Q () s) : wpAny G.M A (letOwnedTupleGo target (.ref it) v) Q Nope s := by
  have key : wpAny G.M A (match (Value.ref it, v) with
      | (.ref r, .ref a) => do
        let o ← load r
        match o.cls, o.data with
        | .type n, .fields vs =>
          if ["enumerate", "zip", "dict_itemiterator", "dict_reverseitemiterator", "odict_iterator", "itertools.zip_longest", "itertools.pairwise"].contains n && vs[0]? == some (rawInt a) then do
            rule "for.unpacks-the-owned-tuple"
            updateField r 0 .none
          else pure ()
        | _, _ => pure ()
      | _ => pure ()) Q Nope s := by
    cases v with
    | ref a =>
      refine wpAny_bind (wpAny_load ho ?_)
      rw [hc, hd]
      have : (["enumerate", "zip", "dict_itemiterator", "dict_reverseitemiterator", "odict_iterator", "itertools.zip_longest", "itertools.pairwise"].contains T) = false := by
        simp only [iterTypes, List.mem_cons, List.mem_nil_iff, or_false] at hT
        rcases hT with rfl | rfl | rfl | rfl | rfl <;> decide
      simp only [this, Bool.false_and, Bool.false_eq_true, if_false]
      exact wpAny_pure h
    | _ => exact wpAny_pure h
  unfold letOwnedTupleGo
  split
  · exact key
  · exact key
  · exact wpAny_pure h
end
end Mine

set_option maxRecDepth 100000
set_option Elab.async false
set_option linter.unusedVariables false
namespace Mine
open PySem PyProof.Rows

noncomputable def EntV (G : Gl) (L : Addr) (v : V) (st : St) (v' : V) (st' : St) : Prop :=
  ∀ K Z w s, Sim G K Z L st s → VR Z v w → ∃ Z', Zle Z Z' ∧ Sim G K Z' L st' s ∧ VR Z' v' w
theorem EntV.refl {G : Gl} {L : Addr} {v : V} {st : St} : EntV G L v st v st := fun _ Z _ _ S r => ⟨Z, .refl, S, r⟩
theorem EntV.trans {G : Gl} {L : Addr} {v v' v'' : V} {st st' st'' : St} (h : EntV G L v st v' st') (h' : EntV G L v' st' v'' st'') : EntV G L v st v'' st'' := fun K Z w s S r =>
  by obtain ⟨Z', a, b, c⟩ := h K Z w s S r; obtain ⟨Z'', a', b', c'⟩ := h' K Z' w s b c; exact ⟨Z'', a.trans a', b', c'⟩
theorem EntV.freeze {G : Gl} {L : Addr} {v : V} {st : St} {a : Addr} {xs : List V} (ha : (a, xs) ∈ st.ar) : EntV G L v st (v.fz a xs) (st.fz a xs) := fun K Z w s S r =>
  by obtain ⟨Z', h1, h2, h3⟩ := S.freeze ha; exact ⟨Z', h1, h2, h3 v w r⟩
theorem EntV.of {G : Gl} {L : Addr} {v : V} {st st' : St} (h : Ent G L st st') : EntV G L v st v st' := fun K Z w s S r =>
  by obtain ⟨Z', a, b⟩ := h K Z s S; exact ⟨Z', a, b, VR.mono a v w r⟩

section
variable {prog : Program} {w : World} {A : Around} {s : Shared} {env : Env}
theorem codeAny_forTurn {R : Result → Shared → Prop} {target it body orelse}
    (h : wpAny (model prog w) A (pyNext it) (fun r s₁ => match r with
      | none => wpAny (model prog w) A (execs orelse env) (fun f s₃ => R (.ok f) s₃) Nope s₁
      | some v => wpAny (model prog w) A (letOwnedTupleGo target it v) (fun _ s₁' =>
          wpAny (model prog w) A (assign target env v) (fun _ s₂ => wpAny (model prog w) A (execs body env) (fun f s₃ => match f with
            | .next | .cont => codeAny (model prog w) A (.forLoop target it body orelse env) R s₃
            | .brk => R (.ok .next) s₃
            | .ret v => R (.ok (.ret v)) s₃) Nope s₂) Nope s₁') Nope s₁) Nope s) :
    codeAny (model prog w) A (.forLoop target it body orelse env) R s := by
  refine codeAny_of_tree ?_
  show wpAny _ (A.under (.forLoop target it body orelse env)) ((forTurn target it body orelse env).onRaise (fun x => do noteFrame x env; theTreesLotGoes x)) _ _ s
  rw [Around.under_of_weight (c := .forLoop target it body orelse env) rfl rfl]
  refine wpAny_onRaise (wpAny_mono (E := Nope) ?_ (fun _ _ q => q) fun _ _ x => x.elim)
  simp only [forTurn]
  refine wpAny_bind (wpAny_standAt (wpAny_bind (wpAny_onRaise (wpAny_mono h (fun r s₁ h₁ => ?_) fun _ _ h' => h'.elim))))
  cases r with
  | none => exact wpAny_pure ⟨rfl, codeAny_block (wpAny_mono h₁ (fun _ _ q => q) fun _ _ x => x.elim)⟩
  | some v =>
    refine wpAny_bind (wpAny_mono h₁ (fun _ s₁' h₁' => ?_) fun _ _ h' => h')
    refine wpAny_bind (wpAny_mono h₁' (fun _ s₂ h₂ => wpAny_bind (wpAny_mono h₂ (fun f s₃ h₃ => ?_) fun _ _ h' => h')) fun _ _ h' => h')
    cases f with
    | next => exact wpAny_pure ⟨rfl, h₃⟩
    | cont => exact wpAny_pure ⟨rfl, h₃⟩
    | brk => exact wpAny_pure h₃
    | ret v => exact wpAny_pure h₃

end

noncomputable def OkR (P : Flow → Shared → Prop) : Result → Shared → Prop
  | .ok f, s => P f s
  | .error _, _ => False

structure ForT (G : Gl) (A : Around) (env : Env) (t : Expr) (body orelse : List Stmt) (xs : List V) (st : St) (Q : Fl → St → Prop) : Prop where
  run : ∀ K Z s it done P o, Itr G A Z it (done ++ xs) P → Sim G K Z env.locals st s → s.heap.get? it = some o → P done.length o → ¬ Tracked G K Z env.locals st it →
    codeAny G.M A (.forLoop t (.ref it) body orelse env) (OkR (Post G K Z env.locals FR Q)) s
structure WhT (G : Gl) (A : Around) (env : Env) (t : Expr) (body orelse : List Stmt) (st : St) (Q : Fl → St → Prop) : Prop where
  run : ∀ K Z s, Sim G K Z env.locals st s → codeAny G.M A (.whileLoop t body orelse env) (OkR (Post G K Z env.locals FR Q)) s

section
variable {G : Gl} {A : Around} {env : Env} {st : St} {t : Expr} {body orelse : List Stmt} {Q : Fl → St → Prop} {pos : Pos}

theorem ForT.ent {xs : List V} {st₀ : St} (he : Ent G env.locals st st₀) (h : ForT G A env t body orelse xs st₀ Q) : ForT G A env t body orelse xs st Q :=
  ⟨fun K Z s it done P o I S ho hp ht => by
    -- keep the iterator while the state is changed
    have hK : K it = none := by
      cases q : K it with
      | none => rfl
      | some o' => exact absurd (.inl ⟨o', q⟩) ht
    have S₁ := S.addK ht ho
    obtain ⟨Z', z, S'⟩ := he _ _ _ S₁
    have ht' := not_tracked_dropK S' hK
    exact codeAny_mono (h.run K Z' s it done P o (I.mono z) (S'.lessK (Zset.le' hK)) ho hp ht') fun r s' hr => by
      cases r with
      | ok f => exact Post.le hr z
      | error x => exact hr⟩

theorem for_nil (h : Exs G A env orelse st Q) : ForT G A env t body orelse [] st Q :=
  ⟨fun K Z s it done P o I S ho hp ht => by
    refine codeAny_forTurn (I.done s o _ S.zz ho (by simpa using hp) fun h' hx => ?_)
    exact h.run K Z _ (S.ext hx ht)⟩

theorem for_cons {x : V} {xs : List V} (h : Asg G A env t x st fun st₁ => Exs G A env body st₁ fun f st₂ => match f with
    | .next | .cont => ForT G A env t body orelse xs st₂ Q
    | .brk => Q .next st₂
    | .ret v => Q (.ret v) st₂) : ForT G A env t body orelse (x :: xs) st Q :=
  ⟨fun K Z s it done P o I S ho hp ht => by
    have hK : K it = none := by
      cases q : K it with
      | none => rfl
      | some o' => exact absurd (.inl ⟨o', q⟩) ht
    refine codeAny_forTurn (I.next (i := done.length) (v := x) (by simp) s o _ S.zz ho hp fun w h' tk o' r ho' hp' hsb => ?_)
    have S₁ : Sim G K Z env.locals st { s with heap := h', toks := tk } := S.ext hsb.extBut ht
    obtain ⟨T, vs, hT, hc, hd⟩ := I.kind _ _ hp'
    refine letOwned_ok ho' hT hc hd ?_
    refine wpAny_mono (h.run _ Z w _ (S₁.addK ht ho') r) (fun _ s₂ hq0 => ?_) fun _ _ x => x
    obtain ⟨Z₂, _, st₂, z₂, S₂, _, h₂⟩ := hq0
    refine wpAny_mono (h₂.run _ Z₂ s₂ S₂) (fun f s₃ hq1 => ?_) fun _ _ x => x
    obtain ⟨Z₃, fl, st₃, z₃, S₃, r₃, h₃⟩ := hq1
    have z := z₂.trans z₃
    have S₄ := S₃.lessK (Zset.le' (o := o') hK)
    have ht₃ := not_tracked_dropK S₃ hK
    have again : ForT G A env t body orelse xs st₃ Q → codeAny G.M A (.forLoop t (.ref it) body orelse env) (OkR (Post G K Z env.locals FR Q)) s₃ := fun hf => by
      refine codeAny_mono (hf.run K Z₃ s₃ it (done ++ [x]) P o' (by rw [List.append_assoc]; exact I.mono z) S₄ (S₃.kk _ _ Zset.self) (by simpa using hp') ht₃) fun r s' hr => ?_
      cases r with
      | ok f => exact Post.le hr z
      | error x => exact hr
    cases fl with
    | next => cases r₃; exact again h₃
    | cont => cases r₃; exact again h₃
    | brk => cases r₃; exact ⟨Z₃, .next, st₃, z, S₄, rfl, h₃⟩
    | ret v => obtain ⟨u, rfl, hu⟩ := r₃; exact ⟨Z₃, .ret v, st₃, z, S₄, ⟨u, rfl, hu⟩, h₃⟩⟩

theorem ex_for {iter : Expr} (hA : A.handled = none) (hs : ∀ x, foldedSetIterable iter env x = pure x)
    (h : Ev G A env iter st fun v st₁ => ∃ v' st₂ xs, EntV G env.locals v st₁ v' st₂ ∧ iterItems v' = some xs ∧ ForT G A env t body orelse xs st₂ Q) : Ex G A env (.For t iter body orelse pos) st Q :=
  ⟨fun K Z s S => wpAny_For (h.run.use S fun Z₁ v st₁ w s₁ z₁ S₁ r₁ hq2 => by
    obtain ⟨v', st₂, xs, he, hx, hf⟩ := hq2
    obtain ⟨Z₂, z₂, S₂, r₂⟩ := he K Z₁ w s₁ S₁ r₁
    refine pyIter_use S₂ hA r₂ hx fun P o ho I hp => ?_
    have := hf.run K Z₂ _ s₁.heap.objs.size [] P o I (S₂.push o (tk := s₁.toks)) (Heap.get?_push_size _ ho) hp S₂.fresh
    refine codeAny_mono this fun r s' hr => ?_
    cases r with
    | ok f => exact Post.le hr (z₁.trans z₂)
    | error x => exact hr.elim) hs⟩

theorem WhT.ent {st₀ : St} (he : Ent G env.locals st st₀) (h : WhT G A env t body orelse st₀ Q) : WhT G A env t body orelse st Q :=
  ⟨fun K Z s S => let ⟨Z', z, S'⟩ := he K Z s S; codeAny_mono (h.run K Z' s S') fun r s' hr => by
    cases r with
    | ok f => exact Post.le hr z
    | error x => exact hr⟩
end
end Mine

set_option maxRecDepth 100000
set_option Elab.async false
set_option linter.unusedVariables false
namespace Mine
open PySem PyProof.Rows

section
variable {G : Gl} {A : Around} {L : Addr} {st : St} {K Z : Zt} {s : Shared}

theorem draw_use {it : Addr} {P : Nat → Obj → Prop} : ∀ (xs done rest : List V) (s : Shared) (o : Obj) (Q : List Value → Shared → Prop), Itr G A Z it (done ++ (xs ++ rest)) P → Sim G K Z L st s → s.heap.get? it = some o → P done.length o → ¬ Tracked G K Z L st it →
    (∀ ws h' tk o', VRs Z xs ws → h'.get? it = some o' → P (done.length + xs.length) o' → Heap.SameBut it s.heap h' → Q ws { s with heap := h', toks := tk }) → wpAny G.M A (draw (.ref it) xs.length) Q Nope s
  | [], done, rest, s, o, Q, I, S, ho, hp, ht, hQ => by
    show wpAny _ _ (pure []) Q _ s
    exact wpAny_pure (hQ [] s.heap s.toks o .nil ho hp (.refl ..))
  | x :: xs, done, rest, s, o, Q, I, S, ho, hp, ht, hQ => by
    show wpAny _ _ (pyNext (.ref it) >>= _) Q _ s
    refine wpAny_bind (I.next (i := done.length) (v := x) (by simp) s o _ S.zz ho hp fun w h' tk o' r ho' hp' hsb => ?_)
    have S₁ : Sim G K Z L st { s with heap := h', toks := tk } := S.ext hsb.extBut ht
    refine wpAny_bind (wpAny_holding (draw_use xs (done ++ [x]) rest _ o' _ (by simpa using I) S₁ ho' (by simpa using hp') ht fun ws h'' tk' o'' r' ho'' hp'' hsb' => ?_))
    refine wpAny_pure (hQ (w :: ws) h'' tk' o'' (.cons r r') ho'' ?_ (hsb.trans hsb'))
    have : (done ++ [x]).length + xs.length = done.length + (x :: xs).length := by simp only [List.length_append, List.length_cons, List.length_nil]; (clear ho'' ho' hQ ht ho; exact Nat.add_right_comm _ _ _)
    rw [← this]; exact hp''

theorem iterable_use (S : Sim G K Z L st s) {v : V} {w : Value} {xs : List V} (r : VR Z v w) (hx : iterItems v = some xs) (hr : ∀ a b c, v ≠ .rng a b c) {Q : Bool → Shared → Prop} (h : Q false s) : wpAny G.M A (notIterableAtAll w) Q Nope s := by
  have go : ∀ {T : String} {id : String}, s.TypeIs w T → typeLookup (.type T) "__iter__" = pure (some (.builtin id)) → wpAny G.M A (notIterableAtAll w) Q Nope s := fun hT hl => by
    unfold notIterableAtAll
    exact wpAny_bind (wpAny_specialOf hT hl (wpAny_pure h))
  cases v with
  | fl ys => obtain ⟨a, ws, rfl, hz, _⟩ := of_fl r; exact go (zseq_list hz S.zz).typeIs slot_list_iter.lookup
  | tup ys => obtain ⟨a, ws, rfl, hz, _⟩ := of_tup r; exact go (zseq_tuple hz S.zz).typeIs F.slot_tuple_iter.lookup
  | str x => obtain ⟨t, rfl⟩ := of_str r; exact go (typeIs_str s x t) F.slot_str_iter.lookup
  | rng a b c => exact absurd rfl (hr a b c)
  | _ => cases hx

theorem unpack_use (S : Sim G K Z L st s) (hA : A.handled = none) {v : V} {w : Value} {xs : List V} (r : VR Z v w) (hx : iterItems v = some xs) (hr : ∀ a b c, v ≠ .rng a b c) {Q : List Value → Shared → Prop}
    (h : ∀ ws s', VRs Z xs ws → Sim G K Z L st s' → Q ws s') : wpAny G.M A (unpackItems w xs.length none) Q Nope s := by
  unfold unpackItems
  refine wpAny_bind (iterable_use S r hx hr ?_)
  simp only [Bool.false_eq_true, if_false]
  refine wpAny_bind (wpAny_holding (pyIter_use S hA r hx fun P o ho I hp => ?_))
  have S₁ := S.push o (tk := s.toks)
  have ht := S.fresh
  refine wpAny_bind (wpAny_holding (draw_use xs [] [] _ o _ (by simpa using I) S₁ (Heap.get?_push_size _ ho) hp ht fun ws h' tk o' r' ho' hp' hsb => ?_))
  have S₂ : Sim G K Z L st { s with heap := h', toks := tk } := S₁.ext hsb.extBut ht
  rw [if_neg (by rw [r'.length]; exact Nat.lt_irrefl _)]
  refine wpAny_bind (wpAny_holding (I.done _ o' _ S₂.zz ho' (by simpa using hp') fun h'' hx'' => ?_))
  simp only [Option.isSome_none, Bool.false_eq_true, if_false]
  exact wpAny_pure (h ws _ r' (S₂.ext hx'' ht))
end

structure Asgs (G : Gl) (A : Around) (env : Env) (ts : List Expr) (vs : List V) (st : St) (Q : St → Prop) : Prop where
  run : ∀ K Z ws s, Sim G K Z env.locals st s → VRs Z vs ws → wpAny G.M A (assignInOrder ((assignEach ts env).map (·.2)) ws) (Post G K Z env.locals UR fun _ => Q) Nope s

section
variable {G : Gl} {A : Around} {env : Env} {st : St} {pos : Pos} {Q : St → Prop}
theorem asgs_nil (h : Q st) : Asgs G A env [] [] st Q := ⟨fun K Z ws s S r => by
  rw [r.of_nil]
  show wpAny _ _ (pure ()) _ _ s
  exact wpAny_pure ⟨Z, (), st, .refl, S, trivial, h⟩⟩
theorem asgs_cons {t : Expr} {ts : List Expr} {v : V} {vs : List V} (ha : assignEach (t :: ts) env = (false, assign t env) :: assignEach ts env) (h : Asg G A env t v st fun st₁ => Asgs G A env ts vs st₁ Q) : Asgs G A env (t :: ts) (v :: vs) st Q :=
  ⟨fun K Z ws s S r => by
    obtain ⟨w, ws', rfl, r₁, r₂⟩ := r.of_cons
    rw [ha]
    show wpAny _ _ (holding ws' (assign t env w) >>= fun _ => assignInOrder ((assignEach ts env).map (·.2)) ws') _ _ s
    refine wpAny_bind (wpAny_holding (wpAny_mono (h.run K Z w s S r₁) (fun _ s₁ hq0 => ?_) fun _ _ x => x))
    obtain ⟨Z₁, _, st₁, z₁, S₁, _, h₁⟩ := hq0
    exact wpLe z₁ (h₁.run K Z₁ ws' s₁ S₁ (VRs.mono z₁ _ _ r₂))⟩
theorem asg_tuple {ts : List Expr} {k : Nat} {v : V} {xs : List V} (hA : A.handled = none) (hx : iterItems v = some xs) (hr : ∀ a b c, v ≠ .rng a b c) (hl : (assignEach ts env).length = xs.length) (hst : (assignEach ts env).findIdx? (·.1) = none)
    (h : Asgs G A env ts xs st Q) : Asg G A env (.Tuple ts k pos) v st Q := ⟨fun K Z w s S r => by
  show wpAny _ _ (standAt pos >>= fun _ => unpack w (assignEach ts env)) _ _ s
  refine wpAny_bind (wpAny_standAt ?_)
  unfold unpack
  rw [hl, hst]
  exact wpAny_bind (wpAny_holding (unpack_use S hA r hx hr fun ws s' r' S' => h.run K Z ws s' S' r'))⟩
end
end Mine

set_option maxRecDepth 100000
set_option Elab.async false
set_option linter.unusedVariables false
namespace Mine
open PySem PyProof.Rows

section
variable {G : Gl} {A : Around} {L : Addr} {st : St} {K Z : Zt} {s : Shared}

noncomputable def Khide (K : Zt) (h : Heap) (ar : List (Addr × List V)) : Zt := fun b => if ar.any (·.1 == b) then h.get? b else K b
theorem Khide.mem {K : Zt} {h : Heap} {ar : List (Addr × List V)} {p : Addr × List V} (hp : p ∈ ar) : Khide K h ar p.1 = h.get? p.1 := by
  unfold Khide; rw [if_pos]; exact List.any_eq_true.mpr ⟨p, hp, beq_self_eq_true _⟩
theorem Khide.not {K : Zt} {h : Heap} {ar : List (Addr × List V)} {b : Addr} (hb : ∀ p ∈ ar, p.1 ≠ b) : Khide K h ar b = K b := by
  unfold Khide; rw [if_neg]
  intro q
  obtain ⟨p, hp, e⟩ := List.any_eq_true.mp q
  exact hb p hp (by simpa using e)

theorem Sim.hide {loc : List (Str × V)} {ar₁ ar₂ : List (Addr × List V)} (S : Sim G K Z L ⟨loc, ar₁ ++ ar₂⟩ s) : Sim G (Khide K s.heap ar₂) Z L ⟨loc, ar₁⟩ s := by
  have hn : ∀ p ∈ ar₁, ∀ q ∈ ar₂, q.1 ≠ p.1 := fun p hp q hq e => by
    have := S.nd
    simp only [List.map_append] at this
    exact (List.nodup_append.mp this).2.2 p.1 (List.mem_map_of_mem hp) q.1 (List.mem_map_of_mem hq) e.symm
  have h2 : ∀ q ∈ ar₂, q ∈ ar₁ ++ ar₂ := fun q hq => List.mem_append_right _ hq
  have h1 : ∀ q ∈ ar₁, q ∈ ar₁ ++ ar₂ := fun q hq => List.mem_append_left _ hq
  have some2 : ∀ q ∈ ar₂, ∃ o, s.heap.get? q.1 = some o := fun q hq => by obtain ⟨_, _, _, ws, n, e, _⟩ := S.ar q (h2 q hq); exact ⟨_, e⟩
  exact { S with
    kk := fun b o e => by
      unfold Khide at e; split at e
      · exact e
      · exact S.kk b o e
    kz := fun b o e => by
      unfold Khide at e; split at e
      · rename_i q; obtain ⟨p, hp, e'⟩ := List.any_eq_true.mp q
        rw [← (show p.1 = b by simpa using e')]; exact (S.ar p (h2 p hp)).2.1
      · exact S.kz b o e
    kL := by rw [Khide.not fun p hp => (S.ar p (h2 p hp)).2.2.1]; exact S.kL
    ar := fun p hp => by
      obtain ⟨g1, g2⟩ := S.ar p (h1 p hp)
      exact ⟨by rw [Khide.not fun q hq => hn p hp q hq]; exact g1, g2⟩
    nd := by have := S.nd; simp only [List.map_append] at this; exact (List.nodup_append.mp this).1
    tb := fun t ht => by
      obtain ⟨g1, g2, g3, g4, g5⟩ := S.tb t ht
      exact ⟨by rw [Khide.not fun q hq => g4 q (h2 q hq)]; exact g1, g2, g3, fun p hp => g4 p (h1 p hp), g5⟩ }

theorem Sim.unhide {loc loc' : List (Str × V)} {ar₁ ar₂ ar₁' : List (Addr × List V)} {Z' : Zt} {s' : Shared} {L' : Addr} (S : Sim G K Z L ⟨loc, ar₁ ++ ar₂⟩ s) (z : Zle Z Z')
    (S' : Sim G (Khide K s.heap ar₂) Z' L' ⟨loc', ar₁'⟩ s') (hK : K L' = none) : Sim G K Z' L' ⟨loc', ar₁' ++ ar₂⟩ s' := by
  have h2 : ∀ q ∈ ar₂, q ∈ ar₁ ++ ar₂ := fun q hq => List.mem_append_right _ hq
  have kn : ∀ b, Khide K s.heap ar₂ b = none → (∀ p ∈ ar₂, p.1 ≠ b) := fun b e p hp q => by
    obtain ⟨_, _, _, ws, n, e', _⟩ := S.ar p (h2 p hp)
    rw [← q, Khide.mem hp, e'] at e; cases e
  have kle : ∀ b o, K b = some o → Khide K s.heap ar₂ b = some o := fun b o e => by
    rw [Khide.not fun p hp q => by rw [← q, (S.ar p (h2 p hp)).1] at e; cases e]; exact e
  have knone : ∀ b, Khide K s.heap ar₂ b = none → K b = none := fun b e => by
    cases q : K b with
    | none => rfl
    | some o => rw [kle b o q] at e; cases e
  exact { S' with
    kk := fun b o e => S'.kk b o (kle b o e)
    kz := fun b o e => S'.kz b o (kle b o e)
    kL := knone _ S'.kL
    ar := fun p hp => by
      rcases List.mem_append.mp hp with hp | hp
      · obtain ⟨g1, g2⟩ := S'.ar p hp; exact ⟨knone _ g1, g2⟩
      · obtain ⟨g1, g2, g3, ws, n, g4, g5⟩ := S.ar p (h2 p hp)
        have hk : Khide K s.heap ar₂ p.1 = some ⟨.type "list", none, .seq ws.toArray n, #[]⟩ := by rw [Khide.mem hp]; exact g4
        exact ⟨g1, S'.kz _ _ hk, (fun q => by have := S'.kL; rw [← q, hk] at this; cases this), ws, n, S'.kk _ _ hk, VRs.mono z _ _ g5⟩
    nd := by
      have := S.nd
      simp only [List.map_append] at this ⊢
      refine List.nodup_append.mpr ⟨S'.nd, (List.nodup_append.mp this).2.1, fun x hx y hy e => ?_⟩
      obtain ⟨p, hp, rfl⟩ := List.mem_map.mp hx
      obtain ⟨q, hq, rfl⟩ := List.mem_map.mp hy
      exact kn _ (S'.ar p hp).1 q hq e.symm
    tb := fun t ht => by
      obtain ⟨g1, g2, g3, g4, g5⟩ := S'.tb t ht
      refine ⟨knone _ g1, g2, g3, fun p hp => ?_, g5⟩
      rcases List.mem_append.mp hp with hp | hp
      · exact g4 p hp
      · exact kn _ g1 p hp }

theorem Sim.enter {loc binds : List (Str × V)} {ar : List (Addr × List V)} {oL : Obj} {L' : Addr} {h' : Heap} {tk : Nat} {m' : Str → Option Value} (S : Sim G K Z L ⟨loc, ar⟩ s) (hL : s.heap.get? L = some oL)
    (hk : ∀ b o, s.heap.get? b = some o → h'.get? b = some o) (hf : s.heap.get? L' = none) (hn : h'.Ns L' m') (hm : ∀ x, LR Z (binds.lookup x) (m' x)) :
    Sim G (Zset K L oL) Z L' ⟨binds, ar⟩ { s with heap := h', toks := tk } := by
  have ne : ∀ b o, s.heap.get? b = some o → b ≠ L' := fun b o e q => by rw [q, hf] at e; cases e
  have hLL : L ≠ L' := ne L oL hL
  exact {
    kk := fun b o e => by
      unfold Zset at e; split at e
      · rename_i q; subst q; cases e; exact hk _ _ hL
      · exact hk _ _ (S.kk b o e)
    zz := fun b o e => hk _ _ (S.zz b o e)
    kz := fun b o e => by
      unfold Zset at e; split at e
      · rename_i q; subst q; exact S.zL
      · exact S.kz b o e
    bz := S.bz
    ns := ⟨m', hn, hm⟩
    kL := by
      rw [Zset.ne (Ne.symm hLL)]
      cases q : K L' with
      | none => rfl
      | some o => exact absurd (S.kk _ _ q) (by rw [hf]; nofun)
    zL := by
      cases q : Z L' with
      | none => rfl
      | some o => exact absurd (S.zz _ _ q) (by rw [hf]; nofun)
    ar := fun p hp => by
      obtain ⟨g1, g2, g3, ws, n, g4, g5⟩ := S.ar p hp
      exact ⟨by rw [Zset.ne g3]; exact g1, g2, ne _ _ g4, ws, n, hk _ _ g4, g5⟩
    nd := S.nd
    tb := fun t ht => by
      obtain ⟨g1, g2, g3, g4, ps, g5, g6⟩ := S.tb t ht
      exact ⟨by rw [Zset.ne g3]; exact g1, g2, ne _ _ g5, g4, ps, hk _ _ g5, g6⟩
    gens := S.gens
    os := S.os
    cl := S.cl }
theorem Sim.leave {loc binds : List (Str × V)} {ar ar' : List (Addr × List V)} {oL : Obj} {L' : Addr} {Z' : Zt} {s' : Shared} (S : Sim G K Z L ⟨loc, ar⟩ s) (hL : s.heap.get? L = some oL) (z : Zle Z Z')
    (S' : Sim G (Zset K L oL) Z' L' ⟨binds, ar'⟩ s') : Sim G K Z' L ⟨loc, ar'⟩ s' := by
  have e : Zset K L oL L = some oL := Zset.self
  have hle : Zle K (Zset K L oL) := Zset.le S.kL
  have knone : ∀ b, Zset K L oL b = none → K b = none ∧ b ≠ L := fun b h => ⟨(by
    cases q : K b with
    | none => rfl
    | some o => rw [hle b o q] at h; cases h), fun q => by rw [q, e] at h; cases h⟩
  exact { S' with
    kk := fun b o h => S'.kk b o (hle b o h)
    kz := fun b o h => S'.kz b o (hle b o h)
    ns := by
      obtain ⟨m, ⟨o, es, ep, g1, g2⟩, hm⟩ := S.ns
      rw [hL] at g1; cases g1
      exact ⟨m, ⟨oL, es, ep, S'.kk _ _ e, g2⟩, fun x => (hm x).mono z⟩
    kL := S.kL
    zL := S'.kz _ _ e
    ar := fun p hp => by
      obtain ⟨g1, g2, g3, g4⟩ := S'.ar p hp
      exact ⟨(knone _ g1).1, g2, (knone _ g1).2, g4⟩
    tb := fun t ht => by
      obtain ⟨g1, g2, g3, g4⟩ := S'.tb t ht
      exact ⟨(knone _ g1).1, g2, (knone _ g1).2, g4⟩ }
end

structure Calls (G : Gl) (A : Around) (f : Addr) (vs : List V) (ar : List (Addr × List V)) (Q : V → List (Addr × List V) → Prop) : Prop where
  run : ∀ K Z ws s L loc, Sim G K Z L ⟨loc, ar⟩ s → VRs Z vs ws → wpAny G.M A (call (.ref f) ws) (Post G K Z L VR fun v st' => st'.loc = loc ∧ Q v st'.ar) Nope s

structure Fn (G : Gl) (f : Addr) (name : Str) (ps : List Str) (body : List Stmt) (scope : Scope) (cd : Value) : Prop where
  obj : ∃ o params pm doc, G.base.get? f = some o ∧ o.data = .func (PySem.Calls.docDef name params body scope pm cd doc) ∧ (∀ ws, ws.length = ps.length → bindArgs (PySem.Calls.docDef name params body scope pm cd doc) ⟨ws, []⟩ = pure (ps.zip ws))
  code : G.base.CodeRec cd name
  loc : ∀ x ∈ ps, scope.names.lookup x = some .local
  co : scope.isCoroutine = false
  gen : scope.isGenerator = false
  kind : scope.kind = .function
  cell : ∀ x ∈ scope.names, x.2 ≠ .cell

noncomputable def retOf : Fl → V
  | .ret v => v
  | _ => .none

theorem lookup_zip_rev {Z : Zt} : ∀ {ps : List Str} {vs : List V} {ws : List Value}, VRs Z vs ws → ∀ x, LR Z ((ps.zip vs).reverse.lookup x) ((ps.zip ws).reverse.lookup x) := by
  intro ps vs ws r x
  have key : ∀ (ps : List Str) (vs : List V) (ws : List Value) (accV : List (Str × V)) (accW : List (Str × Value)), VRs Z vs ws → LR Z (accV.lookup x) (accW.lookup x) →
      LR Z (((ps.zip vs).reverse ++ accV).lookup x) (((ps.zip ws).reverse ++ accW).lookup x) := by
    intro ps
    induction ps with
    | nil => intro vs ws aV aW r h; simpa using h
    | cons p ps ih =>
      intro vs ws aV aW r h
      cases vs with
      | nil => rw [r.of_nil]; simpa using h
      | cons v vs =>
        obtain ⟨w, ws', rfl, r1, r2⟩ := r.of_cons
        simp only [List.zip_cons_cons, List.reverse_cons, List.append_assoc, List.cons_append, List.nil_append]
        refine ih vs ws' ((p, v) :: aV) ((p, w) :: aW) r2 ?_
        simp only [List.lookup_cons]
        cases x == p
        · exact h
        · exact r1
  simpa using key ps vs ws [] [] r trivial

section
variable {G : Gl} {A : Around}
theorem Calls.mono {f : Addr} {vs : List V} {ar : List (Addr × List V)} {Q Q' : V → List (Addr × List V) → Prop} (h : Calls G A f vs ar Q) (hQ : ∀ v ar', Q v ar' → Q' v ar') : Calls G A f vs ar Q' :=
  ⟨fun K Z ws s L loc S r => wpAny_mono (h.run K Z ws s L loc S r) (fun _ _ hm0 => by obtain ⟨Z', v, st', a, b, c, d, e⟩ := hm0; exact ⟨Z', v, st', a, b, c, d, hQ _ _ e⟩) fun _ _ x => x⟩
theorem Calls.frame {f : Addr} {vs : List V} {ar ar₂ : List (Addr × List V)} {Q : V → List (Addr × List V) → Prop} (h : Calls G A f vs ar Q) : Calls G A f vs (ar ++ ar₂) fun v ar' => ∃ ar₁, ar' = ar₁ ++ ar₂ ∧ Q v ar₁ :=
  ⟨fun K Z ws s L loc S r => wpAny_mono (h.run _ Z ws s L loc S.hide r) (fun w s' hq1 => by
    obtain ⟨Z', v, st', z, S', rv, hl, q⟩ := hq1
    obtain ⟨loc', ar'⟩ := st'
    cases hl
    exact ⟨Z', v, ⟨_, ar' ++ ar₂⟩, z, S.unhide z S' S.kL, rv, rfl, ar', rfl, q⟩) fun _ _ x => x⟩

variable {env : Env} {st : St} {pos : Pos} {Q : V → St → Prop}
end
end Mine

set_option maxRecDepth 100000
set_option Elab.async false
namespace Mine
open PySem
theorem owner_pat : Manifest.owners.lookup (String.ofList ['n', 'r', 'e', 't', 't', 'a', 'P', '.', 'e', 'r'].reverse) = some Manifest.sig_re_Pattern := by kernel_rfl
theorem owner_mat : Manifest.owners.lookup (String.ofList ['h', 'c', 't', 'a', 'M', '.', 'e', 'r'].reverse) = some Manifest.sig_re_Match := by kernel_rfl
theorem pa_pat : PlainAttrs "re.Pattern" :=
  ⟨⟨"object.__getattribute__", by rw [typeLookup_type, builtinLookup_eq_fast]; kernel_rfl, by decide +kernel⟩, by rw [typeLookup_type, builtinLookup_eq_fast]; kernel_rfl⟩
theorem pa_mat : PlainAttrs "re.Match" :=
  ⟨⟨"object.__getattribute__", by rw [typeLookup_type, builtinLookup_eq_fast]; kernel_rfl, by decide +kernel⟩, by rw [typeLookup_type, builtinLookup_eq_fast]; kernel_rfl⟩
theorem slot_pat_fullmatch : Slot "re.Pattern" "fullmatch" "re.Pattern.fullmatch" :=
  .of (owner := "re.Pattern") (n := "fullmatch") (by rw [typeLookup_type, builtinLookup_eq_fast]; kernel_rfl) (by decide +kernel) (by decide +kernel) (by decide +kernel)
    (by first | exact .inl (by decide +kernel) | exact .inr (by decide +kernel)) (by rw [isSubtype_type]; kernel_rfl)
theorem type_pat_fullmatch : typeOf (.builtin "re.Pattern.fullmatch") = pure (.type "method_descriptor") := by show builtinType _ = _; rw [builtinType_eq_fast]; kernel_rfl
theorem entry_pat_fullmatch : entryFor table "re.Pattern.fullmatch" = some Builtin.«re.Pattern.fullmatch» := entryFor_of_tree (by kernel_rfl)
theorem args_pat_fullmatch (a b : Value) : argsOk "re.Pattern.fullmatch" ⟨[a, b], []⟩ := by
  unfold argsOk; rw [signature?_of (id := "re.Pattern.fullmatch") (n := ['h', 'c', 't', 'a', 'm', 'l', 'l', 'u', 'f']) (o := ['n', 'r', 'e', 't', 't', 'a', 'P', '.', 'e', 'r']) (by kernel_rfl) owner_pat]; kernel_rfl
theorem slot_pat_sub : Slot "re.Pattern" "sub" "re.Pattern.sub" :=
  .of (owner := "re.Pattern") (n := "sub") (by rw [typeLookup_type, builtinLookup_eq_fast]; kernel_rfl) (by decide +kernel) (by decide +kernel) (by decide +kernel)
    (by first | exact .inl (by decide +kernel) | exact .inr (by decide +kernel)) (by rw [isSubtype_type]; kernel_rfl)
theorem type_pat_sub : typeOf (.builtin "re.Pattern.sub") = pure (.type "method_descriptor") := by show builtinType _ = _; rw [builtinType_eq_fast]; kernel_rfl
theorem entry_pat_sub : entryFor table "re.Pattern.sub" = some Builtin.«re.Pattern.sub» := entryFor_of_tree (by kernel_rfl)
theorem args_pat_sub (a b c : Value) : argsOk "re.Pattern.sub" ⟨[a, b, c], []⟩ := by
  unfold argsOk; rw [signature?_of (id := "re.Pattern.sub") (n := ['b', 'u', 's']) (o := ['n', 'r', 'e', 't', 't', 'a', 'P', '.', 'e', 'r']) (by kernel_rfl) owner_pat]; kernel_rfl
theorem slot_mat_group : Slot "re.Match" "group" "re.Match.group" :=
  .of (owner := "re.Match") (n := "group") (by rw [typeLookup_type, builtinLookup_eq_fast]; kernel_rfl) (by decide +kernel) (by decide +kernel) (by decide +kernel)
    (by first | exact .inl (by decide +kernel) | exact .inr (by decide +kernel)) (by rw [isSubtype_type]; kernel_rfl)
theorem type_mat_group : typeOf (.builtin "re.Match.group") = pure (.type "method_descriptor") := by show builtinType _ = _; rw [builtinType_eq_fast]; kernel_rfl
theorem entry_mat_group : entryFor table "re.Match.group" = some Builtin.«re.Match.group» := entryFor_of_tree (by kernel_rfl)
theorem args_mat_group (a b : Value) : argsOk "re.Match.group" ⟨[a, b], []⟩ := by
  unfold argsOk; rw [signature?_of (id := "re.Match.group") (n := ['p', 'u', 'o', 'r', 'g']) (o := ['h', 'c', 't', 'a', 'M', '.', 'e', 'r']) (by kernel_rfl) owner_mat]; kernel_rfl
end Mine

set_option maxRecDepth 100000
set_option Elab.async false
set_option linter.unusedVariables false
namespace Mine
open PySem PySem.Sre

theorem runFor_add (a b : Nat) (m : M) : M.runFor (a + b) m = M.runFor b (M.runFor a m) := by
  induction a generalizing m with
  | zero => simp [M.runFor]
  | succ a ih =>
    rw [Nat.succ_add]
    show (if m.outcome.isSome then m else M.runFor (a + b) m.step) = _
    cases h : m.outcome.isSome with
    | true =>
      simp only [if_true]
      have h1 : M.runFor (a + 1) m = m := by show (if m.outcome.isSome then m else _) = m; rw [h]; rfl
      rw [h1]
      cases b with
      | zero => rfl
      | succ b => show m = (if m.outcome.isSome then m else _); rw [h]; rfl
    | false =>
      simp only [Bool.false_eq_true, if_false]
      rw [ih]
      have h1 : M.runFor (a + 1) m = M.runFor a m.step := by show (if m.outcome.isSome then m else _) = _; rw [h]; rfl
      rw [h1]

theorem runFor_done {m : M} (h : m.outcome.isSome = true) : ∀ n, M.runFor n m = m
  | 0 => rfl
  | n + 1 => by show (if m.outcome.isSome then m else _) = m; rw [h]; rfl

noncomputable def Reach (m m' : M) (n : Nat) : Prop := ∃ k, k ≤ n ∧ M.runFor k m = m'
theorem Reach.refl {m : M} {n : Nat} : Reach m m n := ⟨0, Nat.zero_le _, rfl⟩
theorem Reach.trans {m m' m'' : M} {a b : Nat} (h : Reach m m' a) (h' : Reach m' m'' b) : Reach m m'' (a + b) :=
  by obtain ⟨k, hk, e⟩ := h; exact by obtain ⟨j, hj, e'⟩ := h'; exact ⟨k + j, by (clear e' e; exact Nat.add_le_add (by assumption) (by assumption)), by rw [runFor_add, e, e']⟩
theorem Reach.le {m m' : M} {a b : Nat} (h : Reach m m' a) (hab : a ≤ b) : Reach m m' b := by obtain ⟨k, hk, e⟩ := h; exact ⟨k, by (clear e; exact Nat.le_trans (by assumption) (by assumption)), e⟩
theorem Reach.step {m m' : M} {n : Nat} (ho : m.outcome = none) (h : Reach m.step m' n) : Reach m m' (n + 1) :=
  by obtain ⟨k, hk, e⟩ := h; exact ⟨k + 1, by (clear e ho; exact Nat.lt_succ_of_le (by assumption)), by show (if m.outcome.isSome then m else M.runFor k m.step) = m'; rw [ho]; exact e⟩
theorem Reach.one {m m' : M} (ho : m.outcome = none) (h : m.step = m') : Reach m m' 1 := Reach.step (n := 0) ho (h ▸ .refl)

open PySem.Builtin.Re

section
variable {M' : Model} {A : Around} {E : Value → Shared → Prop} {s : Shared}

theorem reDrive_ends : ∀ (t : Nat) (m m' : M) (n : Nat) (Q : Sre.M → Shared → Prop), Reach m m' n → m'.outcome.isSome = true → n < 4 * t → Q m' s → wpAny M' A (reDrive t m) Q E s
  | 0, _, _, _, _, _, _, hn, _ => by first | lia | omega
  | t + 1, m, m', n, Q, h, ho, hn, hQ => by
    obtain ⟨k, hk, e⟩ := h
    show wpAny M' A (if (m.runFor reTurnSteps).outcome.isSome then pure (m.runFor reTurnSteps) else (do rule "sre.turn"; reDrive t (m.runFor reTurnSteps))) Q E s
    by_cases hle : k ≤ 4
    · have e4 : m.runFor reTurnSteps = m' := by
        show m.runFor 4 = m'
        rw [show 4 = k + (4 - k) from (Nat.add_sub_cancel' hle).symm, runFor_add, e, runFor_done ho]
      rw [e4, if_pos ho]
      exact wpAny_pure hQ
    · have hr : Reach (m.runFor reTurnSteps) m' (n - 4) := ⟨k - 4, Nat.sub_le_sub_right hk 4, by
        have := runFor_add 4 (k - 4) m
        rw [show 4 + (k - 4) = k from Nat.add_sub_cancel' (Nat.le_of_not_le hle), e] at this
        exact this.symm⟩
      cases hb : (m.runFor reTurnSteps).outcome.isSome with
      | true =>
        have : m.runFor reTurnSteps = m' := by
          obtain ⟨j, _, e'⟩ := hr
          rw [← e', runFor_done hb]
        rw [this] at hb ⊢
        simp only [if_true]
        exact wpAny_pure hQ
      | false =>
        simp only [Bool.false_eq_true, if_false]
        exact wpAny_bind (wpAny_rule (reDrive_ends t _ m' (n - 4) Q hr ho (Nat.sub_lt_right_of_lt_add (Nat.le_trans (Nat.le_of_not_le hle) hk) hn) hQ))

theorem wpAny_forIn_rules {α : Type} (l : List α) (f : α → PUnit → Sem (ForInStep PUnit)) {Q : PUnit → Shared → Prop} (hf : ∀ x u, (∃ t, f x u = (do rule t; pure (.yield ⟨⟩))) ∨ f x u = pure (.yield ⟨⟩)) (h : Q ⟨⟩ s) : wpAny M' A (forIn l PUnit.unit f) Q E s := by
  refine wpAny_forIn_list f (fun _ _ s' => s' = s) Q (fun x rest b s' e => ?_) (fun b s' e => by subst e; exact h) l _ rfl
  subst e
  rcases hf x b with ⟨t, e⟩ | e
  · rw [e]; exact wpAny_bind (wpAny_rule (wpAny_pure rfl))
  · rw [e]; exact wpAny_pure rfl

theorem reRun_matched {m m' : M} {n : Nat} {Q : Option Sre.M → Shared → Prop} (h : Reach m m' n) (ho : m'.outcome = some .matched) (hn : n < 2 ^ 65) (hQ : Q (some m') s) : wpAny M' A (reRunToEnd m) Q E s := by
  unfold reRunToEnd
  refine wpAny_bind (reDrive_ends (2 ^ 64) m m' n _ h (by rw [ho]; rfl) (by (clear ho; exact Nat.le_trans (by assumption) (by decide))) ?_)
  refine wpAny_bind (wpAny_forIn_rules _ _ (fun x u => ?_) ?_)
  · by_cases hb : m'.seen.has x = true
    · left; exact ⟨_, by rw [if_pos hb]⟩
    · right; rw [if_neg hb]
  · rw [ho]; exact wpAny_pure hQ
theorem reRun_failed {m m' : M} {n : Nat} {Q : Option Sre.M → Shared → Prop} (h : Reach m m' n) (ho : m'.outcome = some .failed) (hn : n < 2 ^ 65) (hQ : Q none s) : wpAny M' A (reRunToEnd m) Q E s := by
  unfold reRunToEnd
  refine wpAny_bind (reDrive_ends (2 ^ 64) m m' n _ h (by rw [ho]; rfl) (by (clear ho; omega)) ?_)
  refine wpAny_bind (wpAny_forIn_rules _ _ (fun x u => ?_) ?_)
  · by_cases hb : m'.seen.has x = true
    · left; exact ⟨_, by rw [if_pos hb]⟩
    · right; rw [if_neg hb]
  · rw [ho]; exact wpAny_pure hQ
end

structure ME where
  code : Array Nat
  text : Array Nat
  lastStart : Nat
  whole : Bool

structure C where
  pc : Nat
  pos : Nat
  handed : Nat
  start : Nat
  must : Bool := false
  outer : Bool := true
  marks : Array (Option Nat) := #[]
  lastmark : Int := -1
  lastindex : Int := -1
  loops : Array Loop := #[]
  inner : Option Nat := none
  frames : List Sre.Frame := []

noncomputable def wt : List Sre.Frame → Nat
  | [] => 0
  | f :: r => 1 + f.kept.marks.size + wt r

noncomputable def mk (e : ME) (c : C) (sn : Seen) (a : Option Bool) : M :=
  { code := e.code, text := e.text, lim := e.text.size, start := c.start, lastStart := e.lastStart, wholeText := e.whole, mustAdvance := c.must, pc := c.pc, pos := c.pos, handed := c.handed,
    outermost := c.outer, marks := c.marks, lastmark := c.lastmark, lastindex := c.lastindex, loops := c.loops, inner := c.inner, frames := c.frames, weight := wt c.frames, answer := a, seen := sn, outcome := none }

noncomputable def R (e : ME) (c : C) (a : Option Bool) (c' : C) (a' : Option Bool) (n : Nat) : Prop := ∀ sn, ∃ sn', Reach (mk e c sn a) (mk e c' sn' a') n
theorem R.refl {e : ME} {c : C} {a : Option Bool} {n : Nat} : R e c a c a n := fun sn => ⟨sn, .refl⟩
theorem R.trans {e : ME} {c c' c'' : C} {a a' a'' : Option Bool} {n k : Nat} (h : R e c a c' a' n) (h' : R e c' a' c'' a'' k) : R e c a c'' a'' (n + k) := fun sn =>
  by obtain ⟨s1, r1⟩ := h sn; exact by obtain ⟨s2, r2⟩ := h' s1; exact ⟨s2, r1.trans r2⟩
theorem R.le {e : ME} {c c' : C} {a a' : Option Bool} {n k : Nat} (h : R e c a c' a' n) (hk : n ≤ k) : R e c a c' a' k := fun sn => by obtain ⟨s1, r1⟩ := h sn; exact ⟨s1, r1.le hk⟩
theorem R.one {e : ME} {c c' : C} {a a' : Option Bool} (h : ∀ sn, ∃ sn', (mk e c sn a).step = mk e c' sn' a') : R e c a c' a' 1 := fun sn => by obtain ⟨s1, r1⟩ := h sn; exact ⟨s1, .one rfl r1⟩

section
variable {e : ME} {c : C}

theorem step_exec {sn : Seen} (hpc : c.pc < e.code.size) : (mk e c sn none).step = (mk e c sn none).exec := by
  unfold M.step
  simp only [mk, Option.isSome_none, Bool.false_eq_true, if_false, hpc, if_true]

theorem step_back {sn : Seen} {f : Sre.Frame} {fs : List Sre.Frame} {yes : Bool} (hf : c.frames = f :: fs) :
    (mk e c sn (some yes)).step = M.resume (mk e { c with frames := fs, pc := f.pc, pos := f.pos, outer := f.outermost } sn none) f yes := by
  unfold M.step
  simp only [mk, Option.isSome_none, Bool.false_eq_true, if_false, hf, wt]
  congr 2
  (clear hf; first | lia | omega)

noncomputable def Acc (code : Array Nat) (i : Nat) (p : Nat → Bool) : Prop := ∀ ch sn, ∃ sn', accepts code i ch sn = .ok (p ch, sn')

theorem run_ok {code text : Array Nat} {i : Nat} {p : Nat → Bool} (h : Acc code i p) : ∀ (rem : List Nat) (pre : List Nat) (found : Nat) (sn : Seen), text.toList = pre ++ rem →
    ∃ sn', Sre.run code text i rem.length pre.length found sn = .ok (found + (rem.takeWhile p).length, sn')
  | [], pre, found, sn, _ => ⟨sn, by simp [Sre.run]⟩
  | x :: rem, pre, found, sn, e => by
    have hx : text.getD pre.length 0 = x := by
      rw [Array.getD_eq_getD_getElem?, ← Array.getElem?_toList, e]; simp
    obtain ⟨s1, h1⟩ := h x sn
    show ∃ sn', (do let (yes, seen) ← accepts code i (text.getD pre.length 0) sn; if yes then Sre.run code text i rem.length (pre.length + 1) (found + 1) seen else pure (found, seen)) = _
    rw [hx, h1]
    cases hp : p x with
    | true =>
      obtain ⟨s2, h2⟩ := run_ok (text := text) h rem (pre ++ [x]) (found + 1) s1 (by simp [e])
      refine ⟨s2, ?_⟩
      rw [List.takeWhile_cons_of_pos hp]
      show (if true = true then Sre.run code text i rem.length (pre.length + 1) (found + 1) s1 else Pure.pure (found, s1)) = _
      rw [if_pos rfl, show pre.length + 1 = (pre ++ [x]).length by simp, h2]
      congr 2
      simp only [List.length_cons]; (clear h2 hp h1 hx e; exact Nat.add_right_comm _ _ _)
    | false =>
      refine ⟨s1, ?_⟩
      rw [List.takeWhile_cons_of_neg (by rw [hp]; exact Bool.false_ne_true)]
      show (if false = true then Sre.run code text i rem.length (pre.length + 1) (found + 1) s1 else Pure.pure (found, s1)) = _
      rw [if_neg Bool.false_ne_true]; rfl
end
end Mine

set_option maxRecDepth 100000
set_option Elab.async false
set_option linter.unusedVariables false
namespace Mine
open PySem PySem.Sre

section
variable {e : ME} {c : C}

theorem r_mark {i : Nat} (hpc : c.pc < e.code.size) (h0 : e.code.getD c.pc 0 = 17) (h1 : e.code.getD (c.pc + 1) 0 = i) (hi : (i : Int) ≤ c.lastmark + 1) :
    R e c none { c with marks := c.marks.setIfInBounds i (some c.pos), lastmark := max c.lastmark i, lastindex := if i % 2 == 1 then ((i / 2 + 1 : Nat) : Int) else c.lastindex, pc := c.pc + 2 } none 1 := .one fun sn => by
  refine ⟨sn.add 17, ?_⟩
  rw [step_exec hpc]
  unfold M.exec
  simp only [M.word, mk, Nat.add_zero, h0, show ops[17]? = some Op.MARK from rfl, M.mark, h1, hi, if_true]

theorem r_success_no (hpc : c.pc < e.code.size) (h0 : e.code.getD c.pc 0 = 1) (hw : (c.outer && ((e.whole && c.pos != e.text.size) || (c.must && c.pos == c.start))) = true) : R e c none c (some false) 1 := .one fun sn => by
  refine ⟨sn.add 1, ?_⟩
  rw [step_exec hpc]
  unfold M.exec
  simp only [M.word, mk, Nat.add_zero, h0, show ops[1]? = some Op.SUCCESS from rfl, hw, if_true, M.say]
theorem r_success {c : C} (hpc : c.pc < e.code.size) (h0 : e.code.getD c.pc 0 = 1) (hw : (c.outer && ((e.whole && c.pos != e.text.size) || (c.must && c.pos == c.start))) = false) : R e c none { c with handed := c.pos } (some true) 1 := .one fun sn => by
  refine ⟨sn.add 1, ?_⟩
  rw [step_exec hpc]
  unfold M.exec
  simp only [M.word, mk, Nat.add_zero, h0, show ops[1]? = some Op.SUCCESS from rfl, hw, Bool.false_eq_true, if_false, M.say]

theorem r_item {p : Nat → Bool} {wd : Nat} (hpc : c.pc < e.code.size) (h0 : e.code.getD c.pc 0 = 13 ∨ e.code.getD c.pc 0 = 16 ∨ e.code.getD c.pc 0 = 2) (hl : c.pos < e.text.size) (ha : Acc e.code c.pc p) (hp : p (e.text.getD c.pos 0) = true)
    (hw : itemWidth e.code c.pc = wd) : R e c none { c with pc := c.pc + wd, pos := c.pos + 1 } none 1 := .one fun sn => by
  obtain ⟨s1, h1⟩ := ha (e.text.getD c.pos 0) (sn.add (e.code.getD c.pc 0))
  refine ⟨s1, ?_⟩
  rw [step_exec hpc]
  unfold M.exec
  rw [hp] at h1
  have hl' : ¬ (e.text.size ≤ c.pos) := by (clear h1 hw hp h0 hpc; exact Nat.not_le_of_lt (by assumption))
  rcases h0 with h0 | h0 | h0
  · rw [h0] at h1; simp only [M.word, mk, Nat.add_zero, h0, show ops[13]? = some Op.IN from rfl, ge_iff_le, hl', if_false, h1, hw]
  · rw [h0] at h1; simp only [M.word, mk, Nat.add_zero, h0, show ops[16]? = some Op.LITERAL from rfl, ge_iff_le, hl', if_false, h1, hw]
  · rw [h0] at h1; simp only [M.word, mk, Nat.add_zero, h0, show ops[2]? = some Op.ANY from rfl, ge_iff_le, hl', if_false, h1, hw]

noncomputable def keepOf (c : C) (whole : Bool) : Sre.Kept := { lastmark := c.lastmark, lastindex := c.lastindex, whole, marks := if whole then c.marks.extract 0 (c.lastmark + 1).toNat else #[] }
noncomputable def putBackC (c : C) (k : Sre.Kept) : C := { c with lastmark := k.lastmark, lastindex := k.lastindex, marks := if k.whole then k.marks ++ c.marks.extract k.marks.size c.marks.size else c.marks }
noncomputable def pushC (c : C) (f : Sre.Frame) (target «from» : Nat) (outer : Bool) : C := { c with frames := f :: c.frames, pc := target, pos := «from», handed := «from», outer }

theorem attempt_eq {sn : Seen} {f : Sre.Frame} {target «from» : Nat} {outer : Bool} (hw : wt (f :: c.frames) ≤ 16777216) : (mk e c sn none).attempt f target «from» outer = mk e (pushC c f target «from» outer) sn none := by
  have h : ¬ (wt c.frames + 1 + f.kept.marks.size > 16777216) := by simp only [wt] at hw; first | lia | omega
  unfold M.attempt
  simp only [mk, h, if_false, pushC, wt]
  congr 1
  (clear h hw; simp only [Nat.add_assoc, Nat.add_comm, Nat.add_left_comm])

theorem r_repeat {p : Nat → Bool} {least skip : Nat} {pre rem : List Nat} (hpc : c.pc < e.code.size) (h0 : e.code.getD c.pc 0 = 24) (h1 : e.code.getD (c.pc + 1) 0 = skip) (h2 : e.code.getD (c.pc + 2) 0 = least) (h3 : e.code.getD (c.pc + 3) 0 = 4294967295)
    (ha : Acc e.code (c.pc + 4) p) (ht : e.text.toList = pre ++ rem) (hp : c.pos = pre.length) (hs : e.text.size ≤ 16777216) (hn : least ≤ (rem.takeWhile p).length) (hw : wt c.frames + 1 + c.marks.size ≤ 16777216) :
    R e c none (pushC { c with pos := c.pos + (rem.takeWhile p).length } { wait := .giveBack, pc := c.pc, pos := c.pos + (rem.takeWhile p).length, outermost := c.outer, count := ((rem.takeWhile p).length : Int), kept := keepOf c c.inner.isSome } (c.pc + 1 + skip) (c.pos + (rem.takeWhile p).length) c.outer) none 1 := .one fun sn => by
  have hsz : e.text.size = pre.length + rem.length := by rw [← Array.length_toList, ht]; simp
  have htk : (rem.takeWhile p).length ≤ rem.length := (List.takeWhile_sublist _).length_le
  obtain ⟨s1, hr⟩ := run_ok (text := e.text) ha rem pre 0 ((sn.add 24).add (e.code.getD (c.pc + 4) 0)) ht
  refine ⟨s1, ?_⟩
  rw [step_exec hpc]
  unfold M.exec
  have e1 : ¬ ((least : Int) > ((e.text.size : Nat) : Int) - (c.pos : Int)) := by (clear hr hw hs ht h3 h2 h1 h0 hpc; first | lia | omega)
  have e2 : min 4294967295 (((e.text.size : Nat) : Int) - (c.pos : Int)).toNat = rem.length := by
    rw [hsz, hp, Int.toNat_sub, Nat.add_sub_cancel_left]
    exact Nat.min_eq_right (Nat.le_trans (Nat.le_trans (Nat.le_add_left _ _) (Nat.le_of_eq hsz.symm)) (Nat.le_trans hs (by decide)))
  have e3 : ¬ ((rem.takeWhile p).length < least) := by (clear e2 e1 hr htk hsz hw hs hp ht h3 h2 h1 h0 hpc; exact Nat.not_lt_of_le (by assumption))
  simp only [M.word, mk, Nat.add_zero, h0, show ops[24]? = some Op.REPEAT_ONE from rfl, h2, h3, e1, if_false, e2, Bool.false_eq_true]
  rw [hp, hr]
  simp only [Nat.zero_add, e3, if_false]
  unfold M.afterRun
  have hk : (keepOf c c.inner.isSome).marks.size ≤ c.marks.size := by
    unfold keepOf; dsimp only; split
    · rw [Array.size_extract]; (clear e3 e2 e1 hr htk hsz hw hn hs hp ht h3 h2 h1 h0 hpc; first | lia | omega)
    · simp
  have := attempt_eq (e := e) (c := { c with pos := pre.length + (rem.takeWhile p).length }) (sn := s1) (f := { wait := .giveBack, pc := c.pc, pos := pre.length + (rem.takeWhile p).length, outermost := c.outer, count := ((rem.takeWhile p).length : Int), kept := keepOf c c.inner.isSome })
    (target := c.pc + 1 + skip) («from» := pre.length + (rem.takeWhile p).length) (outer := c.outer) (by simp only [wt]; (clear e3 e2 e1 hr htk hsz hn hs hp ht h3 h2 h1 h0 hpc; first | lia | omega))
  refine Eq.trans ?_ this
  simp only [mk, M.frame, M.word, h1, M.keep, keepOf]

theorem r_repeat_no {p : Nat → Bool} {least : Nat} {pre rem : List Nat} (hpc : c.pc < e.code.size) (h0 : e.code.getD c.pc 0 = 24) (h2 : e.code.getD (c.pc + 2) 0 = least) (h3 : e.code.getD (c.pc + 3) 0 = 4294967295)
    (ha : Acc e.code (c.pc + 4) p) (ht : e.text.toList = pre ++ rem) (hp : c.pos = pre.length) (hs : e.text.size ≤ 16777216) (hn : (rem.takeWhile p).length < least) : R e c none c (some false) 1 := .one fun sn => by
  have hsz : e.text.size = pre.length + rem.length := by rw [← Array.length_toList, ht]; simp
  by_cases hroom : (least : Int) > ((e.text.size : Nat) : Int) - (c.pos : Int)
  · refine ⟨sn.add 24, ?_⟩
    rw [step_exec hpc]
    unfold M.exec
    simp only [M.word, mk, Nat.add_zero, h0, show ops[24]? = some Op.REPEAT_ONE from rfl, h2, hroom, if_true, M.say]
  · obtain ⟨s1, hr⟩ := run_ok (text := e.text) ha rem pre 0 ((sn.add 24).add (e.code.getD (c.pc + 4) 0)) ht
    refine ⟨s1, ?_⟩
    rw [step_exec hpc]
    unfold M.exec
    have e2 : min 4294967295 (((e.text.size : Nat) : Int) - (c.pos : Int)).toNat = rem.length := by
      rw [hsz, hp, Int.toNat_sub, Nat.add_sub_cancel_left]
      exact Nat.min_eq_right (Nat.le_trans (Nat.le_trans (Nat.le_add_left _ _) (Nat.le_of_eq hsz.symm)) (Nat.le_trans hs (by decide)))
    simp only [M.word, mk, Nat.add_zero, h0, show ops[24]? = some Op.REPEAT_ONE from rfl, h2, h3, hroom, if_false, e2, Bool.false_eq_true]
    rw [hp, hr]
    simp only [Nat.zero_add, hn, if_true, M.say]

variable {f : Sre.Frame} {fs : List Sre.Frame}
noncomputable def popC (c : C) (f : Sre.Frame) (fs : List Sre.Frame) : C := { c with frames := fs, pc := f.pc, pos := f.pos, outer := f.outermost }

theorem b_give_yes (hf : c.frames = f :: fs) (hw : f.wait = .giveBack) : R e c (some true) (popC c f fs) (some true) 1 := .one fun sn => by
  refine ⟨sn, ?_⟩
  rw [step_back hf]
  unfold M.resume
  simp only [hw, if_true, mk, M.say, popC]
theorem b_give_end {least : Nat} (hf : c.frames = f :: fs) (hw : f.wait = .giveBack) (h2 : e.code.getD (f.pc + 2) 0 = least) (hc : f.count - 1 < least) : R e c (some false) (putBackC (popC c f fs) f.kept) (some false) 1 := .one fun sn => by
  refine ⟨sn, ?_⟩
  rw [step_back hf]
  unfold M.resume
  simp only [hw, Bool.false_eq_true, if_false, mk, M.word, h2, hc, if_true, M.say, M.putBack, putBackC, popC]
theorem b_give {least skip : Nat} (hf : c.frames = f :: fs) (hw : f.wait = .giveBack) (h1 : e.code.getD (f.pc + 1) 0 = skip) (h2 : e.code.getD (f.pc + 2) 0 = least) (hc : ¬ (f.count - 1 < least)) (hwt : wt c.frames ≤ 16777216) :
    R e c (some false) (pushC { putBackC (popC c f fs) f.kept with pos := f.pos - 1 } { wait := .giveBack, pc := f.pc, pos := f.pos - 1, outermost := f.outermost, count := f.count - 1, kept := f.kept } (f.pc + 1 + skip) (f.pos - 1) f.outermost) none 1 := .one fun sn => by
  refine ⟨sn, ?_⟩
  rw [step_back hf]
  unfold M.resume
  have := attempt_eq (e := e) (c := { putBackC (popC c f fs) f.kept with pos := f.pos - 1 }) (sn := sn) (f := { wait := .giveBack, pc := f.pc, pos := f.pos - 1, outermost := f.outermost, count := f.count - 1, kept := f.kept })
    (target := f.pc + 1 + skip) («from» := f.pos - 1) (outer := f.outermost) (by rw [hf] at hwt; simp only [wt, putBackC, popC] at hwt ⊢; (clear hc h2 h1 hw hf; assumption))
  rw [← this]
  simp only [hw, Bool.false_eq_true, if_false, mk, M.word, h2, hc, M.afterRun, M.frame, h1, M.putBack, putBackC, popC]

theorem b_start_yes (hf : c.frames = f :: fs) (hw : f.wait = .nextStart) : R e c (some true) (popC c f fs) (some true) 1 := .one fun sn => by
  refine ⟨sn, ?_⟩
  rw [step_back hf]
  unfold M.resume
  simp only [hw, if_true, mk, M.say, popC]
noncomputable def startC (c : C) (s : Nat) (first : Bool) : C := pushC { c with start := s, pos := s, lastmark := -1, lastindex := -1 } { wait := .nextStart, pc := c.pc, pos := s, outermost := first } c.pc s first
end

theorem fin_step {e : ME} {c : C} {sn : Seen} {yes : Bool} (hf : c.frames = []) : (mk e c sn (some yes)).step = { mk e c sn (some yes) with outcome := some (if yes then .matched else .failed) } := by
  unfold M.step
  simp only [mk, Option.isSome_none, Bool.false_eq_true, if_false, hf]

theorem fin_reach {e : ME} {c c' : C} {a : Option Bool} {yes : Bool} {n : Nat} (h : R e c a c' (some yes) n) (hf : c'.frames = []) (sn : Seen) :
    ∃ sn', Reach (mk e c sn a) { mk e c' sn' (some yes) with outcome := some (if yes then .matched else .failed) } (n + 1) :=
  by obtain ⟨s1, r1⟩ := h sn; exact ⟨s1, r1.trans (.one rfl (fin_step hf))⟩
end Mine

set_option maxRecDepth 100000
set_option Elab.async false
set_option linter.unusedVariables false
namespace Mine
open PySem PySem.Sre

noncomputable def tokCode : Array Nat := #[14, 4, 0, 1, 4294967295, 24, 16, 1, 4294967295, 13, 11, 9, 0, 67071226, 3355443198, 1476395007, 0, 0, 0, 0, 0, 1, 1]

noncomputable def isTok (c : Nat) : Bool := c == 33 || (35 ≤ c && c ≤ 39) || c == 42 || c == 43 || c == 45 || c == 46 || (48 ≤ c && c ≤ 57) || (65 ≤ c && c ≤ 90) || (94 ≤ c && c ≤ 122) || c == 124 || c == 126

theorem tok_bits : ∀ c, c < 256 → (tokCode.getD (11 + (1 + c / 32)) 0).testBit (c % 32) = isTok c := by decide +kernel
theorem tok_big {c : Nat} (h : ¬ c < 256) : isTok c = false := by
  have h1 : ∀ k, Nat.ble (k + 1) 256 = true → (c == k) = false := fun k hk => beq_false_of_ne fun q => h (q ▸ Nat.le_of_ble_eq_true hk)
  have h2 : ∀ k, Nat.ble (k + 1) 256 = true → decide (c ≤ k) = false := fun k hk => decide_eq_false fun q => h (Nat.lt_of_le_of_lt q (Nat.le_of_ble_eq_true hk))
  unfold isTok
  rw [h1 33 rfl, h2 39 rfl, h1 42 rfl, h1 43 rfl, h1 45 rfl, h1 46 rfl, h2 57 rfl, h2 90 rfl, h2 122 rfl, h1 124 rfl, h1 126 rfl]
  simp only [Bool.and_false, Bool.or_self]

theorem acc_tok : Acc tokCode 9 isTok := fun ch sn => by
  by_cases h : (decide (ch < 256) && (tokCode.getD (11 + (1 + ch / 32)) 0).testBit (ch % 32)) = true
  · refine ⟨sn.add 9, ?_⟩
    have : isTok ch = true := by
      simp only [Bool.and_eq_true, decide_eq_true_eq] at h
      rw [← tok_bits ch h.1]; exact h.2
    rw [this]
    show Sre.inSet tokCode ch (22 + 1) 11 true sn = _
    rw [Sre.inSet]
    show (if (decide (ch < 256) && (tokCode.getD (11 + (1 + ch / 32)) 0).testBit (ch % 32)) = true then Except.ok (true, sn.add 9) else Sre.inSet tokCode ch 22 20 true (sn.add 9)) = _
    rw [if_pos h]
  · refine ⟨(sn.add 9).add 0, ?_⟩
    have : isTok ch = false := by
      by_cases h2 : ch < 256
      · simp only [h2, decide_true, Bool.true_and, tok_bits ch h2] at h; simpa using h
      · exact tok_big h2
    rw [this]
    show Sre.inSet tokCode ch (22 + 1) 11 true sn = _
    rw [Sre.inSet]
    show (if (decide (ch < 256) && (tokCode.getD (11 + (1 + ch / 32)) 0).testBit (ch % 32)) = true then Except.ok (true, sn.add 9) else Sre.inSet tokCode ch 22 20 true (sn.add 9)) = _
    rw [if_neg h]
    rfl

theorem takeWhile_all {p : Nat → Bool} : ∀ (l : List Nat), (l.takeWhile p).length = l.length ↔ l.all p = true
  | [] => by simp
  | x :: l => by
    cases hp : p x with
    | true => rw [List.takeWhile_cons_of_pos hp]; simp [hp, takeWhile_all l]
    | false => rw [List.takeWhile_cons_of_neg (by rw [hp]; exact Bool.false_ne_true)]; simp [hp]

noncomputable def tokS (k : Nat) : C := { pc := 22, pos := k, handed := k, start := 0, frames := [{ wait := .giveBack, pc := 5, pos := k, outermost := true, count := (k : Int), kept := {} }] }
theorem tok_back {t : Array Nat} : ∀ k, 1 ≤ k → k < t.size → ∃ c, c.frames = [] ∧ R ⟨tokCode, t, 0, true⟩ (tokS k) none c (some false) (2 * k)
  | 0, h, _ => by exact absurd (by assumption) (Nat.lt_irrefl _)
  | 1, _, hk => by
    refine ⟨_, ?_, (r_success_no (c := tokS 1) (by show (22 : Nat) < 23; decide) rfl ?_).trans (b_give_end (least := 1) (c := tokS 1) rfl rfl rfl (by decide))⟩
    · rfl
    · have : ((1 : Nat) != t.size) = true := by simp; exact Nat.ne_of_lt (by assumption)
      simp [tokS, this]
  | k + 2, _, hk => by
    obtain ⟨c, hc, hr⟩ := tok_back (t := t) (k + 1) (by (clear hk; exact Nat.le_add_left _ _)) (by exact Nat.le_of_lt (by assumption))
    refine ⟨c, hc, ?_⟩
    have h1 := r_success_no (e := ⟨tokCode, t, 0, true⟩) (c := tokS (k + 2)) (by show (22 : Nat) < 23; decide) rfl (by
      have : ((k + 2 : Nat) != t.size) = true := by simp; (clear hc; exact Nat.ne_of_lt (by assumption))
      simp [tokS, this])
    have h2 := b_give (e := ⟨tokCode, t, 0, true⟩) (least := 1) (skip := 16) (c := tokS (k + 2)) rfl rfl rfl rfl (by show ¬ (((k + 2 : Nat) : Int) - 1 < 1); (clear hc hk; first | lia | omega)) (by show wt _ ≤ _; simp [tokS, wt])
    have h3 : R ⟨tokCode, t, 0, true⟩ (tokS (k + 2)) none (tokS (k + 1)) none 2 := by
      have := h1.trans h2
      refine cast ?_ this
      congr 1
      simp only [pushC, putBackC, popC, tokS]
      congr 2
      show _ = _
      congr 1
      (clear hc hk; first | lia | omega)
    exact (h3.trans hr).le (by (clear hc hk; first | lia | omega))

theorem forMatch_tok (t : Array Nat) (h : t.size ≠ 0) : ∃ sn, forMatch tokCode t 0 0 t.size true false = mk ⟨tokCode, t, 0, true⟩ { pc := 5, pos := 0, handed := 0, start := 0 } sn none := by
  refine ⟨({} : Seen).add 14, ?_⟩
  show (if (((1 : Nat) != 0) && decide ((0 : Nat) ≤ t.size) && decide (t.size - 0 < 1)) = true then _ else _) = _
  rw [if_neg]
  · rfl
  · intro q; simp only [Bool.and_eq_true, decide_eq_true_eq] at q; first | lia | omega
theorem forMatch_tok0 (t : Array Nat) (h : t.size = 0) : ∃ sn, forMatch tokCode t 0 0 t.size true false = mk ⟨tokCode, t, 0, true⟩ { pc := 5, pos := 0, handed := 0, start := 0 } sn (some false) := by
  refine ⟨({} : Seen).add 14, ?_⟩
  show (if (((1 : Nat) != 0) && decide ((0 : Nat) ≤ t.size) && decide (t.size - 0 < 1)) = true then _ else _) = _
  rw [if_pos]
  · rfl
  · simp only [Bool.and_eq_true, decide_eq_true_eq]; exact ⟨⟨rfl, by (clear h; exact Nat.zero_le _)⟩, by first | lia | omega⟩

noncomputable def tokB (t : Array Nat) : Bool := t.size != 0 && t.toList.all isTok

theorem tok_full (t : Array Nat) (ht : t.size ≤ 16777216) : ∃ m' n, Reach (forMatch tokCode t 0 0 t.size true false) m' n ∧ n < 2 ^ 65 ∧ m'.outcome = some (if tokB t then .matched else .failed) ∧ (tokB t = true → m'.lastmark = -1 ∧ m'.lastindex = -1) := by
  by_cases h0 : t.size = 0
  · obtain ⟨sn, e⟩ := forMatch_tok0 t h0
    rw [e]
    obtain ⟨s1, r⟩ := fin_reach (e := ⟨tokCode, t, 0, true⟩) (c := { pc := 5, pos := 0, handed := 0, start := 0 }) (n := 0) (yes := false) R.refl rfl sn
    have hb : tokB t = false := by simp [tokB, h0]
    exact ⟨_, _, r, by decide, by rw [hb], fun q => by rw [hb] at q; cases q⟩
  · obtain ⟨sn, e⟩ := forMatch_tok t h0
    rw [e]
    have hlen : t.toList.length = t.size := Array.length_toList
    by_cases hn : 1 ≤ (t.toList.takeWhile isTok).length
    · have hle : (t.toList.takeWhile isTok).length ≤ t.toList.length := (List.takeWhile_sublist _).length_le
      have h1 := r_repeat (e := ⟨tokCode, t, 0, true⟩) (c := { pc := 5, pos := 0, handed := 0, start := 0 }) (p := isTok) (least := 1) (skip := 16) (pre := []) (rem := t.toList) (by show (5 : Nat) < 23; decide) rfl rfl rfl rfl acc_tok rfl rfl ht hn (by decide)
      have h2 : R ⟨tokCode, t, 0, true⟩ { pc := 5, pos := 0, handed := 0, start := 0 } none (tokS (t.toList.takeWhile isTok).length) none 1 := by
        refine cast ?_ h1
        congr 1
        simp only [pushC, tokS, keepOf, Nat.zero_add]
        rfl
      by_cases hall : (t.toList.takeWhile isTok).length = t.size
      · have h3 := r_success (e := ⟨tokCode, t, 0, true⟩) (c := tokS (t.toList.takeWhile isTok).length) (by show (22 : Nat) < 23; decide) rfl (by simp [tokS, hall])
        have h4 := b_give_yes (e := ⟨tokCode, t, 0, true⟩) (c := { tokS (t.toList.takeWhile isTok).length with handed := (tokS (t.toList.takeWhile isTok).length).pos }) rfl rfl
        obtain ⟨s1, r⟩ := fin_reach ((h2.trans h3).trans h4) rfl sn
        have hb : tokB t = true := by
          simp only [tokB, Bool.and_eq_true, bne_iff_ne, ne_eq, h0, not_false_iff, true_and]
          exact (takeWhile_all _).mp (by rw [hall, hlen])
        exact ⟨_, _, r, by decide, by rw [hb], fun _ => ⟨rfl, rfl⟩⟩
      · obtain ⟨c, hc, hr⟩ := tok_back (t := t) (t.toList.takeWhile isTok).length hn (by (clear hn e h0 ht; first | lia | omega))
        obtain ⟨s1, r⟩ := fin_reach (h2.trans hr) hc sn
        have hb : tokB t = false := by
          cases q : tokB t with
          | false => rfl
          | true =>
            simp only [tokB, Bool.and_eq_true] at q
            exact absurd ((takeWhile_all _).mpr q.2) (by rw [hlen]; exact hall)
        exact ⟨_, _, r, by (clear hb hc hall hn e h0; first | lia | omega), by rw [hb], fun q => by rw [hb] at q; cases q⟩
    · have h1 := r_repeat_no (e := ⟨tokCode, t, 0, true⟩) (c := { pc := 5, pos := 0, handed := 0, start := 0 }) (p := isTok) (least := 1) (pre := []) (rem := t.toList) (by show (5 : Nat) < 23; decide) rfl rfl rfl acc_tok rfl rfl ht (by (clear hlen e h0 ht; exact Nat.lt_of_not_le (by assumption)))
      obtain ⟨s1, r⟩ := fin_reach h1 rfl sn
      have hb : tokB t = false := by
        cases q : tokB t with
        | false => rfl
        | true =>
          simp only [tokB, Bool.and_eq_true] at q
          have := (takeWhile_all _).mpr q.2
          (clear q e ht; first | lia | omega)
      exact ⟨_, _, r, by decide, by rw [hb], fun q => by rw [hb] at q; cases q⟩
end Mine

set_option maxRecDepth 100000
set_option Elab.async false
set_option linter.unusedVariables false
namespace Mine
open PySem PySem.Sre

noncomputable def escCode : Array Nat := #[14, 9, 4, 1, 1, 16, 34, 16, 92, 0, 17, 0, 13, 6, 16, 34, 16, 92, 0, 17, 1, 1]
noncomputable def isEsc (c : Nat) : Bool := c == 34 || c == 92

theorem esc_set (i : Nat) (hi : i = 5 ∨ i = 14) (ch : Nat) (sn : Seen) : ∃ sn', Sre.inSet escCode ch 22 i true sn = .ok (isEsc ch, sn') := by
  have h1 : ops[(16 : Nat)]? = some Op.LITERAL := rfl
  have h2 : ops[(0 : Nat)]? = some Op.FAILURE := rfl
  unfold isEsc
  by_cases ha : ch = 34
  · subst ha
    refine ⟨sn.add 16, ?_⟩
    rcases hi with rfl | rfl <;> rfl
  · have ha' : (ch == 34) = false := by simpa using ha
    by_cases hb : ch = 92
    · subst hb
      refine ⟨(sn.add 16).add 16, ?_⟩
      rcases hi with rfl | rfl <;> rfl
    · have hb' : (ch == 92) = false := by simpa using hb
      refine ⟨((sn.add 16).add 16).add 0, ?_⟩
      rcases hi with rfl | rfl
      · rw [Sre.inSet]
        show (if (ch == 34) = true then _ else Sre.inSet escCode ch 21 7 true (sn.add 16)) = _
        rw [ha', if_neg Bool.false_ne_true, Sre.inSet]
        show (if (ch == 92) = true then _ else Sre.inSet escCode ch 20 9 true ((sn.add 16).add 16)) = _
        rw [hb', if_neg Bool.false_ne_true]; rfl
      · rw [Sre.inSet]
        show (if (ch == 34) = true then _ else Sre.inSet escCode ch 21 16 true (sn.add 16)) = _
        rw [ha', if_neg Bool.false_ne_true, Sre.inSet]
        show (if (ch == 92) = true then _ else Sre.inSet escCode ch 20 18 true ((sn.add 16).add 16)) = _
        rw [hb', if_neg Bool.false_ne_true]; rfl

theorem acc_esc : Acc escCode 12 isEsc := fun ch sn => esc_set 14 (.inr rfl) ch sn

theorem esc_admitted {m : M} (hc : m.code = escCode) (hl : m.lim = m.text.size) : ∀ (mid pre : List Nat) (fuel : Nat) (sn : Seen), (∀ x ∈ mid, isEsc x = false) → mid.length < fuel →
    (∀ ch post, m.text.toList = pre ++ mid ++ ch :: post → isEsc ch = true → ∃ sn', M.admitted m fuel pre.length sn = .ok (some (pre.length + mid.length), sn')) ∧
    (m.text.toList = pre ++ mid → ∃ sn', M.admitted m fuel pre.length sn = .ok (none, sn'))
  | [], pre, fuel + 1, sn, _, hf => by
    constructor
    · intro ch post e he
      have hsz : m.text.size = pre.length + (post.length + 1) := by rw [← Array.length_toList, e]; simp
      have hx : m.text.getD pre.length 0 = ch := by rw [Array.getD_eq_getD_getElem?, ← Array.getElem?_toList, e]; simp
      obtain ⟨s1, h1⟩ := esc_set 5 (.inl rfl) ch sn
      refine ⟨s1, ?_⟩
      rw [M.admitted, if_neg (by rw [hl]; (clear h1 hx he e hf hl hc; first | lia | omega)), hx, hc]
      rw [show escCode.size = 22 from rfl, h1, he]; rfl
    · intro e
      have hsz : m.text.size = pre.length := by rw [← Array.length_toList, e]; simp
      refine ⟨sn, ?_⟩
      rw [M.admitted, if_pos (by rw [hl]; (clear e hf hl hc; first | lia | omega))]
  | x :: mid, pre, fuel + 1, sn, hm, hf => by
    have hsz : ∀ r, m.text.toList = pre ++ (x :: mid) ++ r → m.text.size = pre.length + (mid.length + 1) + r.length ∧ m.text.getD pre.length 0 = x := fun r e =>
      ⟨by rw [← Array.length_toList, e]; simp; (clear e hf hm hl hc; simp only [Nat.add_assoc, Nat.add_comm, Nat.add_left_comm]), by rw [Array.getD_eq_getD_getElem?, ← Array.getElem?_toList, e]; simp⟩
    obtain ⟨s1, h1⟩ := esc_set 5 (.inl rfl) x sn
    have hxx := hm x (.head _)
    have ih := esc_admitted hc hl mid (pre ++ [x]) fuel s1 (fun y hy => hm y (.tail _ hy)) (by simp at hf; (clear hxx h1 hsz hm hl hc; assumption))
    have stp : ∀ r, m.text.toList = pre ++ (x :: mid) ++ r → M.admitted m (fuel + 1) pre.length sn = M.admitted m fuel (pre ++ [x]).length s1 := fun r e => by
      obtain ⟨hs, hx⟩ := hsz r e
      rw [M.admitted, if_neg (by rw [hl]; (clear hx e ih hxx h1 hsz hf hm hl hc; first | lia | omega)), hx, hc]
      rw [show escCode.size = 22 from rfl, h1, hxx]
      simp only [List.length_append, List.length_cons, List.length_nil, Nat.zero_add]
    constructor
    · intro ch post e he
      obtain ⟨s2, h2⟩ := ih.1 ch post (by rw [e]; simp) he
      refine ⟨s2, ?_⟩
      rw [stp (ch :: post) e, h2]
      congr 3
      simp; (clear h2 he e stp ih hxx h1 hsz hf hm hl hc; exact Nat.add_right_comm _ _ _)
    · intro e
      obtain ⟨s2, h2⟩ := ih.2 (by rw [e]; simp)
      exact ⟨s2, by rw [stp [] (by rw [e]; simp), h2]⟩

theorem esc_hasFirst {m : M} (hc : m.code = escCode) : m.hasFirstSet = true := by unfold M.hasFirstSet; rw [hc]; rfl

noncomputable def escC0 (pos : Nat) (must : Bool) : C := { pc := 10, pos := pos, handed := pos, start := pos, must := must, marks := #[none, none] }
theorem forSearch_esc (t : Array Nat) (pos : Nat) (must : Bool) (h : pos < t.size) : ∃ sn, forSearch escCode t 1 pos t.size must = (mk ⟨escCode, t, t.size, false⟩ (escC0 pos must) sn none).attemptFrom pos true := by
  refine ⟨({} : Seen).add 14, ?_⟩
  show (if (decide (pos > t.size) || decide (t.size - pos < 1)) = true then _ else _) = _
  rw [if_neg]
  · rfl
  · intro q; simp only [Bool.or_eq_true, decide_eq_true_eq] at q; first | lia | omega
theorem forSearch_esc0 (t : Array Nat) (pos : Nat) (must : Bool) (h : ¬ pos < t.size) : ∃ sn, forSearch escCode t 1 pos t.size must = mk ⟨escCode, t, 0, false⟩ (escC0 pos must) sn (some false) := by
  refine ⟨({} : Seen).add 14, ?_⟩
  show (if (decide (pos > t.size) || decide (t.size - pos < 1)) = true then _ else _) = _
  rw [if_pos]
  · rfl
  · simp only [Bool.or_eq_true, decide_eq_true_eq]; first | lia | omega

theorem esc_found {t : Array Nat} {pre mid post : List Nat} {ch : Nat} {must : Bool} (ht : t.toList = pre ++ mid ++ ch :: post) (hm : ∀ x ∈ mid, isEsc x = false) (he : isEsc ch = true) :
    ∃ m' n, Reach (forSearch escCode t 1 pre.length t.size must) m' n ∧ n < 2 ^ 65 ∧ m'.outcome = some .matched ∧ m'.start = pre.length + mid.length ∧ m'.handed = pre.length + mid.length + 1 ∧
      m'.marks = #[some (pre.length + mid.length), some (pre.length + mid.length + 1)] ∧ m'.lastmark = 1 ∧ m'.lastindex = 1 := by
  have hsz : t.size = pre.length + mid.length + (post.length + 1) := by rw [← Array.length_toList, ht]; simp; (clear he hm ht; exact (Nat.add_assoc _ _ _).symm)
  obtain ⟨sn, e⟩ := forSearch_esc t pre.length must (by (clear he hm ht; first | lia | omega))
  rw [e]
  obtain ⟨s1, ha⟩ := (esc_admitted (m := mk ⟨escCode, t, t.size, false⟩ (escC0 pre.length must) sn none) rfl rfl mid pre (t.size + 1 - pre.length) sn hm (by (clear e he hm ht; first | lia | omega))).1 ch post ht he
  have hfrom : (mk ⟨escCode, t, t.size, false⟩ (escC0 pre.length must) sn none).attemptFrom pre.length true = mk ⟨escCode, t, t.size, false⟩ (startC { escC0 pre.length must with must := false } (pre.length + mid.length) true) s1 none := by
    unfold M.attemptFrom
    rw [if_neg (by rw [esc_hasFirst rfl]; simp)]
    change (match M.admitted (mk ⟨escCode, t, t.size, false⟩ (escC0 pre.length must) sn none) (t.size + 1 - pre.length) pre.length sn with
      | .ok (some s, seen) => _
      | .ok (none, seen) => _
      | .error why => _) = _
    rw [ha]
    exact attempt_eq (e := ⟨escCode, t, t.size, false⟩) (c := { escC0 pre.length must with must := false, start := pre.length + mid.length, pos := pre.length + mid.length, lastmark := -1, lastindex := -1 }) (by show 1 + 0 + 0 ≤ 16777216; (clear ha e hsz he hm ht; exact Nat.le_add_left _ _))
  rw [hfrom]
  have hx : t.getD (pre.length + mid.length) 0 = ch := by
    rw [Array.getD_eq_getD_getElem?, ← Array.getElem?_toList, ht, ← List.length_append]; simp
  have r1 := r_mark (e := ⟨escCode, t, t.size, false⟩) (c := startC { escC0 pre.length must with must := false } (pre.length + mid.length) true) (i := 0) (by show (10 : Nat) < 22; decide) rfl rfl (Int.le_refl _)
  have r2 := r_item (e := ⟨escCode, t, t.size, false⟩) (c := { startC { escC0 pre.length must with must := false } (pre.length + mid.length) true with marks := #[some (pre.length + mid.length), none], lastmark := 0, lastindex := -1, pc := 12 }) (p := isEsc) (wd := 7)
    (by show (12 : Nat) < 22; decide) (.inl rfl) (by show pre.length + mid.length < t.size; (clear hx hfrom ha e he hm ht; first | lia | omega)) acc_esc (by show isEsc (t.getD (pre.length + mid.length) 0) = true; rw [hx]; exact he) rfl
  have r3 := r_mark (e := ⟨escCode, t, t.size, false⟩) (c := { startC { escC0 pre.length must with must := false } (pre.length + mid.length) true with marks := #[some (pre.length + mid.length), none], lastmark := 0, lastindex := -1, pc := 19, pos := pre.length + mid.length + 1 }) (i := 1)
    (by show (19 : Nat) < 22; decide) rfl rfl (Int.le_refl _)
  have r4 := r_success (e := ⟨escCode, t, t.size, false⟩) (c := { startC { escC0 pre.length must with must := false } (pre.length + mid.length) true with marks := #[some (pre.length + mid.length), some (pre.length + mid.length + 1)], lastmark := 1, lastindex := 1, pc := 21, pos := pre.length + mid.length + 1 })
    (by show (21 : Nat) < 22; decide) rfl (by simp [startC, pushC])
  have r5 := b_start_yes (e := ⟨escCode, t, t.size, false⟩) (c := { startC { escC0 pre.length must with must := false } (pre.length + mid.length) true with marks := #[some (pre.length + mid.length), some (pre.length + mid.length + 1)], lastmark := 1, lastindex := 1, pc := 21, pos := pre.length + mid.length + 1, handed := pre.length + mid.length + 1 }) rfl rfl
  obtain ⟨s2, r⟩ := fin_reach ((((r1.trans r2).trans r3).trans r4).trans r5) rfl s1
  exact ⟨_, _, r, by decide, rfl, rfl, rfl, rfl, rfl, rfl⟩

theorem esc_none {t : Array Nat} {pre mid : List Nat} {must : Bool} (ht : t.toList = pre ++ mid) (hm : ∀ x ∈ mid, isEsc x = false) :
    ∃ m' n, Reach (forSearch escCode t 1 pre.length t.size must) m' n ∧ n < 2 ^ 65 ∧ m'.outcome = some .failed := by
  have hsz : t.size = pre.length + mid.length := by rw [← Array.length_toList, ht]; simp
  by_cases h : pre.length < t.size
  · obtain ⟨sn, e⟩ := forSearch_esc t pre.length must h
    rw [e]
    obtain ⟨s1, ha⟩ := (esc_admitted (m := mk ⟨escCode, t, t.size, false⟩ (escC0 pre.length must) sn none) rfl rfl mid pre (t.size + 1 - pre.length) sn hm (by (clear e h hm ht; first | lia | omega))).2 ht
    have hfrom : (mk ⟨escCode, t, t.size, false⟩ (escC0 pre.length must) sn none).attemptFrom pre.length true = mk ⟨escCode, t, t.size, false⟩ (escC0 pre.length must) s1 (some false) := by
      unfold M.attemptFrom
      rw [if_neg (by rw [esc_hasFirst rfl]; simp)]
      change (match M.admitted (mk ⟨escCode, t, t.size, false⟩ (escC0 pre.length must) sn none) (t.size + 1 - pre.length) pre.length sn with
        | .ok (some s, seen) => _
        | .ok (none, seen) => _
        | .error why => _) = _
      rw [ha]; rfl
    rw [hfrom]
    obtain ⟨s2, r⟩ := fin_reach (e := ⟨escCode, t, t.size, false⟩) (c := escC0 pre.length must) (n := 0) (yes := false) R.refl rfl s1
    exact ⟨_, _, r, by decide, rfl⟩
  · obtain ⟨sn, e⟩ := forSearch_esc0 t pre.length must h
    rw [e]
    obtain ⟨s2, r⟩ := fin_reach (e := ⟨escCode, t, 0, false⟩) (c := escC0 pre.length must) (n := 0) (yes := false) R.refl rfl sn
    exact ⟨_, _, r, by decide, rfl⟩
end Mine

set_option maxRecDepth 100000
set_option Elab.async false
set_option linter.unusedVariables false
namespace Mine
open PySem PyProof.Rows

structure TyV (G : Gl) (L : Addr) (v : V) (st : St) (T : String) : Prop where
  run : ∀ K Z w s, Sim G K Z L st s → VR Z v w → s.TypeIs w T ∧ ∀ a, w = .ref a → ∃ ob, s.heap.get? a = some ob ∧ ob.dict = none
structure CB (G : Gl) (A : Around) (L : Addr) (id : String) (vs : List V) (st : St) (Q : V → St → Prop) : Prop where
  run : ∀ K Z ws s, Sim G K Z L st s → VRs Z vs ws → wpAny G.M A (call (.builtin id) ws) (Post G K Z L VR Q) Nope s
structure MF (T : String) (name : Str) (id : String) : Prop where
  pa : PlainAttrs T
  slot : Slot T name id
  ty : typeOf (.builtin id) = pure (.type "method_descriptor")

section
variable {G : Gl} {A : Around} {env : Env} {st : St} {pos apos : Pos} {Q : V → St → Prop} {L : Addr}

theorem ty_str {x : Str} : TyV G L (.str x) st "str" := ⟨fun K Z w s S r => by obtain ⟨t, rfl⟩ := of_str r; exact ⟨typeIs_str _ _ _, fun _ e => nomatch e⟩⟩
theorem ty_list {a : Addr} {xs : List V} (ha : (a, xs) ∈ st.ar) : TyV G L (.list a) st "list" := ⟨fun K Z w s S r => by
  rw [of_list r]
  obtain ⟨_, _, _, ws, n, e, _⟩ := S.ar _ ha
  exact ⟨⟨_, e, rfl⟩, fun b q => by cases q; exact ⟨_, e, rfl⟩⟩⟩
theorem of_mat {Z : Zt} {x : Str} {sp : List Int} {w : Value} (h : VR Z (.mat x sp) w) : ∃ a b t pt ps lm li n, w = .ref a ∧ Z a = some { cls := .type "re.Match", dict := none, data := .fields #[.str x t, pt, ps, lm, li, .ref b], slots := #[] } ∧
      Z b = some { cls := .type "tuple", dict := none, data := .seq (sp.map rawInt).toArray n, slots := #[] } := by unfold VR at h; exact h
theorem ty_mat {x : Str} {sp : List Int} : TyV G L (.mat x sp) st "re.Match" := ⟨fun K Z w s S r => by
  obtain ⟨a, b, t, pt, ps, lm, li, n, rfl, h1, h2⟩ := of_mat r
  exact ⟨⟨_, S.zz _ _ h1, rfl⟩, fun c q => by cases q; exact ⟨_, S.zz _ _ h1, rfl⟩⟩⟩
theorem ty_base {a : Addr} {o : Obj} {T : String} (ho : G.base.get? a = some o) (hc : o.cls = .type T) (hd : o.dict = none) : TyV G L (.raw (.ref a)) st T := ⟨fun K Z w s S r => by
  rw [of_raw r]
  exact ⟨⟨_, S.base _ _ ho, hc⟩, fun b q => by cases q; exact ⟨_, S.base _ _ ho, hd⟩⟩⟩

theorem ev_meth {o e : Expr} {es : List Expr} {name : Str} (hbase : attributeBase o name env (eval o env) = eval o env) (hline : (apos.endLine == pos.line) = true)
    (hfew : ((backTo pos (starEach (e :: es) env)).all (fun x => !x.1) && (backToKw pos (keywordEach [] env)).all (fun x => x.1.isSome)
      && decide ((e :: es).length + ([] : List Keyword).length + (if ([] : List Keyword).isEmpty then 0 else 1) < 30)) = true)
    (hp : (backTo pos (starEach (e :: es) env)).any (·.1) = false) (hs : starEach (e :: es) env = (false, eval e env) :: starEach es env)
    (h : Ev G A env o st fun ov st₁ => ∃ T id, MF T name id ∧ TyV G env.locals ov st₁ T ∧ Evs G A env (e :: es) st₁ fun vs st₂ => CB G A env.locals id (ov :: vs) st₂ Q) :
    Ev G A env (.Call (.Attribute o name apos) (e :: es) [] pos) st Q := ⟨fun K Z s S => by
  refine wpAny_Call_method_lateS hbase hfew hline (h.run.use S fun Z₁ ov st₁ w s₁ z₁ S₁ r₁ hq0 => ?_)
  obtain ⟨T, id, mf, ty, h₁⟩ := hq0
  obtain ⟨hT, hd⟩ := ty.run K Z₁ w s₁ S₁ r₁
  refine ⟨T, id, mf.pa, mf.slot, mf.ty, hT, hd, PySem.Calls.callWith_builtin hp ?_⟩
  have h2 := (h₁.run pos).use (P := fun vs s' => wpAny G.M A (call (.builtin id) ([w] ++ vs) []) (Post G K Z env.locals VR Q) Nope s') S₁ fun Z₂ vs st₂ ws s₂ z₂ S₂ r₂ hc =>
    wpLe (z₁.trans z₂) (hc.run K Z₂ (w :: ws) s₂ S₂ (.cons (VR.mono z₂ _ _ r₁) r₂))
  rw [hs] at h2 ⊢
  exact PySem.Calls.evalArgs_plain h2⟩
theorem ev_bcall {x : Str} {p : Pos} {e : Expr} {es : List Expr} {id : String} (hp : (backTo pos (starEach (e :: es) env)).any (·.1) = false) (hs : starEach (e :: es) env = (false, eval e env) :: starEach es env)
    (h : Ev G A env (.Name x p) st fun v st₁ => v = .raw (.builtin id) ∧ Evs G A env (e :: es) st₁ fun vs st₂ => CB G A env.locals id vs st₂ Q) : Ev G A env (.Call (.Name x p) (e :: es) [] pos) st Q :=
  ⟨fun K Z s S => by
    show wpAny _ _ (eval (.Name x p) env >>= fun fv => callWith pos fv [] (backTo pos (starEach (e :: es) env)) []) _ _ s
    refine wpAny_bind (h.run.use S fun Z₁ v st₁ w s₁ z₁ S₁ r₁ hq2 => ?_)
    obtain ⟨hv, h₁⟩ := hq2
    subst hv
    rw [of_raw r₁]
    refine PySem.Calls.callWith_builtin hp ?_
    have h2 := (h₁.run pos).use (P := fun vs s' => wpAny G.M A (call (.builtin id) ([] ++ vs) []) (Post G K Z env.locals VR Q) Nope s') S₁ fun Z₂ vs st₂ ws s₂ z₂ S₂ r₂ hc =>
      wpLe (z₁.trans z₂) (hc.run K Z₂ ws s₂ S₂ r₂)
    rw [hs] at h2 ⊢
    exact PySem.Calls.evalArgs_plain h2⟩
end
end Mine

set_option maxRecDepth 100000
set_option Elab.async false
set_option linter.unusedVariables false
namespace Mine
open PySem PyProof.Rows PySem.Builtin.Re

structure Pat (G : Gl) (p : Addr) (code : Array Nat) (groups : Nat) : Prop where
  obj : ∃ o fs q oq items n, G.base.get? p = some o ∧ o.cls = .type "re.Pattern" ∧ o.dict = none ∧ o.data = .fields fs ∧ reRawNat (fs.getD 6 .none) = 0 ∧ reRawNat (fs.getD 2 .none) = groups ∧
    fs.getD 5 .none = .ref q ∧ G.base.get? q = some oq ∧ oq.data = .seq items n ∧ (items.map reRawOf).map (·.toNat) = code

section
variable {G : Gl} {A : Around} {E : Value → Shared → Prop} {K Z : Zt} {L : Addr} {st : St} {s : Shared} {p : Addr} {code : Array Nat} {groups : Nat} {x : Str} {t : Tok}

theorem ty_pat (P : Pat G p code groups) : TyV G L (.raw (.ref p)) st "re.Pattern" :=
  by obtain ⟨_, _, _, _, _, _, h1, h2, h3, _⟩ := P.obj; exact ty_base h1 h2 h3

theorem reNamed1 (id f : String) (v : Value) : reNamed id f ["string", "pos", "endpos"] 1 [v] [] = pure [some v, none, none] := by rfl
theorem reNamed2 (id f : String) (r v : Value) : reNamed id f ["repl", "string", "count"] 2 [r, v] [] = pure [some r, some v, none] := by rfl

theorem reTextOf_str {Q : Array Nat × Nat → Shared → Prop} (h : Q (x.cps, 0) s) : wpAny G.M A (reTextOf (.str x t)) Q E s := by
  unfold reTextOf
  exact wpAny_bind (wpAny_pure (wpAny_pure h))

theorem reRawItems_ref {q : Addr} {oq : Obj} {items : Array Value} {n : Nat} {Q : Array Int → Shared → Prop} (ho : s.heap.get? q = some oq) (hd : oq.data = .seq items n) (h : Q (items.map reRawOf) s) : wpAny G.M A (reRawItems (.ref q)) Q E s := by
  unfold reRawItems
  exact wpAny_bind (wpAny_seqItems ho hd (wpAny_pure h))

theorem reTarget_use (S : Sim G K Z L st s) (P : Pat G p code groups) (id f : String) (hx : x.length ≤ 16777216) {Q : ReTarget → Shared → Prop}
    (h : Q { pattern := .ref p, string := .str x t, code := code, text := x.cps, kind := 0, groups := groups, pos := 0, lim := x.cps.size } s) : wpAny G.M A (reTarget id f ⟨[.ref p, .str x t], []⟩) Q E s := by
  obtain ⟨o, fs, q, oq, items, n, h1, h2, h3, h4, h5, h6, h7, h8, h9, h10⟩ := P.obj
  unfold reTarget
  show wpAny G.M A (reNamed id f ["string", "pos", "endpos"] 1 [.str x t] [] >>= _) Q E s
  rw [reNamed1]
  refine wpAny_bind (wpAny_pure ?_)
  refine wpAny_bind (wpAny_pure ?_)
  refine wpAny_bind (wpAny_pure ?_)
  refine wpAny_bind (wpAny_fieldsOf (S.base _ _ h1) h4 ?_)
  refine wpAny_bind (reTextOf_str ?_)
  simp only [h5]
  show wpAny G.M A (reNoCollectionInside (.str x t) 0 >>= _) Q E s
  refine wpAny_bind (wpAny_pure ?_)
  simp only [h7]
  refine wpAny_bind (reRawItems_ref (S.base _ _ h8) h9 (wpAny_pure ?_))
  rw [h10, h6]
  have e1 : min (Int.toNat 0) x.cps.size = 0 := by simp
  have e2 : min (Int.toNat (2 ^ 63 - 1)) x.cps.size = x.cps.size := by
    have : x.cps.size ≤ 16777216 := hx
    have : Int.toNat (2 ^ 63 - 1) = 9223372036854775807 := by decide
    (clear this e1 h10 h9 h8 h7 h6 h5 h4 h3 h2 h1 hx; first | lia | omega)
  simp only [e1, e2]
  exact h

theorem reWholeTarget_use (S : Sim G K Z L st s) (P : Pat G p code groups) {Q : ReTarget → Shared → Prop}
    (h : Q { pattern := .ref p, string := .str x t, code := code, text := x.cps, kind := 0, groups := groups, pos := 0, lim := x.cps.size } s) : wpAny G.M A (reWholeTarget (.ref p) (.str x t)) Q E s := by
  obtain ⟨o, fs, q, oq, items, n, h1, h2, h3, h4, h5, h6, h7, h8, h9, h10⟩ := P.obj
  unfold reWholeTarget
  refine wpAny_bind (wpAny_fieldsOf (S.base _ _ h1) h4 ?_)
  refine wpAny_bind (reTextOf_str ?_)
  simp only [h5]
  show wpAny G.M A (reNoCollectionInside (.str x t) 0 >>= _) Q E s
  refine wpAny_bind (wpAny_pure ?_)
  simp only [h7]
  refine wpAny_bind (reRawItems_ref (S.base _ _ h8) h9 (wpAny_pure ?_))
  rw [h10, h6]
  exact h

noncomputable def matTail (p string : Value) (pos lim : Nat) (li : Int) (sp : List Int) : Sem Value := do
  newFields "re.Match" [string, p, rawInt pos, rawInt lim, rawInt li, ← newTuple (sp.map rawInt)]
theorem reNewMatch0 {pv sv : Value} {pos lim : Nat} {m : Sre.M} : reNewMatch pv sv 0 pos lim m = matTail pv sv pos lim m.lastindex [(m.start : Int), (m.handed : Int)] := rfl
theorem reNewMatch1 {pv sv : Value} {pos lim b e : Nat} {m : Sre.M} (hm : m.marks = #[some b, some e]) (hl : m.lastmark = 1) (hbe : b ≤ e) :
    reNewMatch pv sv 1 pos lim m = matTail pv sv pos lim m.lastindex [(m.start : Int), (m.handed : Int), (b : Int), (e : Int)] := by
  have h : decide (e < b) = false := by simpa using hbe
  unfold reNewMatch
  rw [hm, hl]
  show (if (decide (((2 * 0 + 1 : Nat) : Int) ≤ 1) && decide (e < b) || false) = true then _ else _) = _
  rw [h]
  rfl

theorem matTail_use (S : Sim G K Z L st s) {pos lim : Nat} {li : Int} {sp : List Int} (hl : sp.length ≤ 1000) {Q : Value → Shared → Prop}
    (h : ∀ Z' s' a, Zle Z Z' → Sim G K Z' L st s' → VR Z' (.mat x sp) (.ref a) → Q (.ref a) s') :
    wpAny G.M A (matTail (.ref p) (.str x t) pos lim li sp) Q E s := by
  unfold matTail
  refine wpAny_bind (wpAny_newObj_type ?_ (by
    show (List.map rawInt _).toArray.size ≤ sizeLine
    rw [List.size_toArray, List.length_map, sizeLine_eq]; (clear h; exact Nat.le_trans (by assumption) (by decide))))
  refine wpAny_newObj_type ?_ (by size_fits)
  have S₁ := S.push { cls := .type "tuple", data := .seq (sp.map rawInt).toArray } (tk := s.toks)
  obtain ⟨z₁, S₂⟩ := S₁.addZ (a := s.heap.objs.size) S.fresh (Heap.get?_push_size _ rfl)
  have S₃ := S₂.push { cls := .type "re.Match", data := .fields #[.str x t, .ref p, rawInt pos, rawInt lim, rawInt li, .ref s.heap.objs.size] } (tk := s.toks)
  obtain ⟨z₂, S₄⟩ := S₃.addZ (a := (s.heap.push { cls := .type "tuple", data := .seq (sp.map rawInt).toArray }).objs.size) (o := { cls := .type "re.Match", data := .fields #[.str x t, .ref p, rawInt pos, rawInt lim, rawInt li, .ref s.heap.objs.size] }) S₂.fresh
    (Heap.get?_push_size _ rfl)
  exact h _ _ _ (z₁.trans z₂) S₄ (by
    unfold VR
    exact ⟨_, s.heap.objs.size, t, _, _, _, _, 0, rfl, Zset.self, z₂ _ _ Zset.self⟩)
end

section
variable {G : Gl} {A : Around} {L : Addr} {st : St} {Q : V → St → Prop} {p : Addr}

theorem cb_fullmatch {x : Str} (P : Pat G p tokCode 0) (hx : x.length ≤ 16777216) (h : if tokB x.cps then ∀ sp, Q (.mat x sp) st else Q .none st) :
    CB G A L "re.Pattern.fullmatch" [.raw (.ref p), .str x] st Q := ⟨fun K Z ws s S r => by
  obtain ⟨w1, ws1, rfl, r1, r2⟩ := r.of_cons
  obtain ⟨w2, ws2, rfl, r3, r4⟩ := r2.of_cons
  rw [of_raw r1, r4.of_nil]
  obtain ⟨t, rfl⟩ := of_str r3
  obtain ⟨hT, _⟩ := (ty_pat (L := L) (st := st) P).run K Z _ s S vr_raw
  refine wpAny_call_entry slot_pat_fullmatch hT entry_pat_fullmatch ?_ (args_pat_fullmatch _ _)
  unfold Builtin.«re.Pattern.fullmatch»
  refine wpAny_bind (reTarget_use S P _ _ hx ?_)
  obtain ⟨m', n, hr, hn, ho, _⟩ := tok_full x.cps hx
  unfold reAnswer
  show wpAny _ _ (reRunToEnd (Sre.forMatch tokCode x.cps 0 0 x.cps.size true false) >>= _) _ _ s
  cases hb : tokB x.cps with
  | true =>
    rw [hb] at ho h
    simp only [if_true] at ho h
    refine wpAny_bind (reRun_matched hr ho hn ?_)
    show wpAny _ _ (reNewMatch (.ref p) (.str x t) 0 0 x.cps.size m' >>= _) _ _ s
    rw [reNewMatch0]
    exact wpAny_bind (matTail_use S (by simp) fun Z' s' a z S' rv => wpAny_pure ⟨_, rfl, Z', _, st, z, S', rv, h _⟩)
  | false =>
    rw [hb] at ho h
    simp only [Bool.false_eq_true, if_false] at ho h
    refine wpAny_bind (reRun_failed hr ho hn ?_)
    exact wpAny_pure ⟨_, rfl, Post.mk S vr_none h⟩⟩
end
end Mine

set_option maxRecDepth 100000
set_option Elab.async false
set_option linter.unusedVariables false
namespace Mine
open PySem PyProof.Rows PySem.Builtin.Re PySem.W

noncomputable def setA (a : Addr) (xs : List V) : List (Addr × List V) → List (Addr × List V)
  | [] => []
  | (b, ys) :: r => if b = a then (a, xs) :: r else (b, ys) :: setA a xs r

theorem setA_keys (a : Addr) (xs : List V) : ∀ ar : List (Addr × List V), (setA a xs ar).map (·.1) = ar.map (·.1)
  | [] => rfl
  | (b, ys) :: r => by
    unfold setA
    split
    · rename_i h; subst h; rfl
    · simp only [List.map_cons, setA_keys a xs r]
theorem mem_setA {a : Addr} {xs : List V} : ∀ {ar : List (Addr × List V)} {p : Addr × List V}, (ar.map (·.1)).Nodup → p ∈ setA a xs ar → (p = (a, xs) ∧ ∃ ys, (a, ys) ∈ ar) ∨ (p ∈ ar ∧ p.1 ≠ a)
  | [], p, _, h => by cases h
  | (b, ys) :: r, p, hn, h => by
    unfold setA at h
    simp only [List.map_cons, List.nodup_cons] at hn
    split at h
    · rename_i e; subst e
      rcases List.mem_cons.mp h with rfl | h
      · exact .inl ⟨rfl, ys, .head _⟩
      · exact .inr ⟨.tail _ h, fun q => hn.1 (by rw [← q]; exact List.mem_map_of_mem h)⟩
    · rename_i e
      rcases List.mem_cons.mp h with rfl | h
      · exact .inr ⟨.head _, e⟩
      · rcases mem_setA hn.2 h with ⟨h1, zs, h2⟩ | ⟨h1, h2⟩
        · exact .inl ⟨h1, zs, .tail _ h2⟩
        · exact .inr ⟨.tail _ h1, h2⟩

section
variable {G : Gl} {A : Around} {E : Value → Shared → Prop} {K Z : Zt} {L : Addr} {st : St} {s : Shared}

theorem Sim.setList (S : Sim G K Z L st s) {a : Addr} {xs xs' : List V} {ws' : List Value} {n' : Nat} {h' : Heap} {tk : Nat} (ha : (a, xs) ∈ st.ar) (hs : Heap.SameBut a s.heap h') (he : h'.get? a = some ⟨.type "list", none, .seq ws'.toArray n', #[]⟩) (r : VRs Z xs' ws') :
    Sim G K Z L ⟨st.loc, setA a xs' st.ar⟩ { s with heap := h', toks := tk } := by
  obtain ⟨g1, g2, g3, g4⟩ := S.ar _ ha
  have ne : ∀ b o, K b = some o ∨ Z b = some o → b ≠ a := by
    rintro b o (e | e) q
    · rw [q, g1] at e; cases e
    · rw [q, g2] at e; cases e
  exact {
    kk := fun b o e => (hs.2 b (ne b o (.inl e))).trans (S.kk b o e)
    zz := fun b o e => (hs.2 b (ne b o (.inr e))).trans (S.zz b o e)
    kz := S.kz
    bz := S.bz
    ns := by obtain ⟨m, h1, h2⟩ := S.ns; exact ⟨m, h1.sameBut hs (Ne.symm g3), h2⟩
    kL := S.kL
    zL := S.zL
    ar := fun p hp => by
      rcases mem_setA S.nd hp with ⟨rfl, ys, h1⟩ | ⟨h1, h2⟩
      · exact ⟨g1, g2, g3, ws', n', he, r⟩
      · obtain ⟨k1, k2, k3, ws, n, k4, k5⟩ := S.ar p h1
        exact ⟨k1, k2, k3, ws, n, (hs.2 p.1 h2).trans k4, k5⟩
    nd := by show ((setA a xs' st.ar).map (·.1)).Nodup; rw [setA_keys]; exact S.nd
    tb := fun t ht => by
      obtain ⟨k1, k2, k3, k4, ps, k5, k6⟩ := S.tb t ht
      refine ⟨k1, k2, k3, fun p hp => ?_, ps, (hs.2 t.P (Ne.symm (k4 _ ha))).trans k5, k6⟩
      rcases mem_setA S.nd hp with ⟨rfl, ys, h1⟩ | ⟨h1, h2⟩
      · exact (k4 (a, xs) ha :)
      · exact k4 _ h1
    gens := S.gens
    os := S.os
    cl := S.cl }

theorem Sim.push1 (S : Sim G K Z L st s) {a : Addr} {xs : List V} {v : V} {w : Value} (ha : (a, xs) ∈ st.ar) (r : VR Z v w) (hl : xs.length ≤ 16777215) {Q : Unit → Shared → Prop}
    (h : ∀ s', Sim G K Z L ⟨st.loc, setA a (xs ++ [v]) st.ar⟩ s' → Q () s') : wpAny G.M A (updateSeq a (·.push w)) Q E s := by
  obtain ⟨_, _, _, ws, n, e, rs⟩ := S.ar _ ha
  have hl' : ws.length ≤ 16777215 := by rw [rs.length]; exact hl
  refine wpAny_updateSeq e rfl (h _ ?_) (by rw [List.size_toArray, sizeLine_eq]; (clear e h hl; exact Nat.le_trans (by assumption) (by decide))) (by rw [Array.size_push, List.size_toArray, sizeLine_eq]; (clear e h hl; exact Nat.lt_of_le_of_lt (by assumption) (by decide)))
  refine S.setList (ws' := ws ++ [w]) (n' := n + 1) (tk := s.toks) ha (Heap.SameBut.update ..) ?_ (rs.append (.cons r .nil))
  rw [Heap.get?_update_self _ e rfl]
  simp [Obj.mapSeq]
end

structure LamSite (G : Gl) (env : Env) (params : Arguments) (body : Expr) (scope : Scope) (lpos : Pos) (mn : Str) : Prop where
  cd : ∃ c t, env.code = .ref c ∧ CodeHd G.base c t.P ∧ t ∈ G.tabs ∧ t.pos.line = lpos.line ∧ t.pos.col = lpos.col ∧ t.qual = env.qual ++ Str.ofString "<lambda>"
  df : defaultsOf params env = ([], [])
  cl : closureFor scope env = pure []
  gl : env.globals = mainGlobals
  bind : ∀ qual pm c' ctv v, bindArgs (kla_fn (Str.ofString "<lambda>") qual params body scope [] pm c' ctv) ⟨[v], []⟩ = pure [(mn, v)]
  loc : scope.names.lookup mn = some .local
  co : scope.isCoroutine = false
  gen : scope.isGenerator = false
  kind : scope.kind = .function
  cell : ∀ x ∈ scope.names, x.2 ≠ .cell

noncomputable def LamV (Z : Zt) (f : Addr) (qual : Str) (params : Arguments) (body : Expr) (scope : Scope) : Prop :=
  ∃ c' pm ctv oc vs tk, Z f = some (kla_obj (Str.ofString "<lambda>") qual params body scope [] pm c' ctv) ∧ Z c' = some oc ∧ oc.data = .fields vs ∧ vs[1]? = some (.str qual tk)
theorem LamV.mono {Z Z' : Zt} {f : Addr} {qual : Str} {params : Arguments} {body : Expr} {scope : Scope} (h : LamV Z f qual params body scope) (z : Zle Z Z') : LamV Z' f qual params body scope :=
  by obtain ⟨c', pm, ctv, oc, vs, tk, h1, h2, h3⟩ := h; exact ⟨c', pm, ctv, oc, vs, tk, z _ _ h1, z _ _ h2, h3⟩

section
variable {G : Gl} {A : Around} {E : Value → Shared → Prop} {K Z : Zt} {st : St} {s : Shared} {env : Env} {params : Arguments} {body : Expr} {scope : Scope} {lpos : Pos} {mn : Str}

theorem Sim.tabGrow {L : Addr} (S : Sim G K Z L st s) (O : GlOk G) {t : Tab} (ht : t ∈ G.tabs) {h' : Heap} {tk : Nat} {c' : Addr} {oc : Obj} {vs : Array Value} {tq : Tok} (hx : Heap.ExtBut t.P s.heap h') (hge : s.heap.objs.size ≤ c')
    (hP : h'.get? t.P = some (tabObj #[rawInt t.pos.line, rawInt t.pos.col, .ref c'])) (hc : h'.get? c' = some oc) (hd : oc.data = .fields vs) (hv : vs[1]? = some (.str t.qual tq)) :
    Zle Z (Zset Z c' oc) ∧ Sim G K (Zset Z c' oc) L st { s with heap := h', toks := tk } := by
  obtain ⟨g1, g2, g3, g4, _⟩ := S.tb t ht
  have hnew : ¬ Tracked G K Z L st c' := fun q => by
    obtain ⟨o, e⟩ := S.there q
    exact absurd (Heap.lt_size e) (Nat.not_lt.mpr hge)
  have hZc : Z c' = none := by
    cases q : Z c' with
    | none => rfl
    | some o => exact absurd (.inr (.inl ⟨o, q⟩)) hnew
  have hle : Zle Z (Zset Z c' oc) := Zset.le hZc
  have ne : ∀ b, Tracked G K Z L st b → b ≠ c' := fun b hb q => hnew (q ▸ hb)
  refine ⟨hle, {
    kk := fun b o e => hx b o (fun q => by rw [q, g1] at e; cases e) (S.kk b o e)
    zz := fun b o e => by
      unfold Zset at e; split at e
      · rename_i q; subst q; cases e; exact hc
      · exact hx b o (fun q => by rw [q, g2] at e; cases e) (S.zz b o e)
    kz := fun b o e => by rw [Zset.ne (ne b (.inl ⟨o, e⟩))]; exact S.kz b o e
    bz := fun b o e => hle _ _ (S.bz b o e)
    ns := by obtain ⟨m, h1, h2⟩ := S.ns; exact ⟨m, h1.extBut hx (Ne.symm g3), fun x => (h2 x).mono hle⟩
    kL := S.kL
    zL := by rw [Zset.ne (ne L (.inr (.inr (.inl rfl))))]; exact S.zL
    ar := fun p hp => by
      obtain ⟨h1, h2, h3, ws, n, h4, h5⟩ := S.ar p hp
      exact ⟨h1, by rw [Zset.ne (ne p.1 (.inr (.inr (.inr (.inl ⟨p, hp, rfl⟩)))))]; exact h2, h3, ws, n, hx _ _ (g4 p hp) h4, VRs.mono hle _ _ h5⟩
    nd := S.nd
    tb := fun t' ht' => by
      obtain ⟨h1, h2, h3, h4, ps, h5, h6⟩ := S.tb t' ht'
      refine ⟨h1, by rw [Zset.ne (ne t'.P (.inr (.inr (.inr (.inr ⟨t', ht', rfl⟩)))))]; exact h2, h3, h4, ?_⟩
      by_cases e : t'.P = t.P
      · have := O.tabs t' ht' t ht e
        subst this
        exact ⟨_, hP, .inr ⟨c', oc, vs, tq, rfl, Zset.self, hd, hv⟩⟩
      · exact ⟨ps, hx _ _ e h5, h6.imp id fun hm0 => by obtain ⟨c'', oc', vs', tk', k1, k2, k3⟩ := hm0; exact ⟨c'', oc', vs', tk', k1, hle _ _ k2, k3⟩⟩
    gens := S.gens
    os := S.os
    cl := fun p hp => by obtain ⟨o', w, h1, h2, h3⟩ := S.cl p hp; exact ⟨o', w, hle _ _ h1, h2, VR.mono hle _ _ h3⟩ }⟩

theorem lam_eval (S : Sim G K Z env.locals st s) (O : GlOk G) (La : LamSite G env params body scope lpos mn) {Q : Value → Shared → Prop}
    (h : ∀ f Z' s', Zle Z Z' → Sim G K Z' env.locals st s' → LamV Z' f (env.qual ++ Str.ofString "<lambda>") params body scope → Q (.ref f) s') : wpAny G.M A (eval (.Lambda params body scope lpos) env) Q Nope s := by
  obtain ⟨c, t, hc, C, ht, hl, hcl, hq⟩ := La.cd
  obtain ⟨bm, ob, b1, b2, b3, b4, b5⟩ := O.bm
  obtain ⟨g1, g2, g3, g4, ps, hP, hps⟩ := S.tb t ht
  have hbP : bm ≠ t.P := fun q => by have := S.bz _ _ b4; rw [q, g2] at this; cases this
  have hgP : mainGlobals ≠ t.P := fun q => by
    obtain ⟨o, _, _, e, _⟩ := O.g
    have := S.bz _ _ e; rw [q, g2] at this; cases this
  have hB : s.heap.BuiltinsAt G.mg t.P := ⟨bm, ob, b1, b2, b3, hbP, S.base _ _ b4, b5⟩
  refine kla_eval La.df ?_
  rcases hps with rfl | ⟨c', oc, vs, tq, rfl, k1, k2, k3⟩
  · refine kla_makeFunction La.cl La.gl (O.g.keeps S.base) hc (C.keeps S.base) hP (by exact True.intro) rfl hgP hB fun c' ctv h' tk hx hge hlt hrec hP' => ?_
    obtain ⟨c₂, oc, vs, tq, e1, e2, e3, e4⟩ := hrec
    cases e1
    rw [Array.empty_append, ← hl, ← hcl] at hP'
    obtain ⟨z, S'⟩ := S.tabGrow (tk := tk) O ht hx hge hP' e2 e3 (by rw [hq]; exact e4)
    have S₂ := S'.push (kla_obj (Str.ofString "<lambda>") (env.qual ++ Str.ofString "<lambda>") params body scope [] ((G.mg "__name__").getD .none) c' ctv) (tk := tk)
    obtain ⟨z₂, S₃⟩ := S₂.addZ (a := h'.objs.size) S'.fresh (Heap.get?_push_size _ rfl)
    exact h _ _ _ (z.trans z₂) S₃ ⟨c', _, ctv, oc, vs, tq, Zset.self, z₂ _ _ Zset.self, e3, e4⟩
  · refine kla_makeFunctionHit La.cl La.gl (O.g.keeps S.base) hc (C.keeps S.base) hP (by simp [TriplesOk, rawInt]) (cv := .ref c') (by rw [hl, hcl]; simp [codeAmong, rawInt]) hB fun ctv h' tk hk hsz => ?_
    have S' : Sim G K Z env.locals st { s with heap := h', toks := tk } := S.heap fun b o _ e => hk b o e
    have S₂ := S'.push (kla_obj (Str.ofString "<lambda>") (env.qual ++ Str.ofString "<lambda>") params body scope [] ((G.mg "__name__").getD .none) c' ctv) (tk := tk)
    obtain ⟨z₂, S₃⟩ := S₂.addZ (a := h'.objs.size) S'.fresh (Heap.get?_push_size _ rfl)
    exact h _ _ _ z₂ S₃ ⟨c', _, ctv, oc, vs, tq, Zset.self, z₂ _ _ k1, k2, by rw [← hq]; exact k3⟩
end
end Mine

set_option maxRecDepth 100000
set_option Elab.async false
set_option linter.unusedVariables false
namespace Mine
open PySem PyProof.Rows PySem.Builtin.Re PySem.W

theorem strs_of {Z : Zt} : ∀ {xs : List Str} {ws : List Value}, VRs Z (xs.map V.str) ws → ∃ l : List (Str × Tok), l.map (·.1) = xs ∧ ws = strValues l
  | [], ws, r => ⟨[], rfl, r.of_nil⟩
  | x :: xs, ws, r => by
    obtain ⟨w, ws', rfl, r1, r2⟩ := VRs.of_cons r
    obtain ⟨t, rfl⟩ := of_str r1
    obtain ⟨l, rfl, rfl⟩ := strs_of r2
    exact ⟨(x, t) :: l, rfl, rfl⟩

theorem fold_len (sep : Str) : ∀ (xs : List Str) (n : Nat), xs.foldl (· + ·.length + sep.length) n = n + (xs.map fun x => x.length + sep.length).sum
  | [], n => by simp
  | x :: xs, n => by simp only [List.foldl_cons, fold_len sep xs, List.map_cons, List.sum_cons]; simp only [Nat.add_assoc, Nat.add_comm, Nat.add_left_comm]

theorem join_len_le (sep : Str) : ∀ xs : List Str, (Str.join sep xs).length ≤ (xs.map fun x => x.length + sep.length).sum
  | [] => Nat.zero_le _
  | [x] => by simp [Str.join]
  | x :: y :: r => by
    have := join_len_le sep (y :: r)
    simp only [Str.join, strLen_append, List.map_cons, List.sum_cons] at this ⊢
    exact Nat.add_le_add_left (by assumption) _

section
variable {G : Gl} {A : Around} {E : Value → Shared → Prop} {K Z : Zt} {L : Addr} {st : St} {s : Shared}

theorem join_use (S : Sim G K Z L st s) {a : Addr} {xs : List Str} {ws : List Value} {sep : Str} {t : Tok} (hl : s.heap.IsList a ws.toArray) (r : VRs Z (xs.map V.str) ws)
    (hz : (xs.map fun x => x.length + sep.length).sum ≤ 16777216) {Q : Value → Shared → Prop} (h : ∀ t' tk, Q (.str (Str.join sep xs) t') { s with toks := tk }) : wpAny G.M A (call (.builtin "str.join") [.str sep t, .ref a]) Q E s := by
  obtain ⟨l, hx, rfl⟩ := strs_of r
  have hfit : Builtin.Str.tooLong ((l.map (·.1)).toArray.foldl (· + ·.length + sep.length) 0) = false := by
    unfold Builtin.Str.tooLong
    rw [hx, List.foldl_toArray, fold_len, sizeLine_eq]
    simp; (clear hx h; assumption)
  refine call_meets F.slot_str_join (typeIs_str _ _ _) F.entry_str_join (F.args_str_join_2 _ _) (meets_str_join_list sep t a l hfit) ⟨hl, ?_⟩
  have hj : Builtin.Str.glued sep (l.map (·.1)) = Str.join sep xs := by rw [StrLaws.glued_eq_join, hx]
  unfold joinMade
  split
  · rename_i p
    have : Str.join sep xs = p.1 := by rw [← hx]; rfl
    have h' := h p.2 s.toks
    rw [this] at h'
    exact h'
  · rw [hj]
    exact ⟨by have := join_len_le sep xs; rw [sizeLine_eq]; (clear hj hfit hx h; exact Nat.le_trans (by assumption) (by assumption)), h _ _⟩
end


section
variable {G : Gl} {A : Around} {L : Addr} {st : St} {Q : V → St → Prop}
theorem cb_join {a : Addr} {xs : List Str} {sep : Str} (ha : (a, xs.map V.str) ∈ st.ar) (hz : (xs.map fun x => x.length + sep.length).sum ≤ 16777216) (h : Q (.str (Str.join sep xs)) st) : CB G A L "str.join" [.str sep, .list a] st Q :=
  ⟨fun K Z ws s S r => by
    obtain ⟨w1, ws1, rfl, r1, r2⟩ := r.of_cons
    obtain ⟨w2, ws2, rfl, r3, r4⟩ := r2.of_cons
    rw [r4.of_nil, of_list r3]
    obtain ⟨t, rfl⟩ := of_str r1
    obtain ⟨_, _, _, ws, n, e, rs⟩ := S.ar _ ha
    exact join_use S ⟨_, e, rfl, n, rfl⟩ rs hz fun t' tk => Post.mk S.toks vr_str h⟩
theorem cb_join_fl {xs : List Str} {sep : Str} (hz : (xs.map fun x => x.length + sep.length).sum ≤ 16777216) (h : Q (.str (Str.join sep xs)) st) : CB G A L "str.join" [.str sep, .fl (xs.map V.str)] st Q :=
  ⟨fun K Z ws s S r => by
    obtain ⟨w1, ws1, rfl, r1, r2⟩ := r.of_cons
    obtain ⟨w2, ws2, rfl, r3, r4⟩ := r2.of_cons
    rw [r4.of_nil]
    obtain ⟨a, ws, rfl, hzs, rs⟩ := of_fl r3
    obtain ⟨t, rfl⟩ := of_str r1
    exact join_use S (zseq_list hzs S.zz) rs hz fun t' tk => Post.mk S.toks vr_str h⟩
theorem mf_join : MF "str" "join" "str.join" := ⟨F.plainAttrs_str, F.slot_str_join, F.type_str_join⟩
end
end Mine

set_option maxRecDepth 100000
set_option Elab.async false
set_option linter.unusedVariables false
namespace Mine
open PySem PyProof.Rows PySem.Builtin.Re PySem.W

noncomputable abbrev sOf (l : List Nat) : Str := ⟨l.toArray⟩

inductive SubR (code x : Array Nat) (f : List Nat → List Nat) : List Nat → List Nat → List Nat → Prop
  | none {pre rem : List Nat} : (∃ m' n, Reach (Sre.forSearch code x 1 pre.length x.size false) m' n ∧ n < 2 ^ 65 ∧ m'.outcome = some .failed) → SubR code x f pre rem rem
  | some {pre mid g1 g g2 rem out : List Nat} :
      (∃ m' n, Reach (Sre.forSearch code x 1 pre.length x.size false) m' n ∧ n < 2 ^ 65 ∧ m'.outcome = some .matched ∧ m'.start = pre.length + mid.length ∧ m'.handed = pre.length + mid.length + (g1.length + g.length + g2.length) ∧
        m'.marks = #[some (pre.length + mid.length + g1.length), some (pre.length + mid.length + g1.length + g.length)] ∧ m'.lastmark = 1) →
      0 < g1.length + g.length + g2.length → SubR code x f (pre ++ mid ++ (g1 ++ g ++ g2)) rem out → SubR code x f pre (mid ++ (g1 ++ g ++ g2) ++ rem) (mid ++ f g ++ out)

theorem extract_mid {x : Array Nat} {pre mid post : List Nat} (h : x.toList = pre ++ mid ++ post) : x.extract pre.length (pre.length + mid.length) = mid.toArray := by
  apply Array.ext'
  rw [Array.toList_extract, h]
  simp

section
variable {G : Gl} {A : Around} {E : Value → Shared → Prop} {K Z : Zt} {L : Addr} {st : St} {s : Shared}

theorem reSlice_use {x : Array Nat} {b e : Nat} {Q : Value → Shared → Prop} (hx : x.size ≤ 16777216) (h : Q (.str ⟨x.extract b e⟩ s.toks) { s with toks := s.toks + 1 }) : wpAny G.M A (reSlice x 0 b e) Q E s := by
  unfold reSlice
  simp only [beq_self_eq_true, if_true]
  refine wpAny_mkStr h (hx := ?_)
  show (x.extract b e).size ≤ sizeLine
  rw [Array.size_extract, sizeLine_eq]; first | lia | omega

theorem lam_call {f : Addr} {qual : Str} {params : Arguments} {body : Expr} {scope : Scope} {mn : Str} {v : V} {w : Value} (S : Sim G K Z L st s) (O : GlOk G) (hroom : A.depth < recursionLimit) (Lv : LamV Z f qual params body scope) (r : VR Z v w)
    (hbind : ∀ pm c' ctv v, bindArgs (kla_fn (Str.ofString "<lambda>") qual params body scope [] pm c' ctv) ⟨[v], []⟩ = pure [(mn, v)]) (hloc : scope.names.lookup mn = some .local)
    (hco : scope.isCoroutine = false) (hgen : scope.isGenerator = false) (hk : scope.kind = .function) (hcell : ∀ x ∈ scope.names, x.2 ≠ .cell) {Q : V → Prop}
    (h : ∀ L' c', Ev G (A.deeper (envOf qual scope L' f (.ref c'))) (envOf qual scope L' f (.ref c')) body ⟨[(mn, v)], st.ar⟩ fun u st' => st'.ar = st.ar ∧ Q u) :
    wpAny G.M A (call (.ref f) [w]) (Post G K Z L VR fun u st' => st' = st ∧ Q u) Nope s := by
  obtain ⟨c', pm, ctv, oc, vs, tk, k1, k2, k3, k4⟩ := Lv
  obtain ⟨m, ⟨oL, es, ep, hL, hns⟩, hm⟩ := S.ns
  refine wpAny_call (kla_callFunE (fd := kla_fn (Str.ofString "<lambda>") qual params body scope [] pm (.ref c') ctv) hroom (S.zz _ _ k1) rfl hco hgen rfl ⟨c', oc, vs, tk, rfl, S.zz _ _ k2, k3, k4⟩ ?_)
  rw [hbind]
  refine wpAny_pure (wpAny_newFunctionEnv hcell (by intro y hy; simp at hy; rw [hy]; exact hloc) (fun h₁ hns₁ hsb => ⟨(O.nolimit.keeps S.base).fresh _ hsb, ?_⟩) hk)
  refine kla_codeExpr ?_
  have hkeep : ∀ b o, s.heap.get? b = some o → h₁.get? b = some o := fun b o e => hsb.extBut b o (Nat.ne_of_lt (Heap.lt_size e)) (Heap.get?_push_of_some _ e)
  have S₁ : Sim G (Zset K L oL) Z s.heap.objs.size ⟨[(mn, v)], st.ar⟩ { s with heap := h₁, toks := s.toks + [(mn, w)].length } :=
    Sim.enter (loc := st.loc) S hL hkeep (Heap.get?_none_of_le (Nat.le_refl _)) hns₁ fun y => by
      simp only [List.reverse_cons, List.reverse_nil, List.nil_append, List.lookup_cons, List.lookup_nil]
      cases y == mn
      · trivial
      · exact r
  refine wpAny_mono ((h s.heap.objs.size c').run _ Z _ S₁) (fun u s' hq0 => ?_) fun _ _ x => x.elim
  obtain ⟨Z', uv, st', z, S', ru, ha, q⟩ := hq0
  obtain ⟨loc', ar'⟩ := st'
  cases ha
  exact ⟨Z', uv, st, z, Sim.leave (loc := st.loc) S hL z S', ru, rfl, q⟩
end

theorem entry_subloop : entryFor table "re.Pattern.sub.loop" = some Builtin.«re.Pattern.sub.loop» := entryFor_of_tree (by kernel_rfl)
theorem plain_subloop : plainId "re.Pattern.sub.loop" = true := by decide +kernel

noncomputable def RetR (P : Value → Shared → Prop) : Result → Shared → Prop
  | .ok (.ret v), s => P v s
  | .ok _, _ => False
  | .error _, _ => False

noncomputable def subArgs (p : Addr) (x : Str) (t : Tok) (f pl : Addr) (n k : Nat) : Args :=
  ⟨[.ref p, .str x t, .ref f, rawInt 1, rawInt 0, rawInt n, rawInt k, rawInt k, .bool false, .ref pl, .bool false], []⟩

theorem mem_setA_self {a : Addr} {xs ys : List V} : ∀ {ar : List (Addr × List V)}, (a, xs) ∈ ar → (a, ys) ∈ setA a ys ar
  | (b, zs) :: r, h => by
    unfold setA
    split
    · exact .head _
    · rename_i e
      rcases List.mem_cons.mp h with h | h
      · cases h; exact absurd rfl e
      · exact .tail _ (mem_setA_self h)
theorem setA_setA {a : Addr} {xs ys : List V} : ∀ {ar : List (Addr × List V)}, setA a ys (setA a xs ar) = setA a ys ar
  | [] => rfl
  | (b, zs) :: r => by
    by_cases e : b = a
    · simp [setA, e]
    · simp [setA, e, setA_setA (ar := r)]

theorem str_app (u v : Str) : (u ++ v).cps.toList = u.cps.toList ++ v.cps.toList := by
  show (u.cps ++ v.cps).toList = _; simp
theorem join_empty_append : ∀ (xs : List Str) (y : Str), (Str.join Str.empty (xs ++ [y])).cps.toList = (Str.join Str.empty xs).cps.toList ++ y.cps.toList
  | [], y => by simp [Str.join, Str.empty]
  | [x], y => by
    show ((x ++ Str.empty ++ y : Str)).cps.toList = x.cps.toList ++ _
    rw [str_app, str_app]; simp [Str.empty]
  | x :: x' :: r, y => by
    have ih := join_empty_append (x' :: r) y
    show ((x ++ Str.empty ++ Str.join Str.empty ((x' :: r) ++ [y]) : Str)).cps.toList = ((x ++ Str.empty ++ Str.join Str.empty (x' :: r) : Str)).cps.toList ++ _
    rw [str_app, str_app, str_app, str_app, ih, List.append_assoc, List.append_assoc, List.append_assoc]
theorem sum_join_empty : ∀ (xs : List Str), (xs.map fun x => x.length + Str.empty.length).sum = (Str.join Str.empty xs).cps.toList.length
  | [] => by simp [Str.join, Str.empty]
  | [x] => by simp [Str.join, Str.empty, Str.length]
  | x :: y :: r => by
    have ih := sum_join_empty (y :: r)
    show x.length + Str.empty.length + ((y :: r).map fun x => x.length + Str.empty.length).sum = ((x ++ Str.empty ++ Str.join Str.empty (y :: r) : Str)).cps.toList.length
    rw [ih, str_app, str_app, List.length_append, List.length_append]
    simp [Str.length, Str.empty]

theorem setA_same {a : Addr} {xs : List V} : ∀ {ar : List (Addr × List V)}, (ar.map (·.1)).Nodup → (a, xs) ∈ ar → setA a xs ar = ar
  | (b, zs) :: r, hn, h => by
    simp only [List.map_cons, List.nodup_cons] at hn
    unfold setA
    split
    · rename_i e; subst e
      rcases List.mem_cons.mp h with h | h
      · cases h; rfl
      · exact absurd (List.mem_map_of_mem (f := (·.1)) h) hn.1
    · rename_i e
      rcases List.mem_cons.mp h with h | h
      · cases h; exact absurd rfl e
      · rw [setA_same hn.2 h]

noncomputable def subFin (x : Array Nat) (pl : Addr) : Sem Fin := do
  let joiner ← reSlice x 0 0 0
  let its ← seqItems? (.ref pl)
  if (its.getD #[]).isEmpty then (pure joiner >>= ret) else (call (.builtin "str.join") [joiner, .ref pl] >>= ret)

theorem subFin_use {G : Gl} {A : Around} {K Z : Zt} {L : Addr} {st : St} {s : Shared} {x : Array Nat} {pl : Addr} {pcs : List Str} (S : Sim G K Z L st s) (ha : (pl, pcs.map V.str) ∈ st.ar) (hx : x.size ≤ 16777216) (hl : (Str.join Str.empty pcs).cps.toList.length ≤ 16777216)
    {P : Fin → Shared → Prop} {E : Value → Shared → Prop} (h : ∀ tk t', P (.done (.ret (.str (Str.join Str.empty pcs) t'))) { s with toks := tk }) : wpAny G.M A (subFin x pl) P E s := by
  obtain ⟨_, _, _, ws, n, e, rs⟩ := S.ar _ ha
  unfold subFin
  refine wpAny_bind (reSlice_use hx ?_)
  have e0 : x.extract 0 0 = #[] := by simp
  rw [e0]
  refine wpAny_bind (wpAny_seqItems (s := { s with toks := s.toks + 1 }) e rfl ?_)
  have S₁ := S.toks (tk := s.toks + 1)
  show wpAny _ _ (if ws.toArray.isEmpty then _ else _) _ _ _
  cases pcs with
  | nil =>
    have : ws = [] := rs.of_nil
    subst this
    exact wpAny_bind (wpAny_pure (wpAny_pure (h _ _)))
  | cons q r =>
    have hne : ws.toArray.isEmpty = false := by
      have := rs.length
      cases ws with
      | nil => simp at this
      | cons => rfl
    rw [hne]
    simp only [Bool.false_eq_true, if_false]
    refine wpAny_bind (join_use S₁ (sep := ⟨#[]⟩) ⟨_, e, rfl, n, rfl⟩ rs (by
      have := sum_join_empty (q :: r)
      rw [show (⟨#[]⟩ : Str) = Str.empty from rfl, this]; exact hl) fun t' tk => wpAny_pure (h _ _))

section
variable {G : Gl} {A : Around} {L : Addr} {x : Str} {t : Tok} {p fa pl : Addr} {code : Array Nat} {g : List Nat → List Nat} {qual : Str} {params : Arguments} {body : Expr} {scope : Scope} {mn : Str}

theorem subloop (O : GlOk G) (P : Pat G p code 1) (hx : x.length ≤ 4000000) (hroom : A.in1.depth < recursionLimit)
    (hbind : ∀ pm c' ctv v, bindArgs (kla_fn (Str.ofString "<lambda>") qual params body scope [] pm c' ctv) ⟨[v], []⟩ = pure [(mn, v)]) (hloc : scope.names.lookup mn = some .local)
    (hco : scope.isCoroutine = false) (hgen : scope.isGenerator = false) (hk : scope.kind = .function) (hcell : ∀ x ∈ scope.names, x.2 ≠ .cell)
    (hb : ∀ L' c' st' a b (c d : Nat), c ≤ d → d ≤ x.cps.size → Ev G (A.in1.deeper (envOf qual scope L' fa (.ref c'))) (envOf qual scope L' fa (.ref c')) body ⟨[(mn, .mat x [a, b, (c : Nat), (d : Nat)])], st'⟩ fun u st'' => st''.ar = st' ∧ u = .str (sOf (g (x.cps.extract c d).toList))) :
    ∀ {pre rem out : List Nat}, SubR code x.cps g pre rem out → x.cps.toList = pre ++ rem → ∀ (K Z : Zt) (s : Shared) (loc : List (Str × V)) (ar : List (Addr × List V)) (n : Nat) (pcs : List Str),
      Sim G K Z L ⟨loc, ar⟩ s → (pl, pcs.map V.str) ∈ ar → LamV Z fa qual params body scope → pcs.length + 2 * rem.length ≤ 16000000 → ((Str.join Str.empty pcs).cps.toList ++ out).length ≤ 16777216 →
      codeAny G.M A (.builtin "re.Pattern.sub.loop" (subArgs p x t fa pl n pre.length)) (RetR (Post G K Z L VR fun v st' => v = .str (sOf ((Str.join Str.empty pcs).cps.toList ++ out)) ∧ st'.loc = loc ∧ ∃ ys, st'.ar = setA pl ys ar)) s := by
  intro pre rem out h
  induction h with
  | none hs =>
    rename_i pre rem
    intro ht K Z s loc ar n pcs S ha Lv hn hlen
    obtain ⟨m', k, hr, hk', ho⟩ := hs
    refine codeAny_builtin entry_subloop ?_
    rw [Around.under_plainId plain_subloop]
    unfold Builtin.«re.Pattern.sub.loop» subArgs
    refine wpAny_bind (reWholeTarget_use S P ?_)
    show wpAny _ _ (reRunToEnd (Sre.forSearch code x.cps 1 (Int.toNat ((pre.length : Nat) : Int)) x.cps.size false) >>= _) _ _ s
    rw [Int.toNat_natCast]
    refine wpAny_bind (reRun_failed hr ho hk' ?_)
    have hxs : x.cps.size ≤ 16777216 := by have : x.cps.size ≤ 4000000 := hx; (clear ho hk' hlen hn ht hb hcell hk hgen hco hloc hbind hroom hx; exact Nat.le_trans (by assumption) (by decide))
    have hsz : x.cps.size = pre.length + rem.length := by rw [← Array.length_toList, ht]; simp
    have hlen' : ((Str.join Str.empty pcs).cps.toList ++ rem).length ≤ 16777216 := hlen
    change wpAny _ _ (if pre.length < x.cps.size then (reSlice x.cps 0 pre.length x.cps.size >>= fun a => updateSeq pl (fun q => q.push a) >>= fun _ => subFin x.cps pl) else subFin x.cps pl) _ _ s
    by_cases hlt : pre.length < x.cps.size
    · rw [if_pos hlt]
      refine wpAny_bind (reSlice_use hxs ?_)
      refine wpAny_bind ?_
      have S₁ := S.toks (tk := s.toks + 1)
      refine S₁.push1 ha (vr_str (x := ⟨x.cps.extract pre.length x.cps.size⟩)) (by rw [List.length_map]; (clear hlt hlen' hsz hxs ho hk' hlen ht hb hcell hk hgen hco hloc hbind hroom hx; first | lia | omega)) fun s' S' => ?_
      have e1 : pcs.map V.str ++ [V.str ⟨x.cps.extract pre.length x.cps.size⟩] = (pcs ++ [(⟨x.cps.extract pre.length x.cps.size⟩ : Str)]).map V.str := by simp
      have e2 : x.cps.extract pre.length x.cps.size = rem.toArray := by
        have := extract_mid (x := x.cps) (pre := pre) (mid := rem) (post := []) (by rw [ht]; simp)
        rw [hsz]; exact this
      rw [e1] at S'
      have e3 : (Str.join Str.empty (pcs ++ [(⟨x.cps.extract pre.length x.cps.size⟩ : Str)])).cps.toList = (Str.join Str.empty pcs).cps.toList ++ rem := by rw [join_empty_append, e2]
      refine subFin_use S' (mem_setA_self ha) hxs (by rw [e3]; exact hlen') fun tk t' => ?_
      refine ⟨Z, _, _, .refl, S'.toks, ?_, rfl, rfl, _, rfl⟩
      rw [show (Str.join Str.empty (pcs ++ [(⟨x.cps.extract pre.length x.cps.size⟩ : Str)])) = sOf ((Str.join Str.empty pcs).cps.toList ++ rem) from by rw [← e3]]
      exact vr_str
    · rw [if_neg hlt]
      have hrem : rem = [] := List.eq_nil_of_length_eq_zero (by (clear hlen' hxs ho hk' hlen hn ht hb hcell hk hgen hco hloc hbind hroom hx; first | lia | omega))
      subst hrem
      refine subFin_use S ha hxs (by simpa using hlen') fun tk t' => ?_
      refine ⟨Z, _, _, .refl, S.toks, ?_, rfl, rfl, pcs.map V.str, (setA_same S.nd ha).symm⟩
      rw [show sOf ((Str.join Str.empty pcs).cps.toList ++ []) = Str.join Str.empty pcs from by simp]
      exact vr_str
  | some hs hpos _ ih =>
    rename_i pre mid g1 gg g2 rem out _
    intro ht K Z s loc ar n pcs S ha Lv hn hlen
    obtain ⟨m', k, hr, hk', ho, hst, hha, hmk, hlm⟩ := hs
    refine codeAny_builtin entry_subloop ?_
    rw [Around.under_plainId plain_subloop]
    unfold Builtin.«re.Pattern.sub.loop» subArgs
    refine wpAny_bind (reWholeTarget_use S P ?_)
    show wpAny _ _ (reRunToEnd (Sre.forSearch code x.cps 1 (Int.toNat ((pre.length : Nat) : Int)) x.cps.size false) >>= _) _ _ s
    rw [Int.toNat_natCast]
    refine wpAny_bind (reRun_matched hr ho hk' ?_)
    have hxs : x.cps.size ≤ 16777216 := by have : x.cps.size ≤ 4000000 := hx; (clear hlm hmk hha hst ho hk' hlen hn ht ih hpos hb hcell hk hgen hco hloc hbind hroom hx; exact Nat.le_trans (by assumption) (by decide))
    have hsz : x.cps.size = pre.length + (mid.length + (g1.length + gg.length + g2.length) + rem.length) := by rw [← Array.length_toList, ht]; simp only [List.length_append]
    have ht' : x.cps.toList = (pre ++ mid ++ (g1 ++ gg ++ g2)) ++ rem := by rw [ht]; simp
    have hgl : (x.cps.extract (pre.length + mid.length + g1.length) (pre.length + mid.length + g1.length + gg.length)).toList = gg := by
      have := extract_mid (x := x.cps) (pre := pre ++ mid ++ g1) (mid := gg) (post := g2 ++ rem) (by rw [ht]; simp)
      rw [show (pre ++ mid ++ g1).length = pre.length + mid.length + g1.length by simp; (clear this ht' hsz hxs hlm hmk hha hst ho hk' hlen hn ht ih hpos hb hcell hk hgen hco hloc hbind hroom hx; exact (Nat.add_assoc _ _ _).symm)] at this
      rw [this]
    -- what is left when the piece ahead is pushed
    have turn : ∀ (pcs' : List Str) (s' : Shared), Sim G K Z L ⟨loc, setA pl (pcs'.map V.str) ar⟩ s' → (Str.join Str.empty pcs').cps.toList = (Str.join Str.empty pcs).cps.toList ++ mid → pcs'.length ≤ pcs.length + 1 →
        wpAny G.M A.in1 (reNewMatch (.ref p) (.str x t) 1 0 x.cps.size m' >>= fun found => holding [found] (call (.ref fa) [found]) >>= fun item =>
          if item != .none then (updateSeq pl (fun q => q.push item) >>= fun _ => again (.builtin "re.Pattern.sub.loop" ⟨[.ref p, .str x t, .ref fa, rawInt 1, rawInt 0, rawInt (n + 1), rawInt m'.handed, rawInt m'.handed, .bool (m'.handed == m'.start), .ref pl, .bool false], []⟩))
          else again (.builtin "re.Pattern.sub.loop" ⟨[.ref p, .str x t, .ref fa, rawInt 1, rawInt 0, rawInt (n + 1), rawInt m'.handed, rawInt m'.handed, .bool (m'.handed == m'.start), .ref pl, .bool false], []⟩))
          (fun fin s' => match fin with
            | .done f => RetR (Post G K Z L VR fun v st' => v = .str (sOf ((Str.join Str.empty pcs).cps.toList ++ (mid ++ g gg ++ out))) ∧ st'.loc = loc ∧ ∃ ys, st'.ar = setA pl ys ar) (.ok f) s'
            | .again c' => c'.quiet = true ∧ codeAny G.M A c' (RetR (Post G K Z L VR fun v st' => v = .str (sOf ((Str.join Str.empty pcs).cps.toList ++ (mid ++ g gg ++ out))) ∧ st'.loc = loc ∧ ∃ ys, st'.ar = setA pl ys ar)) s')
          (fun e s' => RetR (Post G K Z L VR fun v st' => v = .str (sOf ((Str.join Str.empty pcs).cps.toList ++ (mid ++ g gg ++ out))) ∧ st'.loc = loc ∧ ∃ ys, st'.ar = setA pl ys ar) (.error e) s') s' := by
      intro pcs' s' S' hj hpl
      rw [reNewMatch1 hmk hlm (by (clear hpl hj hgl ht' hsz hxs hlm hmk hha hst ho hk' hlen hn ht ih hpos hb hcell hk hgen hco hloc hbind hroom hx; exact Nat.le_add_right _ _))]
      refine wpAny_bind (matTail_use S' (by simp) fun Z₁ s₁ a z₁ S₁ r₁ => ?_)
      refine wpAny_bind (wpAny_holding ?_)
      refine wpAny_mono (lam_call (st := ⟨loc, setA pl (pcs'.map V.str) ar⟩) S₁ O hroom (Lv.mono z₁) r₁ hbind hloc hco hgen hk hcell (Q := fun u => u = .str (sOf (g gg))) fun L' c' => ?_) (fun w s₂ ⟨Z₂, u, st₂, z₂, S₂, r₂, e₂, hu⟩ => ?_) fun _ _ x => x.elim
      · have := hb L' c' (setA pl (pcs'.map V.str) ar) m'.start m'.handed (pre.length + mid.length + g1.length) (pre.length + mid.length + g1.length + gg.length) (by (clear hpl hj hgl ht' hsz hxs hlm hmk hha hst ho hk' hlen hn ht ih hpos hb hcell hk hgen hco hloc hbind hroom hx; exact Nat.le_add_right _ _)) (by (clear hpl hj hgl ht' hxs hlm hmk hha hst ho hk' hlen hn ht ih hpos hb hcell hk hgen hco hloc hbind hroom hx; first | lia | omega))
        rw [hgl] at this
        exact this
      · subst hu; subst e₂
        obtain ⟨tt, rfl⟩ := of_str r₂
        rw [if_pos (show ((Value.str (sOf (g gg)) tt != Value.none) = true) from rfl)]
        refine wpAny_bind (S₂.push1 (mem_setA_self ha) (vr_str (x := sOf (g gg)) (t := tt)) (by
          simp only [List.length_map]
          have : 2 * (mid ++ (g1 ++ gg ++ g2) ++ rem).length = 2 * mid.length + 2 * (g1.length + gg.length + g2.length) + 2 * rem.length := by simp; (clear hpl hj hgl ht' hsz hxs hlm hmk hha hst ho hk' hlen hn ht ih hpos hb hcell hk hgen hco hloc hbind hroom hx; first | lia | omega)
          (clear this hj hgl ht' hsz hxs hlm hmk hha hst ho hk' hlen ht ih hpos hb hcell hk hgen hco hloc hbind hroom hx; first | lia | omega)) fun s₃ S₃ => ?_)
        have e3 : pcs'.map V.str ++ [V.str (sOf (g gg))] = (pcs' ++ [sOf (g gg)]).map V.str := by simp
        have S₄ : Sim G K Z₂ L ⟨loc, setA pl ((pcs' ++ [sOf (g gg)]).map V.str) ar⟩ s₃ := by
          have := S₃
          rw [e3] at this
          change Sim G K Z₂ L ⟨loc, setA pl _ (setA pl _ ar)⟩ s₃ at this
          rw [setA_setA] at this
          exact this
        have hne : (m'.handed == m'.start) = false := beq_eq_false_iff_ne.mpr (by rw [hha, hst]; (clear e3 hpl hj hgl ht' hsz hxs hlm hmk hha hst ho hk' hlen hn ht ih hb hcell hk hgen hco hloc hbind hroom hx; first | lia | omega))
        rw [hne]
        have hjj : (Str.join Str.empty (pcs' ++ [sOf (g gg)])).cps.toList = (Str.join Str.empty pcs).cps.toList ++ mid ++ g gg := by rw [join_empty_append, hj]
        have hout : (Str.join Str.empty (pcs' ++ [sOf (g gg)])).cps.toList ++ out = (Str.join Str.empty pcs).cps.toList ++ (mid ++ g gg ++ out) := by rw [hjj]; simp
        have := ih ht' K Z₂ s₃ loc (setA pl ((pcs' ++ [sOf (g gg)]).map V.str) ar) (n + 1) (pcs' ++ [sOf (g gg)]) S₄ (mem_setA_self ha) ((Lv.mono z₁).mono z₂) (by
            have : 2 * (mid ++ (g1 ++ gg ++ g2) ++ rem).length = 2 * mid.length + 2 * (g1.length + gg.length + g2.length) + 2 * rem.length := by simp; (clear hout hjj hne e3 hpl hj hgl ht' hsz hxs hlm hmk hha hst ho hk' hlen hn ht ih hpos hb hcell hk hgen hco hloc hbind hroom hx; omega)
            simp only [List.length_append, List.length_cons, List.length_nil]
            (clear hout hjj hne e3 hj hgl ht' hsz hxs hlm hmk hha hst ho hk' hlen ht ih hb hcell hk hgen hco hloc hbind hroom hx; first | lia | omega)) (by rw [hout]; exact hlen)
        refine wpAny_pure ⟨plainId_quiet plain_subloop _, ?_⟩
        have hargs : (⟨[.ref p, .str x t, .ref fa, rawInt 1, rawInt 0, rawInt (n + 1), rawInt m'.handed, rawInt m'.handed, .bool false, .ref pl, .bool false], []⟩ : Args) = subArgs p x t fa pl (n + 1) (pre ++ mid ++ (g1 ++ gg ++ g2)).length := by
          have : (pre ++ mid ++ (g1 ++ gg ++ g2)).length = m'.handed := by rw [hha]; simp only [List.length_append]
          unfold subArgs
          rw [this]; rfl
        rw [hargs]
        refine codeAny_mono this fun r s' hr => ?_
        cases r with
        | error e => exact hr
        | ok f =>
          cases f with
          | ret v =>
            obtain ⟨Z₅, u, st₅, z₅, S₅, r₅, h5, h6, ys, h7⟩ := hr
            exact ⟨Z₅, u, st₅, (z₁.trans z₂).trans z₅, S₅, r₅, by rw [h5, hout], h6, ys, by rw [h7, setA_setA]⟩
          | next => exact hr
          | brk => exact hr
          | cont => exact hr
    change wpAny _ _ (if pre.length < m'.start then (reSlice x.cps 0 pre.length m'.start >>= fun a => updateSeq pl (fun q => q.push a) >>= fun _ => _) else _) _ _ s
    by_cases hlt : pre.length < m'.start
    · rw [if_pos hlt]
      refine wpAny_bind (reSlice_use hxs ?_)
      refine wpAny_bind ?_
      have S₁ := S.toks (tk := s.toks + 1)
      refine S₁.push1 ha (vr_str (x := ⟨x.cps.extract pre.length m'.start⟩)) (by rw [List.length_map]; (clear hlt turn hgl ht' hsz hxs hlm hmk hha hst ho hk' hlen ht ih hpos hb hcell hk hgen hco hloc hbind hroom hx; first | lia | omega)) fun s' S' => ?_
      have e1 : pcs.map V.str ++ [V.str ⟨x.cps.extract pre.length m'.start⟩] = (pcs ++ [(⟨x.cps.extract pre.length m'.start⟩ : Str)]).map V.str := by simp
      have e2 : x.cps.extract pre.length m'.start = mid.toArray := by
        rw [hst]; exact extract_mid (x := x.cps) (pre := pre) (mid := mid) (post := (g1 ++ gg ++ g2) ++ rem) (by rw [ht]; simp)
      rw [e1] at S'
      exact turn (pcs ++ [(⟨x.cps.extract pre.length m'.start⟩ : Str)]) s' S' (by rw [join_empty_append, e2]) (by simp)
    · rw [if_neg hlt]
      have hmid : mid = [] := List.eq_nil_of_length_eq_zero (by (clear turn hgl ht' hsz hxs hlm hmk hha ho hk' hlen hn ht ih hpos hb hcell hk hgen hco hloc hbind hroom hx; first | lia | omega))
      subst hmid
      exact turn pcs s (by rw [setA_same S.nd ha]; exact S) (by simp) (by (clear turn hgl ht' hsz hmk hha hst hlen hn ht ih hlt hxs hlm ho hk' hpos hb hcell hk hgen hco hloc hbind hroom hx; exact Nat.le_add_right _ _))
end
end Mine

set_option maxRecDepth 100000
set_option Elab.async false
set_option linter.unusedVariables false
namespace Mine
open PySem PyProof.Rows PySem.Builtin.Re PySem.W

theorem fn_call_lookup : typeLookup (.type "function") "__call__" = pure (some (.builtin "function.__call__")) := by rw [typeLookup_type, builtinLookup_eq_fast]; kernel_rfl
theorem str_not_bytearray : isSubtype (.type "str") (.type "bytearray") = pure false := by rw [isSubtype_type]; kernel_rfl

theorem call_entry_again {prog : Program} {w : World} {A : Around} {s : Shared} {T : String} {name : Str} {id : String} {b : Builtin} {self : Value} {rest : List Value} {P : Value → Shared → Prop} (h : Slot T name id) (hT : s.TypeIs self T)
    (hb : entryFor table id = some b) (ha : argsOk id ⟨self :: rest, []⟩)
    (hc : wpAny (model prog w) A.in1 (b ⟨self :: rest, []⟩) (fun fin s' => ∃ c', fin = .again c' ∧ c'.quiet = true ∧ codeAny (model prog w) A c' (RetR P) s') Nope s) :
    wpAny (model prog w) A (call (.builtin id) (self :: rest)) P Nope s := by
  refine wpAny_call (codeAny_call_builtin h.plain hb (h.check _ _ _ _ _ _ _ _ hT ha (wpAny_mono hc (fun fin s' hq0 => ?_) fun _ _ h' => h')))
  obtain ⟨c', e, hq, hcc⟩ := hq0
  subst e
  refine ⟨hq, codeAny_mono hcc fun r s'' hr => ?_⟩
  cases r with
  | error e => exact hr
  | ok f => cases f <;> exact hr

section
variable {G : Gl} {A : Around} {K Z : Zt} {L : Addr} {st : St} {s : Shared} {x : Str} {t : Tok} {p fa : Addr} {code : Array Nat} {g : List Nat → List Nat} {qual : Str} {params : Arguments} {body : Expr} {scope : Scope} {mn : Str}

theorem sub_use (S : Sim G K Z L st s) (O : GlOk G) (P : Pat G p code 1) (hx : x.length ≤ 4000000) (hroom : A.in1.depth < recursionLimit) (Lv : LamV Z fa qual params body scope)
    (hbind : ∀ pm c' ctv v, bindArgs (kla_fn (Str.ofString "<lambda>") qual params body scope [] pm c' ctv) ⟨[v], []⟩ = pure [(mn, v)]) (hloc : scope.names.lookup mn = some .local)
    (hco : scope.isCoroutine = false) (hgen : scope.isGenerator = false) (hk : scope.kind = .function) (hcell : ∀ x ∈ scope.names, x.2 ≠ .cell)
    (hb : ∀ L' c' st' a b (c d : Nat), c ≤ d → d ≤ x.cps.size → Ev G (A.in1.deeper (envOf qual scope L' fa (.ref c'))) (envOf qual scope L' fa (.ref c')) body ⟨[(mn, .mat x [a, b, (c : Nat), (d : Nat)])], st'⟩ fun u st'' => st''.ar = st' ∧ u = .str (sOf (g (x.cps.extract c d).toList)))
    {out : List Nat} (hs : SubR code x.cps g [] x.cps.toList out) (hout : out.length ≤ 16777216) :
    wpAny G.M A (call (.builtin "re.Pattern.sub") [.ref p, .ref fa, .str x t]) (Post G K Z L VR fun v st' => v = .str (sOf out) ∧ st' = st) Nope s := by
  obtain ⟨c', pm, ctv, oc, vs, tk, k1, k2, k3, k4⟩ := id Lv
  obtain ⟨hT, _⟩ := (ty_pat (L := L) (st := st) P).run K Z _ s S vr_raw
  refine call_entry_again slot_pat_sub hT entry_pat_sub (args_pat_sub _ _ _) ?_
  unfold Builtin.«re.Pattern.sub» reSubstitute
  show wpAny _ _ (reNamed _ _ ["repl", "string", "count"] 2 [.ref fa, .str x t] [] >>= _) _ _ s
  rw [reNamed2]
  refine wpAny_bind (wpAny_pure ?_)
  refine wpAny_bind (wpAny_pure ?_)
  refine wpAny_bind (wpAny_specialOf (T := "function") ⟨_, S.zz _ _ k1, rfl⟩ fn_call_lookup ?_)
  show wpAny _ _ (holding [.ref fa] (reWholeTarget (.ref p) (.str x t)) >>= _) _ _ s
  refine wpAny_bind (wpAny_holding (reWholeTarget_use S P ?_))
  show wpAny _ _ (reNotHeld "re.Pattern.sub" (.str x t) >>= _) _ _ s
  refine wpAny_bind ?_
  unfold reNotHeld
  refine wpAny_bind (wpAny_isInstance (T := "str") (b := false) (typeIs_str _ _ _) str_not_bytearray ?_)
  refine wpAny_pure ?_
  refine wpAny_bind (wpAny_newObj_type (T := "list") ?_ (by size_fits))
  have S₁ := S.newList (vs := []) (ws := []) .nil
  refine wpAny_pure ⟨_, rfl, plainId_quiet plain_subloop _, ?_⟩
  have := subloop (A := A) (L := L) (t := t) (pl := s.heap.objs.size) O P hx hroom hbind hloc hco hgen hk hcell hb hs (by simp) K Z _ st.loc ((s.heap.objs.size, []) :: st.ar) 0 [] S₁ (.head _) Lv (by
    have : x.cps.toList.length ≤ 4000000 := by rw [Array.length_toList]; exact hx
    simp only [List.length_nil]; (clear k4 k3 k2 k1 hout hb hcell hk hgen hco hloc hbind hroom hx; first | lia | omega)) (by simpa [Str.join, Str.empty] using hout)
  refine codeAny_mono this fun r s' hr => ?_
  cases r with
  | error e => exact hr
  | ok f =>
    cases f with
    | ret v =>
      obtain ⟨Z', u, st', z, S', ru, hu, h6, ys, h7⟩ := hr
      obtain ⟨loc', ar'⟩ := st'
      cases h6
      simp only [setA, if_true] at h7
      subst h7
      obtain ⟨Z'', z', S''⟩ := Ent.less (st := ⟨st.loc, (s.heap.objs.size, ys) :: st.ar⟩) (st₀ := st) (fun y v e => e) (fun q hq => .tail _ hq) S.nd K Z' s' S'
      refine ⟨Z'', u, st, z.trans z', S'', VR.mono z' _ _ ru, ?_, rfl⟩
      rw [hu]; simp [Str.join, Str.empty]
    | next => exact hr
    | brk => exact hr
    | cont => exact hr
end

section
variable {G : Gl} {A : Around} {env : Env} {st : St} {pos apos : Pos} {Q : V → St → Prop} {params : Arguments} {body : Expr} {scope : Scope} {lpos : Pos} {mn : Str} {e : Expr} {o : Expr} {code : Array Nat} {g : List Nat → List Nat}

theorem ev_sub (O : GlOk G) (hroom : A.in1.depth < recursionLimit) (hbase : attributeBase o "sub" env (eval o env) = eval o env) (hline : (apos.endLine == pos.line) = true)
    (hs : starEach [.Lambda params body scope lpos, e] env = [(false, eval (.Lambda params body scope lpos) env), (false, eval e env)]) (La : LamSite G env params body scope lpos mn)
    (h : Ev G A env o st fun v st₁ => ∃ p, v = .raw (.ref p) ∧ Pat G p code 1 ∧ Ev G A env e st₁ fun u st₂ => ∃ x : Str, u = .str x ∧ x.length ≤ 4000000 ∧
      (∀ L' f c' st' a b (c d : Nat), c ≤ d → d ≤ x.cps.size → Ev G (A.in1.deeper (envOf (env.qual ++ Str.ofString "<lambda>") scope L' f (.ref c'))) (envOf (env.qual ++ Str.ofString "<lambda>") scope L' f (.ref c')) body ⟨[(mn, .mat x [a, b, (c : Nat), (d : Nat)])], st'⟩
        fun u st'' => st''.ar = st' ∧ u = .str (sOf (g (x.cps.extract c d).toList))) ∧
      ∃ out, SubR code x.cps g [] x.cps.toList out ∧ out.length ≤ 16777216 ∧ Q (.str (sOf out)) st₂) :
    Ev G A env (.Call (.Attribute o "sub" apos) [.Lambda params body scope lpos, e] [] pos) st Q := ⟨fun K Z s S => by
  refine wpAny_Call_method_lateS hbase (by rw [hs]; rfl) hline (h.run.use S fun Z₁ ov st₁ w s₁ z₁ S₁ r₁ hq1 => ?_)
  obtain ⟨p, hp, P, h₁⟩ := hq1
  subst hp
  obtain ⟨hT, hd⟩ := (ty_pat (L := env.locals) (st := st₁) P).run K Z₁ w s₁ S₁ r₁
  rw [of_raw r₁] at hT hd ⊢
  refine ⟨"re.Pattern", "re.Pattern.sub", pa_pat, slot_pat_sub, type_pat_sub, hT, hd, PySem.Calls.callWith_builtin (by rw [hs]; rfl) ?_⟩
  rw [hs]
  refine PySem.Calls.evalArgs_plain (PySem.Calls.spliced_cons ?_)
  refine lam_eval S₁ O La fun f Z₂ s₂ z₂ S₂ Lv => ?_
  refine PySem.Calls.spliced_cons (h₁.run.use S₂ fun Z₃ u st₃ uw s₃ z₃ S₃ r₃ hq2 => ?_)
  obtain ⟨x, hu, hx, hb, out, hsr, hlen, q⟩ := hq2
  subst hu
  obtain ⟨t, rfl⟩ := of_str r₃
  refine PySem.Calls.spliced_nil ?_
  have := sub_use (t := t) S₃ O P hx hroom (Lv.mono z₃) (La.bind _) La.loc La.co La.gen La.kind La.cell (fun L' c' st' a b c d => hb L' f c' st' a b c d) hsr hlen
  refine wpAny_mono this (fun v s' hq3 => ?_) fun _ _ x => x
  obtain ⟨Z', uu, st', z', S', ru, h5, h6⟩ := hq3
  subst h5; subst h6
  exact ⟨Z', _, _, ((z₁.trans z₂).trans z₃).trans z', S', ru, q⟩⟩
end
end Mine

set_option maxRecDepth 100000
set_option Elab.async false
set_option linter.unusedVariables false
namespace Mine
open PySem PyProof.Rows PySem.Builtin.Re PySem.W

theorem raw_map (sp : List Int) : ((sp.map rawInt).toArray.map reRawOf) = sp.toArray := by
  apply Array.ext'
  simp only [Array.toList_map, List.map_map]
  induction sp with
  | nil => rfl
  | cons a r ih => simp only [List.map_cons]; rw [ih]; rfl

section
variable {G : Gl} {A : Around} {E : Value → Shared → Prop} {K Z : Zt} {L : Addr} {st : St} {s : Shared} {Q : V → St → Prop}

theorem reFound_use (S : Sim G K Z L st s) {x : Str} {sp : List Int} {w : Value} (r : VR Z (.mat x sp) w) {P : ReFound → Shared → Prop}
    (h : ∀ t pt ps lm li b, P { fields := #[.str x t, pt, ps, lm, li, b], spans := sp.toArray } s) : wpAny G.M A (reFound w) P E s := by
  obtain ⟨a, b, t, pt, ps, lm, li, n, rfl, h1, h2⟩ := of_mat r
  unfold reFound
  refine wpAny_bind (wpAny_fieldsOf (S.zz _ _ h1) rfl ?_)
  refine wpAny_bind (reRawItems_ref (S.zz _ _ h2) rfl (wpAny_pure ?_))
  rw [raw_map]
  exact h _ _ _ _ _ _

theorem mf_group : MF "re.Match" "group" "re.Match.group" := ⟨pa_mat, slot_mat_group, type_mat_group⟩
theorem cb_group {x : Str} {a b : Int} {c d : Nat} (hx : x.length ≤ 16777216) (h : Q (.str ⟨x.cps.extract c d⟩) st) : CB G A L "re.Match.group" [.mat x [a, b, (c : Int), (d : Int)], .int 1] st Q := ⟨fun K Z ws s S r => by
  obtain ⟨w1, ws1, rfl, r1, r2⟩ := r.of_cons
  obtain ⟨w2, ws2, rfl, r3, r4⟩ := r2.of_cons
  rw [r4.of_nil]
  obtain ⟨t, rfl⟩ := of_int r3
  obtain ⟨hT, _⟩ := (ty_mat (L := L) (st := st)).run K Z _ s S r1
  refine wpAny_call_entry slot_mat_group hT entry_mat_group ?_ (args_mat_group _ _)
  unfold Builtin.«re.Match.group»
  refine wpAny_bind (wpAny_pure ?_)
  refine wpAny_bind (reFound_use S r1 fun t' pt ps lm li b' => ?_)
  show wpAny _ _ (reGroupNumber _ (.int 1 t) >>= _) _ _ s
  refine wpAny_bind ?_
  unfold reGroupNumber
  refine wpAny_bind (wpAny_pure ?_)
  refine wpAny_bind (m := asIndex (.int 1 t)) (wpAny_pure (a := (1 : Int)) ?_)
  refine wpAny_pure ?_
  refine wpAny_bind ?_
  unfold reGroupText
  show wpAny _ _ (if (decide ((c : Int) < 0) || decide ((d : Int) < 0)) = true then _ else _) _ _ s
  rw [if_neg (by simp)]
  refine wpAny_bind (reTextOf_str ?_)
  show wpAny _ _ (reSlice x.cps 0 (Int.toNat c) (Int.toNat d)) _ _ s
  rw [Int.toNat_natCast, Int.toNat_natCast]
  refine reSlice_use hx (wpAny_pure ⟨_, rfl, Post.mk S.toks vr_str h⟩)⟩
end

section
variable {G : Gl} {A : Around} {L : Addr} {st : St}
theorem tru_bool {b : Bool} {Q : Bool → St → Prop} (h : Q b st) : Tru G A L (.bool b) st Q := ⟨fun K Z w s S r => by rw [of_bool r]; exact wpAny_truthy_bool (Post.mk (R := BR) S rfl h)⟩
theorem tru_none {Q : Bool → St → Prop} (h : Q false st) : Tru G A L .none st Q := ⟨fun K Z w s S r => by rw [of_none r]; exact truthy_none (Post.mk (R := BR) S rfl h)⟩
theorem tru_str {x : Str} {Q : Bool → St → Prop} (hx : x.length ≤ 16777216) (h : Q (x.length != 0) st) : Tru G A L (.str x) st Q := ⟨fun K Z w s S r => by
  obtain ⟨t, rfl⟩ := of_str r
  refine P.truthy_str (by first | lia | omega) ?_
  have e : ((x.length : Int) != 0) = (x.length != 0) := by
    by_cases q : x.length = 0
    · simp [q]
    · have h1 : (x.length != 0) = true := by simpa using q
      have h2 : ((x.length : Int) != 0) = true := by simp; (clear h1 hx; assumption)
      rw [h1, h2]
  rw [e]
  exact Post.mk (R := BR) S.toks rfl h⟩
theorem tru_list {a : Addr} {xs : List V} {Q : Bool → St → Prop} (ha : (a, xs) ∈ st.ar) (hx : xs.length ≤ 16777216) (h : Q (!xs.isEmpty) st) : Tru G A L (.list a) st Q := ⟨fun K Z w s S r => by
  rw [of_list r]
  obtain ⟨_, _, _, ws, n, e, rs⟩ := S.ar _ ha
  have hl : ws.length = xs.length := rs.length
  refine wpAny_truthy_list (items := ws.toArray) ⟨_, e, rfl, n, rfl⟩ (by rw [List.size_toArray]; (clear e; first | lia | omega)) ?_
  have e1 : ws.toArray.isEmpty = xs.isEmpty := by cases ws <;> cases xs <;> first | rfl | simp at hl
  rw [e1]
  exact Post.mk (R := BR) S.toks rfl h⟩
theorem mat_no_bool : typeLookup (.type "re.Match") "__bool__" = pure none := by rw [typeLookup_type, builtinLookup_eq_fast]; kernel_rfl
theorem mat_no_len : typeLookup (.type "re.Match") "__len__" = pure none := by rw [typeLookup_type, builtinLookup_eq_fast]; kernel_rfl
theorem tru_mat {x : Str} {sp : List Int} {Q : Bool → St → Prop} (h : Q true st) : Tru G A L (.mat x sp) st Q := ⟨fun K Z w s S r => by
  obtain ⟨hT, _⟩ := (ty_mat (L := L) (st := st)).run K Z _ s S r
  obtain ⟨a, b, t, pt, ps, lm, li, n, rfl, h1, h2⟩ := of_mat r
  unfold truthy
  refine wpAny_bind (wpAny_callSpecial?_none hT mat_no_bool ?_)
  refine wpAny_bind (wpAny_specialOf hT mat_no_len ?_)
  exact wpAny_pure (Post.mk (R := BR) S rfl h)⟩
end
end Mine

set_option maxRecDepth 100000
set_option Elab.async false
set_option linter.unusedVariables false
namespace Mine
open PySem PyProof.Rows PySem.Builtin.Re PySem.W

section
variable {G : Gl} {A : Around} {L : Addr} {st : St} {Q : V → St → Prop}

theorem op_add_str {x y : Str} (hz : x.length + y.length ≤ 16777216) (h : Q (.str (x ++ y)) st) : Op2 G A L (binaryOp .Add) (.str x) (.str y) st Q := ⟨fun K Z w u s S r1 r2 => by
  obtain ⟨t, rfl⟩ := of_str r1
  obtain ⟨t', rfl⟩ := of_str r2
  exact SB.add (fun _ _ => Post.mk S.toks vr_str h) (by rw [sizeLine_eq]; exact hz)⟩

theorem op_quote {x : Str} (hz : x.length ≤ 1000000) (h : Q (.str (Str.ofString "\"" ++ x ++ Str.ofString "\"")) st) : Op2 G A L (binaryOp .Mod) (.str (Str.ofString "\"%s\"")) (.str x) st Q := ⟨fun K Z w u s S r1 r2 => by
  obtain ⟨t, rfl⟩ := of_str r1
  obtain ⟨t', rfl⟩ := of_str r2
  refine KPc.mod_str (X' := Str.mk #[34, 37, 115, 34]) (T := fun z => Str.ofString "\"" ++ z ++ Str.ofString "\"") (by decide +kernel) hz ?_ (fun _ _ => Post.mk S.toks vr_str h)
  kpc_run_s⟩

theorem op_isNot_none {v : V} {w₀ : Bool} (hv : ∀ Z w, VR Z v w → plainIs w .none = true ∧ (w == .none) = w₀) (h : Q (.bool (!w₀)) st) : Op2 G A L (compareOp .IsNot) v .none st Q := ⟨fun K Z w u s S r1 r2 => by
  rw [of_none r2]
  obtain ⟨h1, h2⟩ := hv Z w r1
  refine wpAny_isNot_plain h1 ?_
  rw [h2]
  exact Post.mk S vr_bool h⟩
theorem nn_none : ∀ Z w, VR Z .none w → plainIs w .none = true ∧ (w == .none) = true := fun Z w r => by rw [of_none r]; exact ⟨rfl, rfl⟩
theorem nn_str {x : Str} : ∀ Z w, VR Z (.str x) w → plainIs w .none = true ∧ (w == .none) = false := fun Z w r => by obtain ⟨t, rfl⟩ := of_str r; exact ⟨rfl, rfl⟩
theorem mf_append : MF "list" "append" "list.append" := ⟨F.plainAttrs_list, slot_list_append, F.type_list_append⟩
theorem cb_append {a : Addr} {xs : List V} {v : V} (ha : (a, xs) ∈ st.ar) (hl : xs.length ≤ 16000000) (h : Q .none ⟨st.loc, setA a (xs ++ [v]) st.ar⟩) : CB G A L "list.append" [.list a, v] st Q := ⟨fun K Z ws s S r => by
  obtain ⟨w1, ws1, rfl, r1, r2⟩ := r.of_cons
  obtain ⟨w2, ws2, rfl, r3, r4⟩ := r2.of_cons
  rw [r4.of_nil, of_list r1]
  obtain ⟨_, _, _, ws, n, e, rs⟩ := S.ar _ ha
  refine wpAny_call_entry slot_list_append ⟨_, e, rfl⟩ entry_list_append ?_ (args_list_append _ _)
  show wpAny _ _ (updateSeq a (·.push w2) >>= fun _ => ret .none) _ _ s
  exact wpAny_bind (S.push1 ha r3 (by (clear e; exact Nat.le_trans (by assumption) (by decide))) fun s' S' => wpAny_pure ⟨_, rfl, Post.mk S' vr_none h⟩)⟩
end

section
variable {G : Gl} {A : Around} {env : Env} {st : St} {pos : Pos}
theorem ex_expr {e : Expr} {Q : Fl → St → Prop} (hi : interactive env = false) (hs : swapsWith e none pos.line env = pure false) (h : Ev G A env e st fun v st₁ => v = .none ∧ Q .next st₁) : Ex G A env (.Expr e pos) st Q :=
  ⟨fun K Z s S => wpAny_Expr (h.run.use S fun Z₁ v st₁ w s₁ z₁ S₁ r₁ hq0 => by
    obtain ⟨hv, q⟩ := hq0
    subst hv
    rw [of_none r₁]
    exact ⟨Z₁, .next, st₁, z₁, S₁, rfl, q⟩) hi hs⟩

structure Jn (G : Gl) (A : Around) (env : Env) (acc : Str) (es : List Expr) (st : St) (Q : V → St → Prop) : Prop where
  run : Tri G A env.locals VR (joinParts acc (evalEach es env)) st Q
theorem jn_nil {acc : Str} {Q : V → St → Prop} (hz : acc.length ≤ 16777216) (h : Q (.str acc) st) : Jn G A env acc [] st Q := ⟨fun K Z s S => joinParts_nil (Post.mk S.toks vr_str h) (by rw [sizeLine_eq]; exact hz)⟩
theorem jn_cons {acc : Str} {e : Expr} {es : List Expr} {Q : V → St → Prop} (h : Ev G A env e st fun v st₁ => ∃ y, v = .str y ∧ (acc ++ y).length ≤ 16777216 ∧ Jn G A env (acc ++ y) es st₁ Q) : Jn G A env acc (e :: es) st Q :=
  ⟨fun K Z s S => joinParts_cons (h.run.use S fun Z₁ v st₁ w s₁ z₁ S₁ r₁ hq1 => by
    obtain ⟨y, hv, hz, h₁⟩ := hq1
    subst hv
    obtain ⟨t, rfl⟩ := of_str r₁
    exact ⟨by rw [sizeLine_eq]; exact hz, wpLe z₁ (h₁.run K Z₁ s₁ S₁)⟩)⟩
theorem ev_joined {e₁ e₂ : Expr} {es : List Expr} {Q : V → St → Prop} (h : Jn G A env Str.empty (e₁ :: e₂ :: es) st Q) : Ev G A env (.JoinedStr (e₁ :: e₂ :: es) pos) st Q := ⟨fun K Z s S => JoinedStr_many (h.run K Z s S)⟩
end
end Mine

set_option maxRecDepth 100000
set_option Elab.async false
set_option linter.unusedVariables false
namespace Mine
open PySem PyProof.Rows PySem.Builtin.Re PySem.W

section
variable {G : Gl} {A : Around} {env : Env} {st : St} {t : Expr} {body orelse : List Stmt} {Q : Fl → St → Prop}

theorem for_inv {β : Type} (f : β → V) (Inv : List β → St → Prop) (xs : List β) (h0 : Inv [] st)
    (turn : ∀ done x rest st, xs = done ++ x :: rest → Inv done st → Asg G A env t (f x) st fun st₁ => Exs G A env body st₁ fun fl st₂ => match fl with
      | .next | .cont => ∃ st₀, Ent G env.locals st₂ st₀ ∧ Inv (done ++ [x]) st₀
      | .brk => Q .next st₂
      | .ret v => Q (.ret v) st₂)
    (fin : ∀ st, Inv xs st → Exs G A env orelse st Q) : ForT G A env t body orelse (xs.map f) st Q := by
  have key : ∀ (rest done : List β) (st : St), xs = done ++ rest → Inv done st → ForT G A env t body orelse (rest.map f) st Q := by
    intro rest
    induction rest with
    | nil => intro done st e hi; rw [List.append_nil] at e; subst e; exact for_nil (fin st hi)
    | cons x rest ih =>
      intro done st e hi
      have ht := turn done x rest st e hi
      refine for_cons ⟨fun K Z w s S r => wpAny_mono (ht.run K Z w s S r) (fun _ s' hm0 => ?_) fun _ _ q => q⟩
      obtain ⟨Z', _, st', z, S', u, h'⟩ := hm0
      refine ⟨Z', (), st', z, S', u, ?_⟩
      refine Exs.mono h' fun fl st₂ h₂ => ?_
      cases fl with
      | next => obtain ⟨st₀, he, hi'⟩ := h₂; exact ForT.ent he (ih (done ++ [x]) st₀ (by rw [e]; simp) hi')
      | cont => obtain ⟨st₀, he, hi'⟩ := h₂; exact ForT.ent he (ih (done ++ [x]) st₀ (by rw [e]; simp) hi')
      | brk => exact h₂
      | ret v => exact h₂
  exact key xs [] st rfl h0
end

theorem exs_mid {G : Gl} {A : Around} {env : Env} {st : St} {x : Stmt} {rest : List Stmt} {Q : Fl → St → Prop} (P : St → Prop) (h : Ex G A env x st fun f st₁ => f = .next ∧ P st₁) (h' : ∀ st₁, P st₁ → Exs G A env rest st₁ Q) : Exs G A env (x :: rest) st Q :=
  exs_cons (h.mono fun f st₁ hq0 => by obtain ⟨e, p⟩ := hq0; subst e; exact h' st₁ p)
theorem Asg.mono {G : Gl} {A : Around} {env : Env} {st : St} {t : Expr} {v : V} {Q Q' : St → Prop} (h : Asg G A env t v st Q) (hQ : ∀ st', Q st' → Q' st') : Asg G A env t v st Q' :=
  ⟨fun K Z w s S r => wpAny_mono (h.run K Z w s S r) (fun _ s' hm1 => by obtain ⟨Z', _, st', z, S', u, h'⟩ := hm1; exact ⟨Z', (), st', z, S', u, hQ _ h'⟩) fun _ _ q => q⟩

noncomputable def subLoc (l₀ l : List (Str × V)) : Prop := ∀ x v, l₀.lookup x = some v → l.lookup x = some v
theorem subLoc.nil {l : List (Str × V)} : subLoc [] l := fun _ _ h => by cases h
theorem subLoc.cons {l₀ l : List (Str × V)} {x : Str} {v : V} (h : l.lookup x = some v) (h' : subLoc l₀ l) : subLoc ((x, v) :: l₀) l := fun y u e => by
  rw [List.lookup_cons] at e
  cases q : y == x with
  | true => rw [q] at e; cases e; rw [eq_of_beq q]; exact h
  | false => rw [q] at e; exact h' y u e
theorem ent_less {G : Gl} {L : Addr} {l l₀ : List (Str × V)} {ar ar₀ : List (Addr × List V)} (hl : subLoc l₀ l) (ha : ∀ p ∈ ar₀, p ∈ ar) (hn : (ar.map (·.1)).Nodup → (ar₀.map (·.1)).Nodup) : Ent G L ⟨l, ar⟩ ⟨l₀, ar₀⟩ := fun K Z s S =>
  Ent.less (st := ⟨l, ar⟩) (st₀ := ⟨l₀, ar₀⟩) hl ha (hn S.nd) K Z s S
theorem ent_loc {G : Gl} {L : Addr} {l l₀ : List (Str × V)} {ar : List (Addr × List V)} (hl : subLoc l₀ l) : Ent G L ⟨l, ar⟩ ⟨l₀, ar⟩ := ent_less hl (fun _ h => h) id
theorem ent_set {G : Gl} {L : Addr} {l l₀ : List (Str × V)} {ar ar₀ : List (Addr × List V)} (ha : ar = ar₀) (hl : subLoc l₀ l) : Ent G L ⟨l, ar⟩ ⟨l₀, ar₀⟩ := by subst ha; exact ent_loc hl
theorem ent_drop {G : Gl} {L : Addr} {l l₀ : List (Str × V)} {p : Addr × List V} {ar : List (Addr × List V)} (hl : subLoc l₀ l) : Ent G L ⟨l, p :: ar⟩ ⟨l₀, ar⟩ := ent_less hl (fun _ h => .tail _ h) fun h => (List.nodup_cons.mp h).2
end Mine

set_option maxRecDepth 100000
set_option Elab.async false
set_option linter.unusedVariables false
namespace Mine
open PySem PyProof.Rows PySem.W

noncomputable abbrev frs (env : Env) (outer : List Env) : List Addr := (env :: outer).filterMap (·.frame)
noncomputable abbrev hid (h : Heap) (env : Env) (outer : List Env) : Heap := hideAll h (frs env outer)
structure KF (K : Zt) (outer : List Env) : Prop where
  fr : ∀ e ∈ outer, e.scope.kind ≠ .module ∧ ∃ L o, e.frame = some L ∧ K L = some o ∧ ∀ vs, o.data ≠ .fields vs
theorem KF.le {K K' : Zt} {outer : List Env} (h : KF K outer) (hle : Zle K K') : KF K' outer :=
  ⟨fun e he => by obtain ⟨a, L, o, b, c, d⟩ := h.fr e he; exact ⟨a, L, o, b, hle _ _ c, d⟩⟩
theorem KF.nil {K : Zt} : KF K [] := ⟨fun e h => by cases h⟩
theorem ff_of {h base : Heap} : ∀ l : List Env, (∀ e ∈ l, e.scope.kind ≠ .module ∧ ∃ L o, e.frame = some L ∧ base.get? L = none ∧ h.get? L = some o ∧ ∀ vs, o.data ≠ .fields vs) → h.FunFrames base l
  | [], _ => trivial
  | e :: l, hl => ⟨(hl e (.head _)).1, (hl e (.head _)).2, ff_of l fun x hx => hl x (.tail _ hx)⟩
section
variable {G : Gl} {A : Around} {env : Env} {outer : List Env} {K Z : Zt} {st : St} {s : Shared}
theorem ff_here (S : Sim G K Z env.locals st s) (hf : env.frame = some env.locals) (hk : env.scope.kind ≠ .module) (hK : KF K outer) : s.heap.FunFrames (hid s.heap env outer) (env :: outer) := by
  refine ff_of _ fun e he => ?_
  have hm : ∀ L, e.frame = some L → L ∈ frs env outer := fun L hL => List.mem_filterMap.mpr ⟨e, he, hL⟩
  rcases List.mem_cons.mp he with rfl | h
  · obtain ⟨m, ⟨o, es, ep, ho, hd, _⟩, _⟩ := S.ns
    exact ⟨hk, _, o, hf, hideAll_none _ (hm _ hf), ho, fun vs q => by rw [hd] at q; cases q⟩
  · obtain ⟨a, L, o, b, c, d⟩ := hK.fr e h
    exact ⟨a, L, o, b, hideAll_none _ (hm _ b), S.kk _ _ c, d⟩
inductive Thr (G : Gl) (K Z : Zt) (env : Env) (outer : List Env) (X : String → Prop) (b : Bool) : Value → Shared → Prop
  | mk (Z' : Zt) (st' : St) (s₀ : Shared) (e : Addr) (cls : String) (s'' : Shared) (z : Zle Z Z') (S : Sim G K Z' env.locals st' s₀) (hX : X cls) (hg : s''.gens = s₀.gens) (ho : s''.os = s₀.os)
      (h : (b = false ∧ Heap.NewExc s₀.heap s''.heap e cls) ∨ ∃ a0, Heap.HeldW (hid s₀.heap env outer) (env :: outer) e (.type cls) a0 env.locals s''.heap ∧ s₀.heap.UpToSlots s''.heap) : Thr G K Z env outer X b (.ref e) s''
theorem Thr.le {Z₁ : Zt} {X : String → Prop} {b : Bool} {x : Value} {s' : Shared} (h : Thr G K Z₁ env outer X b x s') (hz : Zle Z Z₁) : Thr G K Z env outer X b x s' := by
  obtain ⟨Z', st', s₀, e, cls, _, z, S, hX, hg, ho, h⟩ := h
  exact ⟨Z', st', s₀, e, cls, _, hz.trans z, S, hX, hg, ho, h⟩
theorem Thr.lessK {K' : Zt} {X : String → Prop} {b : Bool} {x : Value} {s' : Shared} (h : Thr G K' Z env outer X b x s') (hK : ∀ Z' st' s₀, Sim G K' Z' env.locals st' s₀ → Sim G K Z' env.locals st' s₀) : Thr G K Z env outer X b x s' := by
  obtain ⟨Z', st', s₀, e, cls, _, z, S, hX, hg, ho, h⟩ := h
  exact ⟨Z', st', s₀, e, cls, _, z, hK _ _ _ S, hX, hg, ho, h⟩
theorem Thr.any {X : String → Prop} {b : Bool} {x : Value} {s' : Shared} (h : Thr G K Z env outer X true x s') : Thr G K Z env outer X b x s' := by
  obtain ⟨Z', st', s₀, e, cls, _, z, S, hX, hg, ho, h⟩ := h
  refine ⟨Z', st', s₀, e, cls, _, z, S, hX, hg, ho, ?_⟩
  rcases h with ⟨h, _⟩ | h
  · cases h
  · exact .inr h
theorem NewExc.same {h h' : Heap} {e : Addr} {cls : String} (x : Heap.NewExc h h' e cls) : h.UpToSlots h' := .of_keeps x.keeps
theorem Thr.note {X : String → Prop} {b : Bool} {x : Value} (hfr : A.frames = some (env :: outer)) (hf : env.frame = some env.locals) (hk : env.scope.kind ≠ .module) (hK : KF K outer)
    (h : Thr G K Z env outer X b x s) {E' : Value → Shared → Prop} (hE : ∀ s', Thr G K Z env outer X true x s' → E' x s') : notedBy G.M A env E' x s := by
  obtain ⟨Z', st', s₀, e, cls, s, z, S, hX, hg, ho, h⟩ := h
  show wpAny G.M A (noteFrame (.ref e) env) (fun _ s'' => E' (.ref e) s'') E' s
  have hF := ff_here S hf hk hK
  rcases h with ⟨_, x⟩ | ⟨a0, hh, hu⟩
  · obtain ⟨ob, t, he, hc, hd⟩ := x.there
    have fresh : ∀ b, s₀.heap.get? b = none → (hid s₀.heap env outer).get? b = none := fun b hb => by
      cases q : (hid s₀.heap env outer).get? b with
      | none => rfl
      | some o => rw [of_hideAll _ q] at hb; cases hb
    unfold noteFrame
    simp only [hf]
    refine wpAny_bind (wpAny_field (x := Value.none) he hd rfl ?_)
    rw [if_neg (show ¬ ((Value.none != Value.none) = true) by decide)]
    refine wpAny_entryW (base := hid s₀.heap env outer) (a0 := t) hfr (hF.of_keeps fun b o hb _ => ⟨o, x.keeps b o hb, rfl⟩) hf he (fun b o hb => x.keeps b o (of_hideAll _ hb)) (fresh e x.new) hd (show 1 < 6 by decide) rfl fun h' hN => ?_
    obtain ⟨k1, k2, k3, k4⟩ := hN
    rw [hc] at k3
    exact hE _ ⟨Z', st', s₀, e, cls, _, z, S, hX, hg, ho, .inr ⟨t, ⟨k1, fresh e x.new, k2, k3⟩, (NewExc.same x).trans k4⟩⟩
  · exact wpAny_noteFrame_againW hf hh.2.2.2 (hE _ ⟨Z', st', s₀, e, cls, _, z, S, hX, hg, ho, .inr ⟨a0, hh, hu⟩⟩)
theorem Thr.back {X : String → Prop} {x : Value} (hf : env.frame = some env.locals) (h : Thr G K Z env outer X true x s) : cameBackBy G.M A env (Thr G K Z env outer X false) x s := by
  obtain ⟨Z', st', s₀, e, cls, s, z, S, hX, hg, ho, h⟩ := h
  rcases h with ⟨h, _⟩ | ⟨a0, ⟨f1, f2, f3, f4⟩, hu⟩
  · cases h
  obtain ⟨oe, vs, T, oT, ts, he, hcls, hd, h1, hnT, hTe, hT, hdT, h3⟩ := f4
  have hsz3 : 3 < ts.size := (Array.getElem?_eq_some_iff.mp h3).1
  have other : ∀ b, b ≠ T → (s.heap.update T (Obj.mapFields (·.setIfInBounds 3 ((env.frame).elim Value.none fun f => rawInt f)))).get? b = s.heap.get? b :=
    fun b hb => Heap.get?_update_other _ _ (Ne.symm hb)
  have noRecord : ∀ b o, s.heap.get? b = some o → (∀ vs, o.data ≠ .fields vs) → b ≠ T := fun b o hb hnf q => by
    rw [q, hT] at hb; injection hb with hb; subst hb; exact hnf ts hdT
  show wpAny G.M A (do
    if (← field (.ref e) 1) == .none then unsupported "frame.own-activation:exception-without-traceback"
    setFlight (.ref e) env.frame) (fun _ s'' => Thr G K Z env outer X false (.ref e) s'') _ s
  refine wpAny_bind (wpAny_field he hd h1 ?_)
  rw [if_neg (show ¬ ((Value.ref T == Value.none) = true) from by simp)]
  unfold setFlight
  refine wpAny_bind (wpAny_field he hd h1 ?_)
  rw [if_pos (show (Value.ref T != Value.none) = true from by simp)]
  refine wpAny_setField hT hdT hsz3 ?_
  refine ⟨Z', st', s₀, e, cls, _, z, S, hX, hg, ho, .inr ⟨a0, ⟨fun b o hbo => (other b fun q => by rw [q, hnT] at hbo; cases hbo).trans (f1 b o hbo), f2, f3.of_keeps fun b o hb hnf => ⟨o, (other b (noRecord b o hb hnf)).trans hb, rfl⟩, ?_⟩, ?_⟩⟩
  · exact ⟨oe, vs, T, _, _, (other e (Ne.symm hTe)).trans he, hcls, hd, h1, hnT, hTe, Heap.get?_update_self _ hT (Obj.isFreed_of_fields (Obj.data_mapFields hdT _)), Obj.data_mapFields hdT _, by simp [hsz3, hf]⟩
  · exact hu.trans fun b o hb hnf => ⟨o.slots, (other b (noRecord b o hb hnf)).trans hb⟩
end
end Mine

set_option maxRecDepth 100000
set_option Elab.async false
set_option linter.unusedVariables false
namespace Mine
open PySem PyProof.Rows PySem.W

noncomputable def TriX (G : Gl) (A : Around) (env : Env) (outer : List Env) (X : String → Prop) {α β : Type} (R : Zt → β → α → Prop) (t : Sem α) (st : St) (Q : β → St → Prop) : Prop :=
  ∀ K Z s, KF K outer → Sim G K Z env.locals st s → wpAny G.M A t (Post G K Z env.locals R Q) (Thr G K Z env outer X false) s
structure Here (A : Around) (env : Env) (outer : List Env) : Prop where
  fr : A.frames = some (env :: outer)
  loc : env.frame = some env.locals
  kind : env.scope.kind ≠ .module
section
variable {G : Gl} {A : Around} {env : Env} {outer : List Env} {X : String → Prop} {α β : Type} {st : St}
theorem TriX.of {R : Zt → β → α → Prop} {t : Sem α} {Q : β → St → Prop} (h : Tri G A env.locals R t st Q) : TriX G A env outer X R t st Q := fun K Z s _ S => wpAny_mono (h K Z s S) (fun _ _ x => x) fun _ _ x => x.elim
theorem TriX.use {R : Zt → β → α → Prop} {t : Sem α} {Q : β → St → Prop} (h : TriX G A env outer X R t st Q) {K Z : Zt} {s : Shared} (hK : KF K outer) (S : Sim G K Z env.locals st s) {P : α → Shared → Prop}
    (f : ∀ Z' v st' w s', Zle Z Z' → Sim G K Z' env.locals st' s' → R Z' v w → Q v st' → P w s') : wpAny G.M A t P (Thr G K Z env outer X false) s :=
  wpAny_mono (h K Z s hK S) (fun w s' hm0 => by obtain ⟨Z', v, st', a, b, c, d⟩ := hm0; exact f Z' v st' w s' a b c d) fun _ _ x => x
theorem wpLeX {K Z Z₁ : Zt} {R : Zt → β → α → Prop} {Q : β → St → Prop} {t : Sem α} {s : Shared} (hz : Zle Z Z₁) (h : wpAny G.M A t (Post G K Z₁ env.locals R Q) (Thr G K Z₁ env outer X false) s) : wpAny G.M A t (Post G K Z env.locals R Q) (Thr G K Z env outer X false) s :=
  wpAny_mono h (fun _ _ p => p.le hz) fun _ _ x => x.le hz
theorem TriX.ent {st₀ : St} {R : Zt → β → α → Prop} {t : Sem α} {Q : β → St → Prop} (he : Ent G env.locals st st₀) (h : TriX G A env outer X R t st₀ Q) : TriX G A env outer X R t st Q := fun K Z s hK S => by
  obtain ⟨Z', a, b⟩ := he K Z s S
  exact wpLeX a (h K Z' s hK b)
end
structure EvX (G : Gl) (A : Around) (env : Env) (outer : List Env) (X : String → Prop) (e : Expr) (st : St) (Q : V → St → Prop) : Prop where
  run : TriX G A env outer X VR (eval e env) st Q
structure TstX (G : Gl) (A : Around) (env : Env) (outer : List Env) (X : String → Prop) (e : Expr) (st : St) (Q : Bool → St → Prop) : Prop where
  run : TriX G A env outer X BR (isTrue e env (eval e env)) st Q
structure EvsX (G : Gl) (A : Around) (env : Env) (outer : List Env) (X : String → Prop) (es : List Expr) (st : St) (Q : List V → St → Prop) : Prop where
  run : ∀ pos, TriX G A env outer X VRs (spliced (backTo pos (starEach es env))) st Q
structure ExsX (G : Gl) (A : Around) (env : Env) (outer : List Env) (X : String → Prop) (ss : List Stmt) (st : St) (Q : Fl → St → Prop) : Prop where
  run : TriX G A env outer X FR (execs ss env) st Q
structure ExX (G : Gl) (A : Around) (env : Env) (outer : List Env) (X : String → Prop) (x : Stmt) (st : St) (Q : Fl → St → Prop) : Prop where
  run : TriX G A env outer X FR (exec x env) st Q
structure AsgX (G : Gl) (A : Around) (env : Env) (outer : List Env) (X : String → Prop) (t : Expr) (v : V) (st : St) (Q : St → Prop) : Prop where
  run : ∀ K Z w s, KF K outer → Sim G K Z env.locals st s → VR Z v w → wpAny G.M A (assign t env w) (Post G K Z env.locals UR fun _ => Q) (Thr G K Z env outer X false) s
structure CBX (G : Gl) (A : Around) (env : Env) (outer : List Env) (X : String → Prop) (id : String) (vs : List V) (st : St) (Q : V → St → Prop) : Prop where
  run : ∀ K Z ws s, KF K outer → Sim G K Z env.locals st s → VRs Z vs ws → wpAny G.M A (call (.builtin id) ws) (Post G K Z env.locals VR Q) (Thr G K Z env outer X false) s
section
variable {G : Gl} {A : Around} {env : Env} {outer : List Env} {X : String → Prop} {st : St} {pos apos : Pos}
theorem EvX.of {e : Expr} {Q : V → St → Prop} (h : Ev G A env e st Q) : EvX G A env outer X e st Q := ⟨.of h.run⟩
theorem TstX.of {e : Expr} {Q : Bool → St → Prop} (h : Tst G A env e st Q) : TstX G A env outer X e st Q := ⟨.of h.run⟩
theorem ExX.of {x : Stmt} {Q : Fl → St → Prop} (h : Ex G A env x st Q) : ExX G A env outer X x st Q := ⟨.of h.run⟩
theorem ExsX.of {ss : List Stmt} {Q : Fl → St → Prop} (h : Exs G A env ss st Q) : ExsX G A env outer X ss st Q := ⟨.of h.run⟩
theorem AsgX.of {t : Expr} {v : V} {Q : St → Prop} (h : Asg G A env t v st Q) : AsgX G A env outer X t v st Q := ⟨fun K Z w s _ S r => wpAny_mono (h.run K Z w s S r) (fun _ _ x => x) fun _ _ x => x.elim⟩
theorem CBX.of {id : String} {vs : List V} {Q : V → St → Prop} (h : CB G A env.locals id vs st Q) : CBX G A env outer X id vs st Q := ⟨fun K Z ws s _ S r => wpAny_mono (h.run K Z ws s S r) (fun _ _ x => x) fun _ _ x => x.elim⟩
theorem ExsX.ent {ss : List Stmt} {Q : Fl → St → Prop} {st₀ : St} (he : Ent G env.locals st st₀) (h : ExsX G A env outer X ss st₀ Q) : ExsX G A env outer X ss st Q := ⟨.ent he h.run⟩
theorem exsX_nil {Q : Fl → St → Prop} (h : Q .next st) : ExsX G A env outer X [] st Q := .of (exs_nil h)
noncomputable abbrev NxtX (G : Gl) (A : Around) (env : Env) (outer : List Env) (X : String → Prop) (rest : List Stmt) (Q : Fl → St → Prop) (f : Fl) (st₁ : St) : Prop := match f with | .next => ExsX G A env outer X rest st₁ Q | f => Q f st₁
theorem exsX_cons {x : Stmt} {rest : List Stmt} {Q : Fl → St → Prop} (h : ExX G A env outer X x st (NxtX G A env outer X rest Q)) : ExsX G A env outer X (x :: rest) st Q :=
  ⟨fun K Z s hK S => wpAny_execs_cons (h.run.use hK S fun Z₁ f st₁ fl s₁ z₁ S₁ r₁ h₁ => by
    cases f with
    | next => cases r₁; exact wpLeX z₁ (h₁.run K Z₁ s₁ hK S₁)
    | brk => cases r₁; exact ⟨Z₁, .brk, st₁, z₁, S₁, rfl, h₁⟩
    | cont => cases r₁; exact ⟨Z₁, .cont, st₁, z₁, S₁, rfl, h₁⟩
    | ret v => obtain ⟨w, rfl, r⟩ := r₁; exact ⟨Z₁, .ret v, st₁, z₁, S₁, ⟨w, rfl, r⟩, h₁⟩)⟩
theorem exX_if {t : Expr} {b o : List Stmt} {Q : Fl → St → Prop} (h : TstX G A env outer X t st fun c st₁ => if c then ExsX G A env outer X b st₁ Q else ExsX G A env outer X o st₁ Q) : ExX G A env outer X (.If t b o pos) st Q :=
  ⟨fun K Z s hK S => wpAny_If (h.run.use hK S fun Z₁ c st₁ w s₁ z₁ S₁ e h₁ => by
    cases e
    cases c
    · exact wpLeX z₁ (h₁.run K Z₁ s₁ hK S₁)
    · exact wpLeX z₁ (h₁.run K Z₁ s₁ hK S₁))⟩
theorem tstX_not {x : Expr} {Q : Bool → St → Prop} (h : TstX G A env outer X x st fun b st₁ => Q (!b) st₁) : TstX G A env outer X (.UnaryOp .Not x pos) st Q :=
  ⟨fun K Z s hK S => isTrue_not (h.run.use hK S fun Z₁ b st₁ c s₁ z₁ S₁ e q => by cases e; exact ⟨Z₁, _, st₁, z₁, S₁, rfl, q⟩)⟩
theorem tstX_plain {e : Expr} {Q : Bool → St → Prop} (he : ∀ whole, isTrue e env whole = (do let v ← whole; standAt e.pos; holding [v] (truthy v)))
    (h : EvX G A env outer X e st fun v st₁ => Tru G A env.locals v st₁ Q) : TstX G A env outer X e st Q :=
  ⟨fun K Z s hK S => isTrue_plain (h.run.use hK S fun Z₁ v st₁ w s₁ z₁ S₁ r₁ h₁ => wpAny_mono (wpLe z₁ (h₁.run K Z₁ w s₁ S₁ r₁)) (fun _ _ x => x) fun _ _ x => x.elim) (he _)⟩
theorem exX_expr {e : Expr} {Q : Fl → St → Prop} (hi : interactive env = false) (hs : swapsWith e none pos.line env = pure false) (h : EvX G A env outer X e st fun v st₁ => v = .none ∧ Q .next st₁) : ExX G A env outer X (.Expr e pos) st Q :=
  ⟨fun K Z s hK S => wpAny_Expr (h.run.use hK S fun Z₁ v st₁ w s₁ z₁ S₁ r₁ hq0 => by
    obtain ⟨hv, q⟩ := hq0
    subst hv
    rw [of_none r₁]
    exact ⟨Z₁, .next, st₁, z₁, S₁, rfl, q⟩) hi hs⟩
theorem evsX_nil {Q : List V → St → Prop} (h : Q [] st) : EvsX G A env outer X [] st Q := ⟨fun p => .of ((evs_nil h).run p)⟩
theorem evsX_cons {e : Expr} {es : List Expr} {Q : List V → St → Prop} (hs : starEach (e :: es) env = (false, eval e env) :: starEach es env)
    (h : EvX G A env outer X e st fun v st₁ => EvsX G A env outer X es st₁ fun vs st₂ => Q (v :: vs) st₂) : EvsX G A env outer X (e :: es) st Q := ⟨fun p K Z s hK S => by
  rw [hs]
  exact Calls.spliced_cons (h.run.use hK S fun Z₁ v st₁ w s₁ z₁ S₁ r₁ h₁ => wpAny_mono ((h₁.run p).use hK S₁ fun Z₂ vs st₂ ws s₂ z₂ S₂ r₂ q =>
    (⟨Z₂, v :: vs, st₂, z₁.trans z₂, S₂, .cons (VR.mono z₂ _ _ r₁) r₂, q⟩ : Post G K Z env.locals VRs Q _ _)) (fun _ _ x => x) fun _ _ x => x.le z₁)⟩
theorem evX_meth {o e : Expr} {es : List Expr} {name : Str} {Q : V → St → Prop} (hbase : attributeBase o name env (eval o env) = eval o env) (hline : (apos.endLine == pos.line) = true)
    (hfew : ((backTo pos (starEach (e :: es) env)).all (fun x => !x.1) && (backToKw pos (keywordEach [] env)).all (fun x => x.1.isSome)
      && decide ((e :: es).length + ([] : List Keyword).length + (if ([] : List Keyword).isEmpty then 0 else 1) < 30)) = true)
    (hp : (backTo pos (starEach (e :: es) env)).any (·.1) = false) (hs : starEach (e :: es) env = (false, eval e env) :: starEach es env)
    (h : Ev G A env o st fun ov st₁ => ∃ T id, MF T name id ∧ TyV G env.locals ov st₁ T ∧ EvsX G A env outer X (e :: es) st₁ fun vs st₂ => CBX G A env outer X id (ov :: vs) st₂ Q) :
    EvX G A env outer X (.Call (.Attribute o name apos) (e :: es) [] pos) st Q := ⟨fun K Z s hK S => by
  refine wpAny_Call_method_lateS hbase hfew hline ((TriX.of h.run).use hK S fun Z₁ ov st₁ w s₁ z₁ S₁ r₁ hq0 => ?_)
  obtain ⟨T, id, mf, ty, h₁⟩ := hq0
  obtain ⟨hT, hd⟩ := ty.run K Z₁ w s₁ S₁ r₁
  refine ⟨T, id, mf.pa, mf.slot, mf.ty, hT, hd, PySem.Calls.callWith_builtin hp ?_⟩
  have h2 := (h₁.run pos).use (P := fun vs s' => wpAny G.M A (call (.builtin id) ([w] ++ vs) []) (Post G K Z env.locals VR Q) (Thr G K Z env outer X false) s') hK S₁ fun Z₂ vs st₂ ws s₂ z₂ S₂ r₂ hc =>
    wpLeX (z₁.trans z₂) (hc.run K Z₂ (w :: ws) s₂ hK S₂ (.cons (VR.mono z₂ _ _ r₁) r₂))
  rw [hs] at h2 ⊢
  exact PySem.Calls.evalArgs_plain (wpAny_mono h2 (fun _ _ x => x) fun _ _ x => x.le z₁)⟩
end

noncomputable def OkX (P : Flow → Shared → Prop) (T : Value → Shared → Prop) : Result → Shared → Prop
  | .ok f, s => P f s
  | .error x, s => T x s
section
variable {prog : Program} {w : World} {A : Around} {s : Shared} {env : Env}
theorem codeAny_forTurnX {R : Result → Shared → Prop} {target it body orelse}
    (h : wpAny (model prog w) A (pyNext it) (fun r s₁ => match r with
      | none => wpAny (model prog w) A (execs orelse env) (fun f s₃ => R (.ok f) s₃) (notedBy (model prog w) A env fun e s' => R (.error e) s') s₁
      | some v => wpAny (model prog w) A (letOwnedTupleGo target it v) (fun _ s₁' =>
          wpAny (model prog w) A (assign target env v) (fun _ s₂ => wpAny (model prog w) A (execs body env) (fun f s₃ => match f with
            | .next | .cont => codeAny (model prog w) A (.forLoop target it body orelse env) R s₃
            | .brk => R (.ok .next) s₃
            | .ret v => R (.ok (.ret v)) s₃) (notedBy (model prog w) A env fun e s' => R (.error e) s') s₂) (notedBy (model prog w) A env fun e s' => R (.error e) s') s₁') (notedBy (model prog w) A env fun e s' => R (.error e) s') s₁) (notedBy (model prog w) A env fun e s' => R (.error e) s') s) :
    codeAny (model prog w) A (.forLoop target it body orelse env) R s := by
  refine codeAny_of_tree ?_
  show wpAny _ (A.under (.forLoop target it body orelse env)) ((forTurn target it body orelse env).onRaise (fun x => do noteFrame x env; theTreesLotGoes x)) _ _ s
  rw [Around.under_of_weight (c := .forLoop target it body orelse env) rfl rfl]
  refine wpAny_noted ?_
  simp only [forTurn]
  refine wpAny_bind (wpAny_standAt (wpAny_bind (wpAny_onRaise (wpAny_mono h (fun r s₁ h₁ => ?_) fun _ _ h' => wpAny_standAt h'))))
  cases r with
  | none => exact wpAny_pure ⟨rfl, codeAny_block h₁⟩
  | some v =>
    refine wpAny_bind (wpAny_mono h₁ (fun _ s₁' h₁' => ?_) fun _ _ h' => h')
    refine wpAny_bind (wpAny_mono h₁' (fun _ s₂ h₂ => wpAny_bind (wpAny_mono h₂ (fun f s₃ h₃ => ?_) fun _ _ h' => h')) fun _ _ h' => h')
    cases f with
    | next => exact wpAny_pure ⟨rfl, h₃⟩
    | cont => exact wpAny_pure ⟨rfl, h₃⟩
    | brk => exact wpAny_pure h₃
    | ret v => exact wpAny_pure h₃
end
structure ForX (G : Gl) (A : Around) (env : Env) (outer : List Env) (X : String → Prop) (t : Expr) (body orelse : List Stmt) (xs : List V) (st : St) (Q : Fl → St → Prop) : Prop where
  run : ∀ K Z s it done P o, KF K outer → Itr G A Z it (done ++ xs) P → Sim G K Z env.locals st s → s.heap.get? it = some o → P done.length o → ¬ Tracked G K Z env.locals st it →
    codeAny G.M A (.forLoop t (.ref it) body orelse env) (OkX (Post G K Z env.locals FR Q) (Thr G K Z env outer X true)) s
section
variable {G : Gl} {A : Around} {env : Env} {outer : List Env} {X : String → Prop} {st : St} {pos : Pos} {t : Expr} {body orelse : List Stmt} {Q : Fl → St → Prop}
theorem OkX.le {K Z Z₁ : Zt} (hz : Zle Z Z₁) {r : Result} {s' : Shared} (h : OkX (Post G K Z₁ env.locals FR Q) (Thr G K Z₁ env outer X true) r s') : OkX (Post G K Z env.locals FR Q) (Thr G K Z env outer X true) r s' := by
  cases r with
  | ok f => exact Post.le h hz
  | error x => exact Thr.le h hz
theorem ForX.ent {xs : List V} {st₀ : St} (he : Ent G env.locals st st₀) (h : ForX G A env outer X t body orelse xs st₀ Q) : ForX G A env outer X t body orelse xs st Q :=
  ⟨fun K Z s it done P o hF I S ho hp ht => by
    have hK : K it = none := by
      cases q : K it with
      | none => rfl
      | some o' => exact absurd (.inl ⟨o', q⟩) ht
    have S₁ := S.addK ht ho
    obtain ⟨Z', z, S'⟩ := he _ _ _ S₁
    have ht' := not_tracked_dropK S' hK
    exact codeAny_mono (h.run K Z' s it done P o hF (I.mono z) (S'.lessK (Zset.le' hK)) ho hp ht') fun r s' hr => hr.le z⟩
theorem forX_nil (h : Exs G A env orelse st Q) : ForX G A env outer X t body orelse [] st Q :=
  ⟨fun K Z s it done P o hF I S ho hp ht => by
    refine codeAny_forTurnX (wpAny_mono (E := Nope) (I.done s o _ S.zz ho (by simpa using hp) fun h' hx => ?_) (fun _ _ x => x) fun _ _ x => x.elim)
    exact wpAny_mono (h.run K Z _ (S.ext hx ht)) (fun _ _ x => x) fun _ _ x => x.elim⟩
theorem forX_cons {x : V} {xs : List V} (H : Here A env outer) (h : AsgX G A env outer X t x st fun st₁ => ExsX G A env outer X body st₁ fun f st₂ => match f with
    | .next | .cont => ForX G A env outer X t body orelse xs st₂ Q
    | .brk => Q .next st₂
    | .ret v => Q (.ret v) st₂) : ForX G A env outer X t body orelse (x :: xs) st Q :=
  ⟨fun K Z s it done P o hF I S ho hp ht => by
    have hK : K it = none := by
      cases q : K it with
      | none => rfl
      | some o' => exact absurd (.inl ⟨o', q⟩) ht
    refine codeAny_forTurnX (wpAny_mono (E := Nope) (I.next (i := done.length) (v := x) (by simp) s o _ S.zz ho hp fun w h' tk o' r ho' hp' hsb => ?_) (fun _ _ x => x) fun _ _ x => x.elim)
    have S₁ : Sim G K Z env.locals st { s with heap := h', toks := tk } := S.ext hsb.extBut ht
    obtain ⟨T, vs, hT, hc, hd⟩ := I.kind _ _ hp'
    have hF' : KF (Zset K it o') outer := hF.le (Zset.le' hK)
    have note : ∀ {Z₁ : Zt} {s' : Shared} (e : Value), Zle Z Z₁ → Thr G (Zset K it o') Z₁ env outer X false e s' →
        notedBy G.M A env (fun e s' => OkX (Post G K Z env.locals FR Q) (Thr G K Z env outer X true) (.error e) s') e s' := fun {Z₁ s'} e z hT => hT.note H.fr H.loc H.kind hF' fun s'' h' =>
          ((h'.lessK fun _ _ _ S => S.lessK (Zset.le' hK)).le z : Thr G K Z env outer X true e s'')
    refine wpAny_mono (E := Nope) (letOwned_ok (Q := fun _ s' => s' = { s with heap := h', toks := tk }) ho' hT hc hd rfl) (fun _ sX heX => ?_) fun _ _ x => x.elim
    subst heX
    refine wpAny_mono (h.run _ Z w _ hF' (S₁.addK ht ho') r) (fun _ s₂ hq0 => ?_) fun e _ x => note e .refl x
    obtain ⟨Z₂, _, st₂, z₂, S₂, _, h₂⟩ := hq0
    refine wpAny_mono (h₂.run _ Z₂ s₂ hF' S₂) (fun f s₃ hq1 => ?_) fun e _ x => note e z₂ x
    obtain ⟨Z₃, fl, st₃, z₃, S₃, r₃, h₃⟩ := hq1
    have z := z₂.trans z₃
    have S₄ := S₃.lessK (Zset.le' (o := o') hK)
    have ht₃ := not_tracked_dropK S₃ hK
    have again : ForX G A env outer X t body orelse xs st₃ Q → codeAny G.M A (.forLoop t (.ref it) body orelse env) (OkX (Post G K Z env.locals FR Q) (Thr G K Z env outer X true)) s₃ := fun hf =>
      codeAny_mono (hf.run K Z₃ s₃ it (done ++ [x]) P o' hF (by rw [List.append_assoc]; exact I.mono z) S₄ (S₃.kk _ _ Zset.self) (by simpa using hp') ht₃) fun r s' hr => hr.le z
    cases fl with
    | next => cases r₃; exact again h₃
    | cont => cases r₃; exact again h₃
    | brk => cases r₃; exact ⟨Z₃, .next, st₃, z, S₄, rfl, h₃⟩
    | ret v => obtain ⟨u, rfl, hu⟩ := r₃; exact ⟨Z₃, .ret v, st₃, z, S₄, ⟨u, rfl, hu⟩, h₃⟩⟩
theorem exX_for {iter : Expr} (H : Here A env outer) (hA : A.handled = none) (hs : ∀ x, foldedSetIterable iter env x = pure x)
    (h : Ev G A env iter st fun v st₁ => ∃ v' st₂ xs, EntV G env.locals v st₁ v' st₂ ∧ iterItems v' = some xs ∧ ForX G A env outer X t body orelse xs st₂ Q) : ExX G A env outer X (.For t iter body orelse pos) st Q :=
  ⟨fun K Z s hF S => wpAny_For ((TriX.of h.run).use hF S fun Z₁ v st₁ w s₁ z₁ S₁ r₁ hq2 => by
    obtain ⟨v', st₂, xs, he, hx, hf⟩ := hq2
    obtain ⟨Z₂, z₂, S₂, r₂⟩ := he K Z₁ w s₁ S₁ r₁
    refine wpAny_mono (E := Nope) (pyIter_use S₂ hA r₂ hx fun P o ho I hp => ?_) (fun _ _ x => x) fun _ _ x => x.elim
    have := hf.run K Z₂ _ s₁.heap.objs.size [] P o hF I (S₂.push o (tk := s₁.toks)) (Heap.get?_push_size _ ho) hp S₂.fresh
    refine codeAny_mono this fun r s' hr => ?_
    cases r with
    | ok f => exact Post.le hr (z₁.trans z₂)
    | error x => exact (Thr.le hr (z₁.trans z₂)).back H.loc) hs⟩
theorem forX_inv {β : Type} (H : Here A env outer) (f : β → V) (Inv : List β → St → Prop) (xs : List β) (h0 : Inv [] st)
    (turn : ∀ done x rest st, xs = done ++ x :: rest → Inv done st → AsgX G A env outer X t (f x) st fun st₁ => ExsX G A env outer X body st₁ fun fl st₂ => match fl with
      | .next | .cont => ∃ st₀, Ent G env.locals st₂ st₀ ∧ Inv (done ++ [x]) st₀
      | .brk => Q .next st₂
      | .ret v => Q (.ret v) st₂)
    (fin : ∀ st, Inv xs st → Exs G A env orelse st Q) : ForX G A env outer X t body orelse (xs.map f) st Q := by
  have key : ∀ (rest done : List β) (st : St), xs = done ++ rest → Inv done st → ForX G A env outer X t body orelse (rest.map f) st Q := by
    intro rest
    induction rest with
    | nil => intro done st e hi; rw [List.append_nil] at e; subst e; exact forX_nil (fin st hi)
    | cons x rest ih =>
      intro done st e hi
      have ht := turn done x rest st e hi
      refine forX_cons H ⟨fun K Z w s hK S r => wpAny_mono (ht.run K Z w s hK S r) (fun _ s' hm0 => ?_) fun _ _ q => q⟩
      obtain ⟨Z', _, st', z, S', u, h'⟩ := hm0
      refine ⟨Z', (), st', z, S', u, ?_⟩
      refine ⟨fun K Z s hK S => wpAny_mono (h'.run K Z s hK S) (fun w s' hm1 => ?_) fun _ _ q => q⟩
      obtain ⟨Z2, fl, st₂, z2, S2, u2, h₂⟩ := hm1
      refine ⟨Z2, fl, st₂, z2, S2, u2, ?_⟩
      cases fl with
      | next => obtain ⟨st₀, he, hi'⟩ := h₂; exact ForX.ent he (ih (done ++ [x]) st₀ (by rw [e]; simp) hi')
      | cont => obtain ⟨st₀, he, hi'⟩ := h₂; exact ForX.ent he (ih (done ++ [x]) st₀ (by rw [e]; simp) hi')
      | brk => exact h₂
      | ret v => exact h₂
  exact key xs [] st rfl h0
end
end Mine

set_option maxRecDepth 100000
set_option Elab.async false
set_option linter.unusedVariables false
namespace Mine
open PySem PyProof.Rows PySem.W PySem.Builtin PySem.Builtin.Re

section
variable {G : Gl} {A : Around} {env : Env} {outer : List Env} {K Z : Zt} {st : St} {s : Shared} {X : String → Prop} {α : Type}
theorem thr_err {cls msg : String} {Q : α → Shared → Prop} (S : Sim G K Z env.locals st s) (hA : A.handled = none) (hp : PlainExc cls) (hX : X cls) (hm : (msg : Str).length ≤ sizeLine) : wpAny G.M A (raiseErrorMade cls msg : Sem α) Q (Thr G K Z env outer X false) s :=
  wpAny_raiseErrorMade hp hA (fun h' tk e x => ⟨Z, st, s, e, cls, _, .refl, S, hX, rfl, rfl, .inl ⟨rfl, x⟩⟩) hm
theorem thr_words {cls msg : String} {Q : α → Shared → Prop} (S : Sim G K Z env.locals st s) (hA : A.handled = none) (hp : PlainExc cls) (hX : X cls) : wpAny G.M A (raiseErrorWords cls msg : Sem α) Q (Thr G K Z env outer X false) s :=
  wpAny_raiseErrorWords hp hA (fun h' tk e x => ⟨Z, st, s, e, cls, _, .refl, S, hX, rfl, rfl, .inl ⟨rfl, x⟩⟩)
variable {p : Addr} {code : Array Nat} {groups : Nat} {Q : V → St → Prop}
theorem reText_bytes {b : Array UInt8} {t : Tok} : reTextOf (.bytes b t) = pure (b.map (·.toNat), 1) := by
  unfold reTextOf
  rw [show asStr? (.bytes b t) = pure none from rfl, KBy.quiet_eq]; rfl
theorem target_bytes {b : Array UInt8} {t : Tok} {id f : String} {Q : ReTarget → Shared → Prop} (S : Sim G K Z env.locals st s) (P : Pat G p code groups) (hA : A.handled = none) (hX : X "TypeError") : wpAny G.M A (reTarget id f ⟨[.ref p, .bytes b t], []⟩) Q (Thr G K Z env outer X false) s := by
  obtain ⟨o, fs, q, oq, items, n, h1, h2, h3, h4, h5, h6, h7, h8, h9, h10⟩ := P.obj
  unfold reTarget
  show wpAny G.M A (reNamed id f ["string", "pos", "endpos"] 1 [.bytes b t] [] >>= _) _ _ s
  rw [reNamed1]
  refine wpAny_bind (wpAny_pure ?_)
  refine wpAny_bind (wpAny_pure ?_)
  refine wpAny_bind (wpAny_pure ?_)
  refine wpAny_bind (wpAny_fieldsOf (S.base _ _ h1) h4 ?_)
  refine wpAny_bind ?_
  rw [reText_bytes]
  refine wpAny_pure ?_
  simp only [h5]
  exact wpAny_bind (thr_words S hA plainExc_TypeError hX)
theorem special_int {i : Int} {t : Tok} {name : Str} : specialOf (.int i t) name = typeLookup (.type "int") name := rfl
theorem look_int_buffer : typeLookup (.type "int") "__buffer__" = pure none := by rw [typeLookup_type, builtinLookup_eq_fast]; kernel_rfl
theorem look_int_iter : typeLookup (.type "int") "__iter__" = pure none := by rw [typeLookup_type, builtinLookup_eq_fast]; kernel_rfl
theorem look_int_getitem : typeLookup (.type "int") "__getitem__" = pure none := by rw [typeLookup_type, builtinLookup_eq_fast]; kernel_rfl
theorem quiet_int {i : Int} {t : Tok} {id : String} : Bytes.bufferQuiet? id (.int i t) = pure none := by
  unfold Bytes.bufferQuiet? Bytes.buffer?
  rw [special_int, look_int_buffer]; rfl
theorem target_int {i : Int} {t : Tok} {id f : String} {Q : ReTarget → Shared → Prop} (S : Sim G K Z env.locals st s) (P : Pat G p code groups) (hA : A.handled = none) (hX : X "TypeError") : wpAny G.M A (reTarget id f ⟨[.ref p, .int i t], []⟩) Q (Thr G K Z env outer X false) s := by
  obtain ⟨o, fs, q, oq, items, n, h1, h2, h3, h4, h5, h6, h7, h8, h9, h10⟩ := P.obj
  unfold reTarget
  show wpAny G.M A (reNamed id f ["string", "pos", "endpos"] 1 [.int i t] [] >>= _) _ _ s
  rw [reNamed1]
  refine wpAny_bind (wpAny_pure ?_)
  refine wpAny_bind (wpAny_pure ?_)
  refine wpAny_bind (wpAny_pure ?_)
  refine wpAny_bind (wpAny_fieldsOf (S.base _ _ h1) h4 ?_)
  refine wpAny_bind ?_
  unfold reTextOf
  rw [show asStr? (.int i t) = pure none from rfl, quiet_int]
  refine wpAny_bind (wpAny_pure ?_)
  refine wpAny_bind (wpAny_pure ?_)
  refine wpAny_bind (wpAny_typeNameOf' (T := "int") (typeIs_int _ _ _) (h := ?_))
  exact thr_err S hA plainExc_TypeError hX (by rw [show shownName "int" = "int" by decide +kernel]; size_fits)
theorem cbX_full_bytes {b : Array UInt8} (hA : A.handled = none) (P : Pat G p code groups) (hX : X "TypeError") : CBX G A env outer X "re.Pattern.fullmatch" [.raw (.ref p), .bytes b] st Q := ⟨fun K Z ws s hK S r => by
  obtain ⟨w1, ws1, rfl, r1, r2⟩ := r.of_cons
  obtain ⟨w2, ws2, rfl, r3, r4⟩ := r2.of_cons
  rw [of_raw r1, r4.of_nil]
  obtain ⟨t, rfl⟩ := of_bytes r3
  obtain ⟨hT, _⟩ := (ty_pat (L := env.locals) (st := st) P).run K Z _ s S vr_raw
  refine wpAny_call_entry slot_pat_fullmatch hT entry_pat_fullmatch ?_ (args_pat_fullmatch _ _)
  unfold Builtin.«re.Pattern.fullmatch»
  exact wpAny_bind (target_bytes S P hA hX)⟩
theorem cbX_full_int {i : Int} (hA : A.handled = none) (P : Pat G p code groups) (hX : X "TypeError") : CBX G A env outer X "re.Pattern.fullmatch" [.raw (.ref p), .int i] st Q := ⟨fun K Z ws s hK S r => by
  obtain ⟨w1, ws1, rfl, r1, r2⟩ := r.of_cons
  obtain ⟨w2, ws2, rfl, r3, r4⟩ := r2.of_cons
  rw [of_raw r1, r4.of_nil]
  obtain ⟨t, rfl⟩ := of_int r3
  obtain ⟨hT, _⟩ := (ty_pat (L := env.locals) (st := st) P).run K Z _ s S vr_raw
  refine wpAny_call_entry slot_pat_fullmatch hT entry_pat_fullmatch ?_ (args_pat_fullmatch _ _)
  unfold Builtin.«re.Pattern.fullmatch»
  exact wpAny_bind (target_int S P hA hX)⟩
theorem asgX_int {ts : List Expr} {k : Nat} {pos : Pos} {i : Int} {Q : St → Prop} (hA : A.handled = none) (hX : X "TypeError") : AsgX G A env outer X (.Tuple ts k pos) (.int i) st Q := ⟨fun K Z w s hK S r => by
  obtain ⟨t, rfl⟩ := of_int r
  show wpAny _ _ (standAt pos >>= fun _ => unpack (.int i t) (assignEach ts env)) _ _ s
  refine wpAny_bind (wpAny_standAt ?_)
  unfold unpack unpackItems
  refine wpAny_bind (wpAny_holding (wpAny_bind ?_))
  unfold notIterableAtAll
  rw [special_int, look_int_iter, special_int, look_int_getitem]
  refine wpAny_pure ?_
  simp only [if_true]
  refine wpAny_bind (wpAny_rule ?_)
  refine wpAny_bind (wpAny_typeNameOf' (T := "int") (typeIs_int _ _ _) (h := ?_))
  exact wpAny_bind (thr_err S hA plainExc_TypeError hX (by rw [show shownName "int" = "int" by decide +kernel]; size_fits))⟩
end
end Mine

set_option maxRecDepth 100000
set_option Elab.async false
set_option linter.unusedVariables false
namespace Mine
open PySem PyProof.Rows PySem.W

section
variable {G : Gl} {A : Around} {env : Env} {outer : List Env} {K Z : Zt} {L : Addr} {st : St} {s : Shared} {X : String → Prop}
theorem draw_short {it : Addr} {P : Nat → Obj → Prop} : ∀ (xs done : List V) (k : Nat) (s : Shared) (o : Obj) (Q : List Value → Shared → Prop), Itr G A Z it (done ++ xs) P → Sim G K Z L st s → s.heap.get? it = some o → P done.length o → ¬ Tracked G K Z L st it →
    (∀ ws s', VRs Z xs ws → Sim G K Z L st s' → Q ws s') → wpAny G.M A (draw (.ref it) (xs.length + (k + 1))) Q Nope s
  | [], done, k, s, o, Q, I, S, ho, hp, ht, hQ => by
    rw [show ([] : List V).length + (k + 1) = k + 1 from Nat.zero_add _]
    show wpAny _ _ (pyNext (.ref it) >>= _) Q _ s
    refine wpAny_bind (I.done s o _ S.zz ho (by simpa using hp) fun h' hx => ?_)
    exact wpAny_pure (hQ [] _ .nil (S.ext hx ht))
  | x :: xs, done, k, s, o, Q, I, S, ho, hp, ht, hQ => by
    rw [show (x :: xs).length + (k + 1) = (xs.length + (k + 1)) + 1 by simp only [List.length_cons]; exact Nat.add_right_comm _ _ _]
    show wpAny _ _ (pyNext (.ref it) >>= _) Q _ s
    refine wpAny_bind (I.next (i := done.length) (v := x) (by simp) s o _ S.zz ho hp fun w h' tk o' r ho' hp' hsb => ?_)
    have S₁ : Sim G K Z L st { s with heap := h', toks := tk } := S.ext hsb.extBut ht
    refine wpAny_bind (wpAny_holding (draw_short xs (done ++ [x]) k _ o' _ (by simpa using I) S₁ ho' (by simpa using hp') ht fun ws s' r' S' => ?_))
    exact wpAny_pure (hQ (w :: ws) s' (.cons r r') S')
theorem few_ok {n : Nat} (h : n ≤ 1) : ((toString "not enough values to unpack (expected " ++ toString 2 ++ toString ", got " ++ toString n ++ toString ")" : String) : Str).length ≤ sizeLine := by
  rcases Nat.le_one_iff_eq_zero_or_eq_one.mp h with rfl | rfl <;> (rw [sizeLine_eq]; decide +kernel)
theorem many_ok : ((toString "too many values to unpack (expected " ++ toString 2 ++ toString ")" : String) : Str).length ≤ sizeLine := by rw [sizeLine_eq]; decide +kernel
theorem unpack_few (S : Sim G K Z env.locals st s) (hA : A.handled = none) {v : V} {w : Value} {xs : List V} (r : VR Z v w) (hx : iterItems v = some xs) (hr : ∀ a b c, v ≠ .rng a b c) (hn : xs.length ≤ 1) (hX : X "ValueError") {Q : List Value → Shared → Prop} : wpAny G.M A (unpackItems w 2 none) Q (Thr G K Z env outer X false) s := by
  unfold unpackItems
  refine wpAny_bind (wpAny_mono (E := Nope) (iterable_use S r hx hr (Q := fun b s' => b = false ∧ s = s') ⟨rfl, rfl⟩) (fun b s' h => ?_) fun _ _ x => x.elim)
  obtain ⟨rfl, rfl⟩ := h
  simp only [Bool.false_eq_true, if_false]
  refine wpAny_bind (wpAny_holding (wpAny_mono (E := Nope) (pyIter_use S hA r hx (Q := fun w2 s' => ∃ P o, o.isFreed = false ∧ Itr G A Z s'.heap.objs.size.pred xs P ∧ P 0 o ∧ w2 = .ref s.heap.objs.size ∧ s' = { s with heap := s.heap.push o }) fun P o ho I hp => ⟨P, o, ho, by rw [show (s.heap.push o).objs.size.pred = s.heap.objs.size by simp [Heap.push]]; exact I, hp, rfl, rfl⟩) (fun w2 s' h => ?_) fun _ _ x => x.elim))
  obtain ⟨P, o, ho, I, hp, rfl, rfl⟩ := h
  rw [show (s.heap.push o).objs.size.pred = s.heap.objs.size by simp [Heap.push]] at I
  have S₁ := S.push o (tk := s.toks)
  have ht := S.fresh
  obtain ⟨k, hk⟩ : ∃ k, 2 = xs.length + (k + 1) := ⟨1 - xs.length, by first | lia | omega⟩
  refine wpAny_bind (wpAny_holding (wpAny_mono (E := Nope) (Q := fun ws s' => VRs Z xs ws ∧ Sim G K Z env.locals st s') (by
    rw [hk]
    exact draw_short xs [] k _ o _ (by simpa using I) S₁ (Heap.get?_push_size _ ho) hp ht fun ws s' r' S' => ⟨r', S'⟩) (fun ws s' h => ?_) fun _ _ x => x.elim))
  obtain ⟨r', S'⟩ := h
  rw [if_pos (by rw [r'.length]; exact Nat.lt_succ_of_le (by assumption))]
  refine wpAny_bind (wpAny_rule ?_)
  exact wpAny_bind (thr_err S' hA plainExc_ValueError hX (few_ok (by rw [r'.length]; exact hn)))
theorem unpack_many (S : Sim G K Z env.locals st s) (hA : A.handled = none) {v : V} {w : Value} {x y z : V} {rest : List V} (r : VR Z v w) (hx : iterItems v = some (x :: y :: z :: rest)) (hr : ∀ a b c, v ≠ .rng a b c) (hX : X "ValueError") {Q : List Value → Shared → Prop} : wpAny G.M A (unpackItems w 2 none) Q (Thr G K Z env outer X false) s := by
  unfold unpackItems
  refine wpAny_bind (wpAny_mono (E := Nope) (iterable_use S r hx hr (Q := fun b s' => b = false ∧ s = s') ⟨rfl, rfl⟩) (fun b s' h => ?_) fun _ _ x => x.elim)
  obtain ⟨rfl, rfl⟩ := h
  simp only [Bool.false_eq_true, if_false]
  refine wpAny_bind (wpAny_holding (wpAny_mono (E := Nope) (pyIter_use S hA r hx (Q := fun w2 s' => ∃ P o, o.isFreed = false ∧ Itr G A Z s'.heap.objs.size.pred (x :: y :: z :: rest) P ∧ P 0 o ∧ w2 = .ref s.heap.objs.size ∧ s' = { s with heap := s.heap.push o }) fun P o ho I hp => ⟨P, o, ho, by rw [show (s.heap.push o).objs.size.pred = s.heap.objs.size by simp [Heap.push]]; exact I, hp, rfl, rfl⟩) (fun w2 s' h => ?_) fun _ _ x => x.elim))
  obtain ⟨P, o, ho, I, hp, rfl, rfl⟩ := h
  rw [show (s.heap.push o).objs.size.pred = s.heap.objs.size by simp [Heap.push]] at I
  have S₁ := S.push o (tk := s.toks)
  have ht := S.fresh
  refine wpAny_bind (wpAny_holding (wpAny_mono (E := Nope) (draw_use [x, y] [] (z :: rest) _ o (fun ws s' => VRs Z [x, y] ws ∧ Sim G K Z env.locals st s' ∧ ∃ o', s'.heap.get? s.heap.objs.size = some o' ∧ P 2 o') (by simpa using I) S₁ (Heap.get?_push_size _ ho) hp ht fun ws h' tk o' r' ho' hp' hsb => ⟨r', S₁.ext hsb.extBut ht, o', ho', hp'⟩) (fun ws s' h => ?_) fun _ _ x => x.elim))
  obtain ⟨r', S₂, o', ho', hp'⟩ := h
  rw [if_neg (by rw [r'.length]; exact Nat.lt_irrefl _)]
  refine wpAny_bind (wpAny_holding (wpAny_mono (E := Nope) (I.next (i := 2) (v := z) rfl s' o' (fun r s'' => r.isSome = true ∧ Sim G K Z env.locals st s'') S₂.zz ho' hp' fun w h' tk o'' rw ho'' hp'' hsb => ⟨rfl, S₂.ext hsb.extBut ht⟩) (fun r s'' h => ?_) fun _ _ x => x.elim))
  obtain ⟨hr2, S₃⟩ := h
  rw [if_pos hr2]
  refine wpAny_bind (wpAny_rule ?_)
  exact wpAny_bind (thr_err S₃ hA plainExc_ValueError hX many_ok)
theorem asgX_few {ts : List Expr} {k : Nat} {pos : Pos} {v : V} {xs : List V} {Q : St → Prop} (hA : A.handled = none) (hx : iterItems v = some xs) (hr : ∀ a b c, v ≠ .rng a b c) (hl : (assignEach ts env).length = 2) (hst : (assignEach ts env).findIdx? (·.1) = none) (hn : xs.length ≤ 1) (hX : X "ValueError") : AsgX G A env outer X (.Tuple ts k pos) v st Q := ⟨fun K Z w s hK S r => by
  show wpAny _ _ (standAt pos >>= fun _ => unpack w (assignEach ts env)) _ _ s
  refine wpAny_bind (wpAny_standAt ?_)
  unfold unpack
  rw [hl, hst]
  exact wpAny_bind (wpAny_holding (unpack_few S hA r hx hr hn hX))⟩
theorem asgX_many {ts : List Expr} {k : Nat} {pos : Pos} {v x y z : V} {rest : List V} {Q : St → Prop} (hA : A.handled = none) (hx : iterItems v = some (x :: y :: z :: rest)) (hr : ∀ a b c, v ≠ .rng a b c) (hl : (assignEach ts env).length = 2) (hst : (assignEach ts env).findIdx? (·.1) = none) (hX : X "ValueError") : AsgX G A env outer X (.Tuple ts k pos) v st Q := ⟨fun K Z w s hK S r => by
  show wpAny _ _ (standAt pos >>= fun _ => unpack w (assignEach ts env)) _ _ s
  refine wpAny_bind (wpAny_standAt ?_)
  unfold unpack
  rw [hl, hst]
  exact wpAny_bind (wpAny_holding (unpack_many S hA r hx hr hX))⟩
end
end Mine

set_option maxRecDepth 100000
set_option Elab.async false
set_option linter.unusedVariables false
namespace Mine
open PySem PyProof.Rows PySem.W PySem.Builtin PySem.Builtin.Str

theorem seq_msg : ∀ i : Nat, i < 200 → ((toString "sequence item " ++ toString i ++ toString ": expected str instance, " ++ toString (shownName "int") ++ toString " found" : String) : Str).length ≤ 1000 ∧ ((toString "sequence item " ++ toString i ++ toString ": expected str instance, " ++ toString (shownName "NoneType") ++ toString " found" : String) : Str).length ≤ 1000 := by decide +kernel
section
variable {G : Gl} {A : Around} {env : Env} {outer : List Env} {K Z : Zt} {st : St} {s : Shared} {X : String → Prop}
inductive NoTxt : Value → Prop
  | int (i : Int) (t : Tok) : NoTxt (.int i t)
  | none : NoTxt .none
theorem body_bad {b : Value} (hb : NoTxt b) (S : Sim G K Z env.locals st s) (hA : A.handled = none) (hX : X "TypeError") {Q : ForInStep (Array Str) → Shared → Prop} (k : Nat) (hk : k < 200) (acc : Array Str) :
    wpAny G.M A (joinBody (b, k) acc) Q (Thr G K Z env outer X false) s := by
  have hs : (1000 : Nat) ≤ sizeLine := by rw [sizeLine_eq]; decide
  cases hb with
  | int i t =>
    have m := Nat.le_trans (seq_msg k hk).1 hs
    have h0 : wpAny G.M A (PySem.typeNameOf (.int i t)) (fun n s' => n = shownName "int" ∧ s = s') (Thr G K Z env outer X false) s := wpAny_typeNameOf' (T := "int") (typeIs_int _ _ _) (h := ⟨rfl, rfl⟩)
    generalize shownName "int" = nm at m h0
    show wpAny G.M A (do
      rule "str.join.non-str"
      let n ← PySem.typeNameOf (.int i t)
      raiseErrorMade "TypeError" (toString "sequence item " ++ toString k ++ toString ": expected str instance, " ++ toString n ++ toString " found")
      pure (ForInStep.yield acc)) Q (Thr G K Z env outer X false) s
    refine wpAny_bind ?_
    refine wpAny_rule ?_
    refine wpAny_bind ?_
    refine wpAny_mono h0 (fun n s' hn => ?_) fun _ _ x => x
    obtain ⟨rfl, rfl⟩ := hn
    refine wpAny_bind ?_
    refine thr_err S hA ?_ ?_ ?_
    · exact plainExc_TypeError
    · exact hX
    · exact m
  | none =>
    have m := Nat.le_trans (seq_msg k hk).2 hs
    have h0 : wpAny G.M A (PySem.typeNameOf .none) (fun n s' => n = shownName "NoneType" ∧ s = s') (Thr G K Z env outer X false) s := wpAny_typeNameOf' (T := "NoneType") (typeIs_none _) (h := ⟨rfl, rfl⟩)
    generalize shownName "NoneType" = nm at m h0
    show wpAny G.M A (do
      rule "str.join.non-str"
      let n ← PySem.typeNameOf .none
      raiseErrorMade "TypeError" (toString "sequence item " ++ toString k ++ toString ": expected str instance, " ++ toString n ++ toString " found")
      pure (ForInStep.yield acc)) Q (Thr G K Z env outer X false) s
    refine wpAny_bind ?_
    refine wpAny_rule ?_
    refine wpAny_bind ?_
    refine wpAny_mono h0 (fun n s' hn => ?_) fun _ _ x => x
    obtain ⟨rfl, rfl⟩ := hn
    refine wpAny_bind ?_
    refine thr_err S hA ?_ ?_ ?_
    · exact plainExc_TypeError
    · exact hX
    · exact m
theorem join_bad {b : Value} (hb : NoTxt b) (S : Sim G K Z env.locals st s) (hA : A.handled = none) (hX : X "TypeError") (rest : List Value) {Q : Array Str → Shared → Prop} (l : List (Str × Tok)) : ∀ (k : Nat) (acc : Array Str), k + l.length < 200 →
    wpAny G.M A (forIn ((strValues l ++ b :: rest).zipIdx k) acc joinBody : Sem (Array Str)) Q (Thr G K Z env outer X false) s := by
  induction l with
  | nil =>
    intro k acc h
    show wpAny G.M A (forIn ((b, k) :: rest.zipIdx (k + 1)) acc joinBody : Sem (Array Str)) Q _ s
    rw [List.forIn_cons]
    exact wpAny_bind (body_bad hb S hA hX k h acc)
  | cons p l ih =>
    intro k acc h
    show wpAny G.M A (forIn ((Value.str p.1 p.2, k) :: (strValues l ++ b :: rest).zipIdx (k + 1)) acc joinBody : Sem (Array Str)) Q _ s
    rw [List.forIn_cons]
    show wpAny G.M A (forIn ((strValues l ++ b :: rest).zipIdx (k + 1)) (acc.push p.1) joinBody : Sem (Array Str)) Q _ s
    exact ih (k + 1) (acc.push p.1) (by simp only [List.length_cons] at h; first | lia | omega)
theorem noTxt_exact {b : Value} (hb : NoTxt b) : isExactStr b = false := by cases hb <;> rfl
theorem tail_bad {b : Value} (hb : NoTxt b) (S : Sim G K Z env.locals st s) (hA : A.handled = none) (hX : X "TypeError") (rest : List Value) {Q : Fin → Shared → Prop} (sep : Str) (l : List (Str × Tok)) (hl : l.length < 200) :
    wpAny G.M A (joinTail sep (strValues l ++ b :: rest)) Q (Thr G K Z env outer X false) s := by
  have go : wpAny G.M A (joinRest sep (strValues l ++ b :: rest)) Q (Thr G K Z env outer X false) s := by
    unfold joinRest
    exact wpAny_bind (join_bad hb S hA hX rest l 0 #[] (by exact Nat.add_lt_add_left (by assumption) _))
  cases l with
  | nil =>
    cases rest with
    | nil =>
      show wpAny G.M A (if isExactStr b = true then _ else joinRest sep [b]) Q _ s
      rw [noTxt_exact hb, if_neg Bool.false_ne_true]
      exact go
    | cons c r => exact go
  | cons p l =>
    cases l with
    | nil => exact go
    | cons q l => exact go
theorem split_bad {Z : Zt} : ∀ {xs : List V} {ws : List Value}, VRs Z xs ws → (∀ v ∈ xs, (∃ x, v = .str x) ∨ v = .none ∨ ∃ i, v = .int i) → (∃ v ∈ xs, v = .none ∨ ∃ i, v = .int i) → ∃ l b rest, ws = strValues l ++ b :: rest ∧ NoTxt b ∧ l.length < xs.length
  | [], ws, r, h, ⟨v, hv, _⟩ => by cases hv
  | x :: xs, ws, r, h, hb => by
    obtain ⟨w, ws', rfl, r1, r2⟩ := r.of_cons
    rcases h x (.head _) with ⟨y, rfl⟩ | rfl | ⟨i, rfl⟩
    · obtain ⟨t, rfl⟩ := of_str r1
      have hb' : ∃ v ∈ xs, v = .none ∨ ∃ i, v = .int i := by
        obtain ⟨v, hv, q⟩ := hb
        rcases List.mem_cons.mp hv with rfl | hv
        · rcases q with q | ⟨i, q⟩ <;> cases q
        · exact ⟨v, hv, q⟩
      obtain ⟨l, b, rest, rfl, hn, hl⟩ := split_bad r2 (fun v hv => h v (.tail _ hv)) hb'
      exact ⟨(y, t) :: l, b, rest, rfl, hn, by simp only [List.length_cons]; exact Nat.succ_le_succ (by assumption)⟩
    · rw [of_none r1]
      exact ⟨[], .none, ws', rfl, .none, by simp⟩
    · obtain ⟨t, rfl⟩ := of_int r1
      exact ⟨[], .int i t, ws', rfl, .int i t, by simp⟩
theorem cbX_join {a : Addr} {xs : List V} {sep : Str} {Q : V → St → Prop} (hA : A.handled = none) (hX : X "TypeError") (ha : (a, xs) ∈ st.ar) (hlen : xs.length ≤ 200) (h : ∀ v ∈ xs, (∃ x, v = .str x) ∨ v = .none ∨ ∃ i, v = .int i) (hb : ∃ v ∈ xs, v = .none ∨ ∃ i, v = .int i) :
    CBX G A env outer X "str.join" [.str sep, .list a] st Q := ⟨fun K Z ws s hK S r => by
  obtain ⟨w1, ws1, rfl, r1, r2⟩ := r.of_cons
  obtain ⟨w2, ws2, rfl, r3, r4⟩ := r2.of_cons
  rw [r4.of_nil, of_list r3]
  obtain ⟨t, rfl⟩ := of_str r1
  obtain ⟨_, _, _, us, n, e, rs⟩ := S.ar _ ha
  obtain ⟨l, b, rest, rfl, hn, hl⟩ := split_bad rs h hb
  refine wpAny_call_entry F.slot_str_join (typeIs_str _ _ _) F.entry_str_join ?_ (F.args_str_join_2 _ _)
  obtain ⟨other, htree⟩ := join_tree sep t a
  rw [htree]
  refine wpAny_bind (wpAny_typeOf (T := "list") ⟨_, e, rfl⟩ ?_)
  show wpAny _ _ (do
      match ← seqItems? (.ref a) with
      | some xs => joinTail sep xs.toList
      | none => unsupported "internal:str.join") _ _ s
  unfold seqItems?
  refine wpAny_bind (wpAny_bind (wpAny_load e ?_))
  refine wpAny_pure ?_
  show wpAny _ _ (joinTail sep (strValues l ++ b :: rest).toArray.toList) _ _ s
  rw [List.toList_toArray]
  exact tail_bad (A := A.in1) hn S hA hX rest sep l (Nat.lt_of_lt_of_le hl hlen)⟩
end
end Mine

set_option maxRecDepth 100000
set_option Elab.async false
set_option linter.unusedVariables false
namespace Mine
open PySem PyProof.Rows PySem.Builtin.Re PySem.W

noncomputable def escL (l : List Nat) : List Nat := l.flatMap fun c => if isEsc c then [92, c] else [c]
theorem escL_none : ∀ {l : List Nat}, (∀ x ∈ l, isEsc x = false) → escL l = l
  | [], _ => rfl
  | x :: l, h => by
    have ih := escL_none (l := l) fun y hy => h y (.tail _ hy)
    unfold escL at ih ⊢
    rw [List.flatMap_cons, ih, h x (.head _)]; rfl
theorem escL_append (a b : List Nat) : escL (a ++ b) = escL a ++ escL b := by unfold escL; rw [List.flatMap_append]
theorem escL_length (l : List Nat) : (escL l).length ≤ 2 * l.length := by
  induction l with
  | nil => simp [escL]
  | cons x l ih =>
    unfold escL at ih ⊢
    rw [List.flatMap_cons, List.length_append, List.length_cons]
    split <;> simp only [List.length_cons, List.length_nil] <;> first | lia | omega

theorem split_first {p : Nat → Bool} : ∀ l : List Nat, (∀ x ∈ l, p x = false) ∨ ∃ mid ch post, l = mid ++ ch :: post ∧ (∀ x ∈ mid, p x = false) ∧ p ch = true
  | [] => .inl fun _ h => by cases h
  | x :: l => by
    cases hx : p x with
    | true => exact .inr ⟨[], x, l, rfl, (fun _ h => by cases h), hx⟩
    | false =>
      rcases split_first (p := p) l with h | ⟨mid, ch, post, e, h1, h2⟩
      · exact .inl fun y hy => by
          rcases List.mem_cons.mp hy with rfl | hy
          · exact hx
          · exact h y hy
      · refine .inr ⟨x :: mid, ch, post, by rw [e]; rfl, fun y hy => ?_, h2⟩
        rcases List.mem_cons.mp hy with rfl | hy
        · exact hx
        · exact h1 y hy

theorem esc_subR {x : Array Nat} : ∀ (n : Nat) (pre rem : List Nat), rem.length ≤ n → x.toList = pre ++ rem → SubR escCode x (fun g => 92 :: g) pre rem (escL rem) := by
  intro n
  induction n with
  | zero =>
    intro pre rem hn e
    have : rem = [] := List.eq_nil_of_length_eq_zero (by (clear e; exact Nat.eq_zero_of_le_zero (by assumption)))
    subst this
    exact .none (esc_none (mid := []) e (fun _ h => by cases h))
  | succ n ih =>
    intro pre rem hn e
    rcases split_first (p := isEsc) rem with h | ⟨mid, ch, post, rfl, h1, h2⟩
    · rw [escL_none h]; exact .none (esc_none e h)
    · obtain ⟨m', k, hr, hk, ho, hs, hh, hm, hl, _⟩ := esc_found (t := x) (pre := pre) (post := post) (must := false) (by rw [e]; simp) h1 h2
      have hlen : (mid ++ ch :: post).length = mid.length + (post.length + 1) := by simp
      have := ih (pre ++ mid ++ ([] ++ [ch] ++ [])) post (by (clear hl hm hh hs ho hk h2 h1 e ih; first | lia | omega)) (by rw [e]; simp)
      have hsome := SubR.some (code := escCode) (x := x) (f := fun g => 92 :: g) (pre := pre) (mid := mid) (g1 := []) (g := [ch]) (g2 := []) (rem := post) ⟨m', k, hr, hk, ho, hs, by simpa using hh, by simpa using hm, hl⟩ (by simp) this
      have e1 : mid ++ ([] ++ [ch] ++ []) ++ post = mid ++ ch :: post := by simp
      have e2 : escL (mid ++ ch :: post) = mid ++ (92 :: [ch]) ++ escL post := by
        rw [escL_append, escL_none h1, show ch :: post = [ch] ++ post from rfl, escL_append]
        have : escL [ch] = [92, ch] := by simp [escL, h2]
        rw [this]; simp
      rw [e1] at hsome
      rw [e2]
      exact hsome

noncomputable def valS (v : Str) : Str := if tokB v.cps then v else Str.ofString "\"" ++ sOf (escL v.cps.toList) ++ Str.ofString "\""
theorem len_q : (Str.ofString "\"").length = 1 := by decide +kernel
theorem len_e : (Str.ofString "=").length = 1 := by decide +kernel
theorem len_b : (Str.ofString "\\").length = 1 := by decide +kernel
theorem valS_length (v : Str) (h : v.length ≤ 400000) : (valS v).length ≤ 800002 := by
  unfold valS
  split
  · exact Nat.le_trans (by assumption) (by decide)
  · rw [strLen_append, strLen_append, len_q]
    have := escL_length v.cps.toList
    have h2 : v.cps.toList.length ≤ 400000 := by rw [Array.length_toList]; exact h
    show 1 + (escL v.cps.toList).toArray.size + 1 ≤ _
    rw [List.size_toArray]; (clear h; first | lia | omega)
theorem back_app (a : Array Nat) : (V.str (Str.ofString "\\" ++ ⟨a⟩)) = V.str (sOf (92 :: a.toList)) := by
  have : Str.ofString "\\" = ⟨#[92]⟩ := by decide +kernel
  rw [this]
  show V.str ⟨#[92] ++ a⟩ = _
  congr 2
  apply Array.ext'
  simp
end Mine

set_option maxRecDepth 100000
set_option Elab.async false
set_option linter.unusedVariables false
namespace Mine
open PySem PyProof.Rows PySem.W

inductive Fm : V → Str → Prop
  | str (y : Str) : Fm (.str y) y
  | int (i : Int) (h : i.natAbs.log2 < 1920) : Fm (.int i) (toString i : String)
  | none : Fm .none ("None" : String)
  | tru : Fm (.bool true) ("True" : String)
section
variable {G : Gl} {A : Around} {env : Env} {st : St} {pos : Pos}
theorem ev_fmtF {e : Expr} {Q : V → St → Prop} (h : Ev G A env e st fun v st₁ => ∃ y, Fm v y ∧ y.length ≤ 16777216 ∧ Q (.str y) st₁) : Ev G A env (.FormattedValue e 115 none pos) st Q := ⟨fun K Z s S => by
  show wpAny _ _ (eval e env >>= fun v => standAt pos >>= fun _ => holding [v] (converted 115 v) >>= fun v' => formatField v' Str.empty) _ _ s
  refine wpAny_bind (h.run.use S fun Z₁ v st₁ w s₁ z₁ S₁ r₁ hq2 => ?_)
  obtain ⟨y, hv, hz, q⟩ := hq2
  have hz' : y.length ≤ sizeLine := by rw [sizeLine_eq]; exact hz
  cases hv with
  | str =>
    obtain ⟨t, rfl⟩ := of_str r₁
    refine wpAny_bind (wpAny_standAt (wpAny_bind (wpAny_holding ?_)))
    show wpAny _ _ (habitSame "fstring-hands-on-the-str" (.str y t)) _ _ s₁
    exact habitSame_str (fun t' tk => formatField_str (fun t'' tk' => ⟨Z₁, _, st₁, z₁, S₁.toks, vr_str, q⟩) hz') hz'
  | int i hi =>
    obtain ⟨t, rfl⟩ := of_int r₁
    refine wpAny_bind (wpAny_standAt (wpAny_bind (wpAny_holding ?_)))
    show wpAny _ _ (pyStrObj (.int i t)) _ _ s₁
    exact pyStrObj_int hi (formatField_str (fun t'' tk' => ⟨Z₁, _, st₁, z₁, S₁.toks, vr_str, q⟩) hz')
  | none =>
    rw [of_none r₁]
    refine wpAny_bind (wpAny_standAt (wpAny_bind (wpAny_holding ?_)))
    show wpAny _ _ (pyStrObj .none) _ _ s₁
    exact pyStrObj_none (formatField_str (fun t'' tk' => ⟨Z₁, _, st₁, z₁, S₁.toks, vr_str, q⟩) hz')
  | tru =>
    rw [of_bool r₁]
    refine wpAny_bind (wpAny_standAt (wpAny_bind (wpAny_holding ?_)))
    show wpAny _ _ (pyStrObj (.bool true)) _ _ s₁
    exact pyStrObj_bool (formatField_str (fun t'' tk' => ⟨Z₁, _, st₁, z₁, S₁.toks, vr_str, q⟩) hz')⟩
theorem nn_int {i : Int} : ∀ Z w, VR Z (.int i) w → plainIs w .none = true ∧ (w == .none) = false := fun Z w r => by
  obtain ⟨t, rfl⟩ := of_int r; exact ⟨rfl, rfl⟩
theorem nn_bytes {b : Array UInt8} : ∀ Z w, VR Z (.bytes b) w → plainIs w .none = true ∧ (w == .none) = false := fun Z w r => by
  obtain ⟨t, rfl⟩ := of_bytes r; exact ⟨rfl, rfl⟩
end
inductive Kd where
  | good (w : Str)
  | lone
  | badT
  | badV
noncomputable def imm : Kd → Option String
  | .badT => some "TypeError"
  | .badV => some "ValueError"
  | _ => none
noncomputable def isLone : Kd → Bool
  | .lone => true
  | _ => false
noncomputable def wordK : Kd → Str
  | .good w => w
  | _ => Str.empty
noncomputable def errL (ks : List Kd) : Option String := (ks.findSome? imm).or (if ks.any isLone then some "TypeError" else none)
noncomputable def errLs (ls : List (List Kd)) : Option String := ls.findSome? errL
noncomputable def headK (ks : List Kd) : Str := Str.join (Str.ofString "; ") (ks.map wordK)
noncomputable def headsK (ls : List (List Kd)) : List Str := (ls.filter fun ps => !ps.isEmpty).map headK
noncomputable def joinK (ls : List (List Kd)) : Str := Str.join (Str.ofString ", ") (headsK ls)
inductive OkI : V → Kd → Prop
  | one (x : V) (w : Str) (h : iterItems x = some [.str w, .none]) (hr : ∀ a b c, x ≠ .rng a b c) (hw : w.length ≤ 1000) : OkI x (.good w)
  | two (x k : V) (ks y : Str) (h : iterItems x = some [k, .str y]) (hr : ∀ a b c, x ≠ .rng a b c) (hk : Fm k ks) (h1 : ks.length ≤ 100) (h2 : y.length ≤ 100) : OkI x (.good (Str.empty ++ ks ++ Str.ofString "=" ++ valS y))
  | loneI (x : V) (i : Int) (h : iterItems x = some [.int i, .none]) (hr : ∀ a b c, x ≠ .rng a b c) : OkI x .lone
  | loneN (x : V) (h : iterItems x = some [.none, .none]) (hr : ∀ a b c, x ≠ .rng a b c) : OkI x .lone
  | num (i : Int) : OkI (.int i) .badT
  | vint (x k : V) (i : Int) (h : iterItems x = some [k, .int i]) (hr : ∀ a b c, x ≠ .rng a b c) : OkI x .badT
  | vbytes (x k : V) (b : Array UInt8) (h : iterItems x = some [k, .bytes b]) (hr : ∀ a b c, x ≠ .rng a b c) : OkI x .badT
  | few (x : V) (xs : List V) (h : iterItems x = some xs) (hr : ∀ a b c, x ≠ .rng a b c) (hl : xs.length ≤ 1) : OkI x .badV
  | many (x a b c : V) (r : List V) (h : iterItems x = some (a :: b :: c :: r)) (hr : ∀ a b c, x ≠ .rng a b c) : OkI x .badV
noncomputable def AttR : Kd → V → Prop
  | .good w, u => u = .str w
  | .lone, u => u = .none ∨ ∃ i, u = .int i
  | _, _ => False
end Mine

set_option maxRecDepth 100000
set_option Elab.async false
set_option linter.unusedVariables false
namespace Mine
open PySem PySem.Sre

noncomputable def Ru (e : ME) (c : C) (a : Option Bool) (P : C → Option Bool → Prop) (n : Nat) : Prop := ∀ sn, ∃ sn' c' a', Reach (mk e c sn a) (mk e c' sn' a') n ∧ P c' a'

section
variable {e : ME} {c c' : C} {a a' : Option Bool} {P Q : C → Option Bool → Prop} {n k : Nat}
theorem Ru.of (h : R e c a c' a' n) (hP : P c' a') : Ru e c a P n := fun sn => by obtain ⟨s1, r⟩ := h sn; exact ⟨s1, c', a', r, hP⟩
theorem Ru.bind (h : Ru e c a P n) (h' : ∀ c' a', P c' a' → Ru e c' a' Q k) : Ru e c a Q (n + k) := fun sn =>
  by obtain ⟨s1, c1, a1, r1, p1⟩ := h sn; exact by obtain ⟨s2, c2, a2, r2, p2⟩ := h' c1 a1 p1 s1; exact ⟨s2, c2, a2, r1.trans r2, p2⟩
theorem Ru.step (h : R e c a c' a' n) (h' : Ru e c' a' Q k) : Ru e c a Q (n + k) := fun sn =>
  by obtain ⟨s1, r1⟩ := h sn; exact by obtain ⟨s2, c2, a2, r2, p2⟩ := h' s1; exact ⟨s2, c2, a2, r1.trans r2, p2⟩
theorem Ru.mono (h : Ru e c a P n) (hP : ∀ c' a', P c' a' → Q c' a') : Ru e c a Q n := fun sn => by obtain ⟨s1, c1, a1, r1, p1⟩ := h sn; exact ⟨s1, c1, a1, r1, hP _ _ p1⟩
theorem Ru.le (h : Ru e c a P n) (hn : n ≤ k) : Ru e c a P k := fun sn => by obtain ⟨s1, c1, a1, r1, p1⟩ := h sn; exact ⟨s1, c1, a1, r1.le hn, p1⟩
end

structure Left (c c' : C) : Prop where
  frames : c'.frames = c.frames
  loops : c'.loops = c.loops
  inner : c'.inner = c.inner
  start : c'.start = c.start
  must : c'.must = c.must
  msz : c'.marks.size = c.marks.size
theorem Left.refl {c : C} : Left c c := ⟨rfl, rfl, rfl, rfl, rfl, rfl⟩
theorem Left.trans {c c' c'' : C} (h : Left c c') (h' : Left c' c'') : Left c c'' :=
  ⟨h'.frames.trans h.frames, h'.loops.trans h.loops, h'.inner.trans h.inner, h'.start.trans h.start, h'.must.trans h.must, h'.msz.trans h.msz⟩

noncomputable def Fails (e : ME) (c : C) (n : Nat) : Prop := Ru e c none (fun c' a' => a' = some false ∧ Left c c') n

section
variable {e : ME} {c : C} {n : Nat}
theorem Fails.of {c' : C} (h : R e c none c' (some false) n) (hl : Left c c') : Fails e c n := Ru.of h ⟨rfl, hl⟩
theorem Fails.step {c' : C} {k : Nat} (h : R e c none c' none k) (hl : Left c c') (hf : Fails e c' n) : Fails e c (k + n) :=
  Ru.step h (hf.mono fun c'' a' hm0 => by obtain ⟨h1, h2⟩ := hm0; exact ⟨h1, hl.trans h2⟩)

end
end Mine

set_option maxRecDepth 100000
set_option Elab.async false
set_option linter.unusedVariables false
namespace Mine
open PySem PySem.Sre

section
variable {e : ME}
end
end Mine

set_option maxRecDepth 100000
set_option Elab.async false
set_option linter.unusedVariables false
namespace Mine
open PySem PySem.Sre

section
variable {code : Array Nat} {i fuel w : Nat} {p q : Nat → Bool}
end

noncomputable abbrev isSp (c : Nat) : Bool := Unicode.isSpace c
noncomputable def isWd (c : Nat) : Bool := !(c == 61 || c == 59 || c == 44 || isSp c)
end Mine

set_option maxRecDepth 100000
set_option Elab.async false
set_option linter.unusedVariables false
namespace Mine
open PySem PySem.Sre

section
variable {t : Array Nat} {ws rest : List Nat}
end
end Mine

set_option maxRecDepth 100000
set_option Elab.async false
set_option linter.unusedVariables false
namespace Mine
open PySem PySem.Sre

section
variable {code t : Array Nat} {ls : Nat} {ws ws2 rest : List Nat}
end
end Mine

set_option maxRecDepth 100000
set_option Elab.async false
set_option linter.unusedVariables false
namespace Mine
open PySem PySem.Sre

section
variable {e : ME} {c : C} {l : Loop}
variable {f : Sre.Frame} {fs : List Sre.Frame}
end
end Mine

set_option maxRecDepth 100000
set_option Elab.async false
set_option linter.unusedVariables false
namespace Mine
open PySem PySem.Sre

noncomputable def isOrd (c : Nat) : Bool := !(c == 34 || c == 92)
inductive UOk : List Nat → Nat → Prop
  | mark {r : List Nat} : UOk (34 :: r) 0
  | esc {x z : Nat} {r : List Nat} : x ≠ 10 → UOk (r.dropWhile isOrd) z → UOk (92 :: x :: r) (2 + (r.takeWhile isOrd).length + z)

section
variable {t : Array Nat} {ls : Nat} {c : C} {l : Loop} {p n : Nat}
end
end Mine

set_option maxRecDepth 100000
set_option Elab.async false
set_option linter.unusedVariables false
namespace Mine
open PySem PySem.Sre

section
variable {t : Array Nat} {ls p0 : Nat}
end
end Mine

set_option maxRecDepth 100000
set_option Elab.async false
set_option linter.unusedVariables false
namespace Mine
open PySem PySem.Sre

theorem UOk.pos {l : List Nat} {z : Nat} (h : UOk l z) : 1 ≤ l.length := by cases h <;> simp

section
variable {t : Array Nat} {ws ws2 r : List Nat}
end
end Mine

set_option maxRecDepth 100000
set_option Elab.async false
set_option linter.unusedVariables false
namespace Mine
open PySem PyProof.Rows PySem.Builtin.Re

section
variable {G : Gl} {A : Around} {L : Addr} {st : St} {Q : V → St → Prop} {p : Addr} {code : Array Nat}
end
end Mine

set_option maxRecDepth 100000
set_option Elab.async false
set_option linter.unusedVariables false
namespace Mine
open PySem PyProof.Rows PySem.Builtin.Re

end Mine

set_option maxRecDepth 100000
set_option Elab.async false
set_option linter.unusedVariables false
namespace Mine
open PySem PySem.Sre

section
variable {t : Array Nat}
end
end Mine

set_option maxRecDepth 100000
set_option Elab.async false
set_option linter.unusedVariables false
namespace Mine
open PySem PyProof.Rows PySem.Builtin.Re

end Mine

set_option maxRecDepth 100000
set_option Elab.async false
set_option linter.unusedVariables false
namespace Mine
open PySem PySem.Sre

section
variable {t : Array Nat}
end
end Mine

set_option maxRecDepth 100000
set_option Elab.async false
set_option linter.unusedVariables false
namespace Mine
open PySem PyProof.Rows PySem.Builtin.Re

end Mine

set_option maxRecDepth 100000
set_option Elab.async false
set_option linter.unusedVariables false
namespace Mine
open PySem PyProof.Rows PySem.Builtin.Re

end Mine

set_option maxRecDepth 100000
set_option Elab.async false
set_option linter.unusedVariables false
namespace Mine
open PySem PyProof.Rows

section
variable {G : Gl} {A : Around} {env : Env} {t : Expr} {body orelse : List Stmt} {Q : Fl → St → Prop}
end

end Mine

set_option maxRecDepth 100000
set_option Elab.async false
set_option linter.unusedVariables false
namespace Mine
open PySem PyProof.Rows PySem.Builtin.Re PySem.W

theorem ints_vrs {Z : Zt} : ∀ {vs : List Value} {ns : List Int}, IntsAre vs ns → VRs Z (ns.map V.int) vs
  | _, _, .nil => .nil
  | _, _, .cons n t h => .cons vr_int (ints_vrs h)

noncomputable def intsV (ns : List Int) : V := .fl (ns.map V.int)

theorem start_sim {G : Gl} {s : Shared} {L a : Addr} {vs : List Value} {ns : List Int} {m : Str → Option Value} (F : Fr G.base L s.heap m) (hm : m (Str.ofString "script") = some (.ref a)) (hl : G.base.IsList a vs.toArray) (hI : IntsAre vs ns)
    (hg : s.gens = #[]) (ho : s.os = G.os) (hcl : G.cells = []) (ht : ∀ t ∈ G.tabs, s.heap.get? t.P = some (tabObj #[]) ∧ t.P ≠ L ∧ G.base.get? t.P = none) :
    Sim G (fun _ => none) G.base.get? L ⟨[(Str.ofString "script", intsV ns)], []⟩ s where
  cl p hp := by rw [hcl] at hp; cases hp
  kk b o e := by cases e
  zz b o e := F.keep b o e
  kz b o e := by cases e
  bz b o e := e
  ns := ⟨m, F.ns, fun x => by
    show LR _ (List.lookup x [(Str.ofString "script", intsV ns)]) _
    rw [List.lookup_cons]
    cases q : x == Str.ofString "script" with
    | false => trivial
    | true =>
      rw [eq_of_beq q, hm]
      obtain ⟨o, e, hc, n, hd⟩ := hl
      show VR _ (.fl (ns.map V.int)) (.ref a)
      unfold VR
      exact ⟨a, vs, rfl, ⟨o, e, hc, n, hd⟩, ints_vrs hI⟩⟩
  kL := rfl
  zL := Heap.get?_none_of_le F.above
  ar p hp := by cases hp
  nd := .nil
  tb t h := by obtain ⟨h1, h2, h3⟩ := ht t h; exact ⟨rfl, h3, h2, (fun p hp => by cases hp), #[], h1, .inl rfl⟩
  gens := hg
  os := ho

theorem law_go {G : Gl} {A : Around} {env : Env} {body : List Stmt} {st : St} {s : Shared} (S : Sim G (fun _ => none) G.base.get? env.locals st s)
    (h : Exs G A env body st fun fl st' => fl = .ret (.bool true)) :
    wpAny G.M A (execs body env) (fun f s' => f = .ret (.bool true) ∧ (∀ b o, G.base.get? b = some o → s'.heap.get? b = some o) ∧ s'.os = G.os ∧ s'.gens = #[] ∧ ∀ t ∈ G.tabs, ∃ ps, s'.heap.get? t.P = some (tabObj ps)) Nope s :=
  h.run.use S fun Z' fl st' f s' z S' r e => by
    subst e
    obtain ⟨w, rfl, rw'⟩ := r
    rw [of_bool rw']
    exact ⟨rfl, S'.base, S'.os, S'.gens, fun t ht => by obtain ⟨_, _, _, _, ps, e, _⟩ := S'.tb t ht; exact ⟨ps, e⟩⟩

theorem glOk_of {G : Gl} {p : Program} {loose : List Str} {mean : ExcName → Option Value} (T : Top p loose mean G.mg G.mb G.base) (hbm : ∀ bm, G.mg "__builtins__" = some (.ref bm) → bm ≠ mainGlobals) (ht : ∀ t ∈ G.tabs, ∀ t' ∈ G.tabs, t.P = t'.P → t = t') : GlOk G where
  g := T.g
  b := T.b
  nolimit := T.nolimit
  nodigits := T.nodigits
  bm := by obtain ⟨bm, ob, h1, h2, h3, h4, h5, h6⟩ := T.bmain; exact ⟨bm, ob, h1, h2, hbm bm h1, h3, h4, h5, h6⟩
  tabs := ht

theorem room_caller (env : Env) : Room (callerA.deeper env) 8 := ⟨rfl, by show 1 + claimMargin + 1 + 8 < recursionLimit; decide, by show 4 + 3 + 20 * 8 + 40 < cLine; decide⟩
end Mine

set_option maxRecDepth 100000
set_option Elab.async false
set_option linter.unusedVariables false
namespace Mine
open PySem PyProof.Rows PySem.Builtin.Re PySem.W

section
variable {G : Gl} {A : Around} {L : Addr} {st : St} {Q : V → St → Prop} {a b : Int}

theorem op_mod (hb : 0 < b) (h : Q (.int (a % b)) st) : Op2 G A L (binaryOp .Mod) (.int a) (.int b) st Q := ⟨fun K Z w u s S r1 r2 => by
  obtain ⟨t, rfl⟩ := of_int r1
  obtain ⟨t', rfl⟩ := of_int r2
  refine PyProof.Rows.mod_int (by first | lia | omega) ?_
  rw [Int.fmod_eq_emod_of_nonneg _ (by exact Int.le_of_lt (by assumption))]
  exact Post.mk S.toks vr_int h⟩
theorem op_div (hb : 0 < b) (hb' : b < 1073741824) (h : Q (.int (a / b)) st) : Op2 G A L (binaryOp .FloorDiv) (.int a) (.int b) st Q := ⟨fun K Z w u s S r1 r2 => by
  obtain ⟨t, rfl⟩ := of_int r1
  obtain ⟨t', rfl⟩ := of_int r2
  refine floordiv_int (by (clear hb'; omega)) ?_ (hp := .inl (PyProof.noPylong_small (by omega)))
  rw [Int.fdiv_eq_ediv_of_nonneg _ (by (clear hb'; exact Int.le_of_lt (by assumption)))]
  exact Post.mk S.toks vr_int h⟩
theorem op_subi (h : Q (.int (a - b)) st) : Op2 G A L (binaryOp .Sub) (.int a) (.int b) st Q := ⟨fun K Z w u s S r1 r2 => by
  obtain ⟨t, rfl⟩ := of_int r1; obtain ⟨t', rfl⟩ := of_int r2; exact sub_int (Post.mk S.toks vr_int h)⟩
theorem op_lti (h : Q (.bool (decide (a < b))) st) : Op2 G A L (compareOp .Lt) (.int a) (.int b) st Q := ⟨fun K Z w u s S r1 r2 => by
  obtain ⟨t, rfl⟩ := of_int r1; obtain ⟨t', rfl⟩ := of_int r2; exact wpAny_lt_int (Post.mk S vr_bool h)⟩
theorem op_eqi (h : Q (.bool (a == b)) st) : Op2 G A L (compareOp .Eq) (.int a) (.int b) st Q := ⟨fun K Z w u s S r1 r2 => by
  obtain ⟨t, rfl⟩ := of_int r1; obtain ⟨t', rfl⟩ := of_int r2; exact wpAny_eq_int (Post.mk S vr_bool h)⟩
theorem op_eqs {x y : Str} (h : Q (.bool (decide (x = y))) st) : Op2 G A L (compareOp .Eq) (.str x) (.str y) st Q := ⟨fun K Z w u s S r1 r2 => by
  obtain ⟨t, rfl⟩ := of_str r1; obtain ⟨t', rfl⟩ := of_str r2
  refine P.eq_str ?_
  have : (x.cps.toList == y.cps.toList) = decide (x = y) := by
    by_cases e : x = y
    · subst e; simp
    · have : x.cps.toList ≠ y.cps.toList := fun q => e (by cases x; cases y; simp at q; simp [q])
      rw [beq_eq_false_iff_ne.mpr this, decide_eq_false e]
  rw [this]
  exact Post.mk S vr_bool h⟩
end

theorem seqIndex_pos {i : Int} {n : Nat} (h0 : 0 ≤ i) (h1 : i < n) : seqIndex? i n = some i.toNat := by
  unfold seqIndex?
  have h2 : ¬ i < 0 := by (clear h1; first | lia | omega)
  simp only [h2, if_false, h0, decide_true, h1, Bool.and_self, if_true]
theorem seqIndex_last {n : Nat} (h : 0 < n) : seqIndex? (-1) n = some (n - 1) := by
  obtain ⟨m, rfl⟩ := Nat.exists_eq_succ_of_ne_zero (Nat.ne_of_gt h)
  have e : (-1 : Int) + ((m + 1 : Nat) : Int) = (m : Int) := by (clear h; first | lia | omega)
  unfold seqIndex?
  have h2 : (0 : Int) ≤ (m : Int) := Int.natCast_nonneg m
  have h3 : (m : Int) < ((m + 1 : Nat) : Int) := Int.ofNat_lt.mpr (Nat.lt_succ_self m)
  simp only [show ((-1 : Int) < 0) = True by simp, if_true, e, h2, decide_true, h3, Bool.and_self]
  rfl
structure Sub (G : Gl) (A : Around) (L : Addr) (value slice : Expr) (o i : V) (st : St) (Q : V → St → Prop) : Prop where
  run : ∀ K Z wo wi s, Sim G K Z L st s → VR Z o wo → VR Z i wi → wpAny G.M A (subscriptTail value slice wo wi) (Post G K Z L VR Q) Nope s
section
variable {G : Gl} {A : Around} {env : Env} {L : Addr} {st : St} {Q : V → St → Prop} {pos : Pos} {value slice : Expr}
theorem ev_subs (h : Ev G A env value st fun o st₁ => Ev G A env slice st₁ fun i st₂ => Sub G A env.locals value slice o i st₂ Q) : Ev G A env (.Subscript value slice pos) st Q :=
  ⟨fun K Z s S => Subscript_ (h.run.use S fun Z₁ a st₁ w s₁ z₁ S₁ r₁ h₁ => h₁.run.use S₁ fun Z₂ b st₂ u s₂ z₂ S₂ r₂ h₂ => wpLe (z₁.trans z₂) (h₂.run K Z₂ w u s₂ S₂ (VR.mono z₂ _ _ r₁) r₂))⟩

theorem tail_item {prog : Program} {w : World} {s : Shared} {E : Value → Shared → Prop} {o i : Value} {T id : String} {P : Value → Shared → Prop} (hT : s.TypeIs o T)
    (hl : typeLookup (.type T) "__getitem__" = pure (some (.builtin id))) (hs : subscripted slice false o i = operate [o, i] (getItem o i)) (h : wpAny (model prog w) A (getItem o i) P E s) :
    wpAny (model prog w) A (subscriptTail value slice o i) P E s := by
  unfold subscriptTail
  refine wpAny_bind ?_
  rw [getitemInPython_of_ne hT.not_modules]
  refine wpAny_bind (wpAny_specialOf hT hl ?_)
  have fin : wpAny (model prog w) A (subscripted slice false o i) (fun r s₃ => wpAny (model prog w) A (letTemporaryGo value o r >>= fun _ => pure r) P E s₃) E s := by
    rw [hs]
    exact wpAny_operating (wpAny_mono h (fun r s₃ h₃ => wpAny_bind (wpAny_letTemporaryGo (wpAny_pure h₃))) fun _ _ x => x)
  first
    | exact wpAny_pure (wpAny_bind fin)
    | exact wpAny_bind (wpAny_pure (wpAny_bind fin))
    | exact wpAny_bind fin

theorem sub_str {x : Str} {i : Int} {c : Nat} (hs : ∀ o i, subscripted slice false o i = operate [o, i] (getItem o i)) (h0 : 0 ≤ i) (hc : x.cps[i.toNat]? = some c) (hx : x.length ≤ 16777216) (h : Q (.str ⟨#[c]⟩) st) : Sub G A L value slice (.str x) (.int i) st Q :=
  ⟨fun K Z wo wi s S r1 r2 => by
    obtain ⟨t, rfl⟩ := of_str r1
    obtain ⟨t', rfl⟩ := of_int r2
    refine tail_item (T := "str") (typeIs_str _ _ _) F.slot_str_getitem.lookup (hs _ _) ?_
    have hlt : i.toNat < x.cps.size := (Array.getElem?_eq_some_iff.mp hc).1
    have hlen : x.length = x.cps.size := rfl
    refine P.getItem_str (c := c) ?_ ?_ (Post.mk S.toks vr_str h)
    · have : x.cps.size ≤ 16777216 := hx
      have h1 : ¬ i < -(2 ^ 63 : Int) := by (clear this hlen hlt hx hc hs; first | lia | omega)
      have h2 : ¬ i ≥ (2 ^ 63 : Int) := by (clear h1 this hc h0 hs; first | lia | omega)
      simp only [h1, h2, decide_false, Bool.or_false]
    · have : seqIndex? i x.length = some i.toNat := by
        exact seqIndex_pos h0 (by rw [hlen]; (clear hlen hx hc h0 hs; first | lia | omega))
      rw [this]; exact hc⟩

theorem getItem_list_at {prog : Program} {w : World} {s : Shared} {E : Value → Shared → Prop} {l : Addr} {items : Array Value} {i : Int} {t : Tok} {j : Nat} {x : Value} {P : Value → Shared → Prop} (hl : s.heap.IsList l items) (hlo : -(2 ^ 63) ≤ i) (hhi : i < 2 ^ 63)
    (hj : seqIndex? i items.size = some j) (hx : items[j]? = some x) (h : P x s) : wpAny (model prog w) A (getItem (.ref l) (.int i t)) P E s := by
  unfold seqIndex? at hj
  by_cases h0 : i < 0
  · simp only [h0, if_true] at hj
    split at hj
    · rename_i hb
      simp only [Bool.and_eq_true, decide_eq_true_eq] at hb
      cases hj
      exact wpAny_getItem_list_neg hl h0 (by (clear hx h0 hhi hlo; first | lia | omega)) hlo hx h
    · cases hj
  · simp only [h0, if_false] at hj
    split at hj
    · cases hj
      exact wpAny_getItem_list hl (by (clear hx hhi hlo; exact Int.not_lt.mp (by assumption))) hhi hx h
    · cases hj
theorem sub_fl {xs : List V} {i : Int} {j : Nat} {v : V} (hs : ∀ o i, subscripted slice false o i = operate [o, i] (getItem o i)) (hlo : -(2 ^ 63) ≤ i) (hhi : i < 2 ^ 63) (hj : seqIndex? i xs.length = some j) (hv : xs[j]? = some v) (h : Q v st) : Sub G A L value slice (.fl xs) (.int i) st Q :=
  ⟨fun K Z wo wi s S r1 r2 => by
    obtain ⟨a, ws, rfl, hz, rs⟩ := of_fl r1
    obtain ⟨t', rfl⟩ := of_int r2
    have hl := zseq_list hz S.zz
    obtain ⟨w, hw, rw'⟩ := rs.get j hv
    exact tail_item (T := "list") hl.typeIs slot_list_getitem.lookup (hs _ _) (getItem_list_at hl hlo hhi (j := j) (by rw [List.size_toArray, rs.length]; exact hj) (by simpa using hw) (Post.mk S rw' h))⟩
theorem sub_list {a : Addr} {xs : List V} {i : Int} {j : Nat} {v : V} (ha : (a, xs) ∈ st.ar) (hs : ∀ o i, subscripted slice false o i = operate [o, i] (getItem o i)) (hlo : -(2 ^ 63) ≤ i) (hhi : i < 2 ^ 63) (hj : seqIndex? i xs.length = some j) (hv : xs[j]? = some v) (h : Q v st) :
    Sub G A L value slice (.list a) (.int i) st Q :=
  ⟨fun K Z wo wi s S r1 r2 => by
    rw [of_list r1]
    obtain ⟨t', rfl⟩ := of_int r2
    obtain ⟨_, _, _, ws, n, e, rs⟩ := S.ar _ ha
    have hl : s.heap.IsList a ws.toArray := ⟨_, e, rfl, n, rfl⟩
    obtain ⟨w, hw, rw'⟩ := VRs.get rs j hv
    exact tail_item (T := "list") hl.typeIs slot_list_getitem.lookup (hs _ _) (getItem_list_at hl hlo hhi (j := j) (by rw [List.size_toArray, VRs.length rs]; exact hj) (by simpa using hw) (Post.mk S rw' h))⟩
theorem sub_tup {xs : List V} {i : Int} {j : Nat} {v : V} (hs : ∀ o i, subscripted slice false o i = operate [o, i] (getItem o i)) (hlo : -(2 ^ 63) ≤ i) (hhi : i < 2 ^ 63) (hj : seqIndex? i xs.length = some j) (hv : xs[j]? = some v) (h : Q v st) : Sub G A L value slice (.tup xs) (.int i) st Q :=
  ⟨fun K Z wo wi s S r1 r2 => by
    obtain ⟨a, ws, rfl, hz, rs⟩ := of_tup r1
    obtain ⟨t', rfl⟩ := of_int r2
    have hl := zseq_tup hz S.zz
    obtain ⟨w, hw, rw'⟩ := rs.get j hv
    exact tail_item (T := "tuple") hl.typeIs slot_tuple_getitem.lookup (hs _ _) (getItem_tuple hl hlo hhi (j := j) (by rw [List.size_toArray, rs.length]; exact hj) (by simpa using hw) (Post.mk S rw' h))⟩
end
end Mine

set_option maxRecDepth 100000
set_option Elab.async false
set_option linter.unusedVariables false
namespace Mine
open PySem PyProof.Rows PySem.Builtin.Re PySem.W PySem.Spec

mutual
noncomputable def V.py : V → Option PyData
  | .none => some .none
  | .bool b => some (.bool b)
  | .int i => some (.int i)
  | .str x => some (.str x)
  | .tup xs => match V.pys xs with | some ds => some (.tuple ds) | Option.none => Option.none
  | .fl xs => match V.pys xs with | some ds => some (.list ds) | Option.none => Option.none
  | _ => Option.none
noncomputable def V.pys : List V → Option (List PyData)
  | [] => some []
  | x :: xs => match V.py x, V.pys xs with | some d, some ds => some (d :: ds) | _, _ => Option.none
end

mutual
theorem vr_reads {Z : Zt} {h : Heap} (hz : ∀ b o, Z b = some o → h.get? b = some o) : ∀ (v : V) (w : Value) (d : PyData), V.py v = some d → VR Z v w → ∃ as, Reads h w d as
  | .none, w, d, e, r => by simp only [V.py] at e; cases e; rw [of_none r]; exact ⟨_, .none⟩
  | .bool b, w, d, e, r => by simp only [V.py] at e; cases e; rw [of_bool r]; exact ⟨_, .bool b⟩
  | .int i, w, d, e, r => by simp only [V.py] at e; cases e; obtain ⟨t, rfl⟩ := of_int r; exact ⟨_, .int i t⟩
  | .str x, w, d, e, r => by simp only [V.py] at e; cases e; obtain ⟨t, rfl⟩ := of_str r; exact ⟨_, .str x t⟩
  | .tup xs, w, d, e, r => by
    simp only [V.py] at e
    split at e
    · rename_i ds hd
      cases e
      obtain ⟨a, ws, rfl, ⟨o, ho, hc, n, hdat⟩, rs⟩ := of_tup r
      obtain ⟨as, ra⟩ := vrs_reads hz xs ws ds hd rs
      exact ⟨_, .tuple (hz _ _ ho) hc hdat (by simpa using ra)⟩
    · cases e
  | .fl xs, w, d, e, r => by
    simp only [V.py] at e
    split at e
    · rename_i ds hd
      cases e
      obtain ⟨a, ws, rfl, ⟨o, ho, hc, n, hdat⟩, rs⟩ := of_fl r
      obtain ⟨as, ra⟩ := vrs_reads hz xs ws ds hd rs
      exact ⟨_, .list (hz _ _ ho) hc hdat (by simpa using ra)⟩
    · cases e
  | .bytes _, _, _, e, _ | .list _, _, _, e, _ | .raw _, _, _, e, _ | .rng _ _ _, _, _, e, _ | .mat _ _, _, _, e, _ => by simp [V.py] at e
theorem vrs_reads {Z : Zt} {h : Heap} (hz : ∀ b o, Z b = some o → h.get? b = some o) : ∀ (xs : List V) (ws : List Value) (ds : List PyData), V.pys xs = some ds → VRs Z xs ws → ∃ as, ReadsAll h ws ds as
  | [], ws, ds, e, r => by simp only [V.pys] at e; cases e; rw [r.of_nil]; exact ⟨_, .nil⟩
  | x :: xs, ws, ds, e, r => by
    simp only [V.pys] at e
    split at e
    · rename_i d ds' h1 h2
      cases e
      obtain ⟨w, ws', rfl, r1, r2⟩ := r.of_cons
      obtain ⟨as, ra⟩ := vr_reads hz x w d h1 r1
      obtain ⟨bs, rb⟩ := vrs_reads hz xs ws' ds' h2 r2
      exact ⟨_, .cons ra rb⟩
    · cases e
end

inductive Rd (st : St) : V → PyData → Prop
  | pure {v : V} {d : PyData} : V.py v = some d → Rd st v d
  | own {a : Addr} {xs : List V} {ds : List PyData} : (a, xs) ∈ st.ar → V.pys xs = some ds → Rd st (.list a) (.list ds)

theorem Rd.reads {G : Gl} {K Z : Zt} {L : Addr} {st : St} {s : Shared} (S : Sim G K Z L st s) {v : V} {d : PyData} {w : Value} (h : Rd st v d) (r : VR Z v w) : ∃ as, Reads s.heap w d as := by
  cases h with
  | pure e => exact vr_reads S.zz v w d e r
  | own ha e =>
    rw [of_list r]
    obtain ⟨_, _, _, ws, n, ho, rs⟩ := S.ar _ ha
    obtain ⟨as, ra⟩ := vrs_reads S.zz _ ws _ e rs
    exact ⟨_, .list ho rfl rfl (by simpa using ra)⟩

section
variable {G : Gl} {A : Around} {L : Addr} {st : St} {Q : V → St → Prop} {a b : V} {da db : PyData}
theorem op_ne (ha : Rd st a da) (hb : Rd st b db) (la : da.canLay0 = true) (lb : db.canLay0 = true) (hu : A.units + min da.depth db.depth < cLine) (h : Q (.bool (!PyData.eqv da db)) st) : Op2 G A L (compareOp .NotEq) a b st Q := ⟨fun K Z w u s S r1 r2 => by
  obtain ⟨as, ra⟩ := ha.reads S r1
  obtain ⟨bs, rb⟩ := hb.reads S r2
  exact PySem.SeqAt.compareNe_reads ra rb la lb hu (Post.mk S vr_bool h)⟩
end

section
variable {G : Gl} {A : Around} {L : Addr} {st : St} {Q : V → St → Prop}
theorem cb_len_list {a : Addr} {xs : List V} (ha : (a, xs) ∈ st.ar) (hl : xs.length ≤ 16777216) (h : Q (.int xs.length) st) : CB G A L "len" [.list a] st Q := ⟨fun K Z ws s S r => by
  obtain ⟨w1, ws1, rfl, r1, r2⟩ := r.of_cons
  rw [r2.of_nil, of_list r1]
  obtain ⟨_, _, _, ws, n, ho, rs⟩ := S.ar _ ha
  have hrl : ws.length = xs.length := VRs.length rs
  refine PySem.Calls.call_len_list (items := ws.toArray) ⟨_, ho, rfl, n, rfl⟩ (by rw [List.size_toArray, hrl]; (clear hrl ho; first | lia | omega)) ?_
  rw [List.size_toArray, hrl]
  exact Post.mk S.toks vr_int h⟩
end

structure CT (G : Gl) (A : Around) (L : Addr) (T : String) (vs : List V) (st : St) (Q : V → St → Prop) : Prop where
  run : ∀ K Z ws s, Sim G K Z L st s → VRs Z vs ws → wpAny G.M A (call (.type T) ws) (Post G K Z L VR Q) Nope s
section
variable {G : Gl} {A : Around} {env : Env} {L : Addr} {st : St} {Q : V → St → Prop} {pos : Pos}
theorem ev_tcall {x : Str} {p : Pos} {e : Expr} {es : List Expr} {T : String} (hp : (backTo pos (starEach (e :: es) env)).any (·.1) = false) (hs : starEach (e :: es) env = (false, eval e env) :: starEach es env)
    (h : Ev G A env (.Name x p) st fun v st₁ => v = .raw (.type T) ∧ Evs G A env (e :: es) st₁ fun vs st₂ => CT G A env.locals T vs st₂ Q) : Ev G A env (.Call (.Name x p) (e :: es) [] pos) st Q :=
  ⟨fun K Z s S => by
    show wpAny _ _ (eval (.Name x p) env >>= fun fv => callWith pos fv [] (backTo pos (starEach (e :: es) env)) []) _ _ s
    refine wpAny_bind (h.run.use S fun Z₁ v st₁ w s₁ z₁ S₁ r₁ hq0 => ?_)
    obtain ⟨hv, h₁⟩ := hq0
    subst hv
    rw [of_raw r₁]
    refine PySem.callWith_type hp ?_
    have h2 := (h₁.run pos).use (P := fun vs s' => wpAny G.M A (call (.type T) ([] ++ vs) []) (Post G K Z env.locals VR Q) Nope s') S₁ fun Z₂ vs st₂ ws s₂ z₂ S₂ r₂ hc =>
      wpLe (z₁.trans z₂) (hc.run K Z₂ ws s₂ S₂ r₂)
    rw [hs] at h2 ⊢
    exact PySem.Calls.evalArgs_plain h2⟩
end
end Mine

set_option maxRecDepth 100000
set_option Elab.async false
set_option linter.unusedVariables false
namespace Mine
open PySem PyProof.Rows PySem.Builtin.Re PySem.W

noncomputable def ifsTree (ifs : List Expr) (env : Env) : Sem Bool :=
  forIn ifs true fun c r => if r = true then do let ok ← isTrue c env (eval c env); pure (ForInStep.yield ok) else pure (ForInStep.yield r)

structure Ifs (G : Gl) (A : Around) (env : Env) (ifs : List Expr) (st : St) (Q : Bool → St → Prop) : Prop where
  run : Tri G A env.locals BR (ifsTree ifs env) st Q

section
variable {G : Gl} {A : Around} {env : Env} {st : St}
theorem ifs_nil {Q : Bool → St → Prop} (h : Q true st) : Ifs G A env [] st Q := ⟨fun K Z s S => wpAny_pure (Post.mk (R := BR) S rfl h)⟩
theorem ifs_one {c : Expr} {Q : Bool → St → Prop} (h : Tst G A env c st Q) : Ifs G A env [c] st Q := ⟨fun K Z s S => by
  unfold ifsTree
  rw [List.forIn_cons]
  simp only [if_true]
  refine wpAny_bind (wpAny_bind (h.run.use S fun Z₁ b st₁ c s₁ z₁ S₁ e q => wpAny_pure ?_))
  exact wpAny_pure ⟨Z₁, b, st₁, z₁, S₁, e, q⟩⟩
end

section
variable {prog : Program} {w : World} {A : Around} {s : Shared} {env : Env}
theorem codeAny_compTurn {R : Result → Shared → Prop} {elt target iter : Expr} {ifs : List Expr} {scope : Scope} {pos : Pos} {it acc : Value}
    (h : wpAny (model prog w) A (pyNext it) (fun r s₁ => match r with
      | none => R (.ok .next) s₁
      | some v => wpAny (model prog w) A (letOwnedTupleGo target it v) (fun _ s₁' =>
          wpAny (model prog w) A (assign target env v) (fun _ s₂ => wpAny (model prog w) A (ifsTree ifs env) (fun b s₃ =>
            if b then wpAny (model prog w) A (eval elt env) (fun x s₄ => wpAny (model prog w) A (call (.builtin "list.append") [acc, x]) (fun _ s₅ =>
              codeAny (model prog w) A (.compLoop (.ListComp elt [⟨target, iter, ifs, 0⟩] scope pos) 0 it acc env) R s₅) Nope s₄) Nope s₃
            else codeAny (model prog w) A (.compLoop (.ListComp elt [⟨target, iter, ifs, 0⟩] scope pos) 0 it acc env) R s₃) Nope s₂) Nope s₁') Nope s₁) Nope s) :
    codeAny (model prog w) A (.compLoop (.ListComp elt [⟨target, iter, ifs, 0⟩] scope pos) 0 it acc env) R s := by
  refine codeAny_of_tree ?_
  show wpAny _ (A.under (.compLoop (.ListComp elt [⟨target, iter, ifs, 0⟩] scope pos) 0 it acc env)) ((compTurn (.ListComp elt [⟨target, iter, ifs, 0⟩] scope pos) 0 it acc env).onRaise (fun x => do noteFrame x env; theTreesLotGoes x)) _ _ s
  rw [Around.under_of_weight (c := .compLoop (.ListComp elt [⟨target, iter, ifs, 0⟩] scope pos) 0 it acc env) rfl rfl]
  refine wpAny_onRaise (wpAny_mono (E := Nope) ?_ (fun _ _ q => q) fun _ _ x => x.elim)
  show wpAny _ _ (standAt iter.pos >>= fun _ => pyNext it >>= fun r => match r with
      | none => pure (.done .next)
      | some v => letOwnedTupleGo target it v >>= fun _ => assign target env v >>= fun _ => ifsTree ifs env >>= fun b =>
        (if b = true then (eval elt env >>= fun x => call (.builtin "list.append") [acc, x] >>= fun _ => pure ()) >>= fun _ =>
          again (.compLoop (.ListComp elt [⟨target, iter, ifs, 0⟩] scope pos) 0 it acc env) else again (.compLoop (.ListComp elt [⟨target, iter, ifs, 0⟩] scope pos) 0 it acc env))) _ _ s
  refine wpAny_bind (wpAny_standAt (wpAny_bind (wpAny_mono h (fun r s₁ h₁ => ?_) fun _ _ h' => h'.elim)))
  cases r with
  | none => exact wpAny_pure h₁
  | some v =>
    refine wpAny_bind (wpAny_mono h₁ (fun _ s₁' h₁' => ?_) fun _ _ h' => h'.elim)
    refine wpAny_bind (wpAny_mono h₁' (fun _ s₂ h₂ => wpAny_bind (wpAny_mono h₂ (fun b s₃ h₃ => ?_) fun _ _ h' => h'.elim)) fun _ _ h' => h'.elim)
    cases b with
    | true =>
      simp only [if_true] at h₃ ⊢
      exact wpAny_bind (wpAny_bind (wpAny_mono h₃ (fun x s₄ h₄ => wpAny_bind (wpAny_mono h₄ (fun _ s₅ h₅ => wpAny_pure (wpAny_pure ⟨rfl, h₅⟩)) fun _ _ h' => h'.elim)) fun _ _ h' => h'.elim))
    | false =>
      simp only [Bool.false_eq_true, if_false] at h₃ ⊢
      exact wpAny_pure ⟨rfl, h₃⟩
end
end Mine

set_option maxRecDepth 100000
set_option Elab.async false
set_option linter.unusedVariables false
namespace Mine
open PySem PyProof.Rows PySem.Builtin.Re PySem.W

structure CpG (G : Gl) (A : Around) (env : Env) (e : Expr) (d : Nat) (D : Addr) (xs : List V) (st : St) (Q : St → Prop) : Prop where
  run : ∀ K Z s it done P o, Itr G A Z it (done ++ xs) P → Sim G K Z env.locals st s → s.heap.get? it = some o → P done.length o → ¬ Tracked G K Z env.locals st it →
    codeAny G.M A (.compLoop e d (.ref it) (.ref D) env) (OkR (Post G K Z env.locals FR fun _ st' => Q st')) s

noncomputable abbrev CpT (G : Gl) (A : Around) (env : Env) (elt t iter : Expr) (ifs : List Expr) (scope : Scope) (pos : Pos) (D : Addr) (xs : List V) (st : St) (Q : St → Prop) : Prop :=
  CpG G A env (.ListComp elt [⟨t, iter, ifs, 0⟩] scope pos) 0 D xs st Q

theorem not_tracked_K {G : Gl} {K K' Z : Zt} {L : Addr} {st : St} {s : Shared} {a : Addr} {o : Obj} (S : Sim G K Z L st s) (e : K a = some o) (hK : K' a = none) : ¬ Tracked G K' Z L st a := by
  rintro (⟨o', h⟩ | ⟨o', h⟩ | h | ⟨p, hp, h⟩ | ⟨t, ht, h⟩)
  · rw [hK] at h; cases h
  · rw [S.kz a o e] at h; cases h
  · subst h; rw [S.kL] at e; cases e
  · have := (S.ar p hp).1; rw [h, e] at this; cases this
  · have := (S.tb t ht).1; rw [h, e] at this; cases this

section
variable {G : Gl} {A : Around} {env : Env} {st : St} {elt t iter : Expr} {ifs : List Expr} {scope : Scope} {pos : Pos} {D : Addr}

theorem CpG.ent {e : Expr} {d : Nat} {xs : List V} {st₀ : St} {Q : St → Prop} (he : Ent G env.locals st st₀) (h : CpG G A env e d D xs st₀ Q) : CpG G A env e d D xs st Q :=
  ⟨fun K Z s it done P o I S ho hp ht => by
    have hK : K it = none := by
      cases q : K it with
      | none => rfl
      | some o' => exact absurd (.inl ⟨o', q⟩) ht
    have S₁ := S.addK ht ho
    obtain ⟨Z', z, S'⟩ := he _ _ _ S₁
    have ht' := not_tracked_dropK S' hK
    exact codeAny_mono (h.run K Z' s it done P o (I.mono z) (S'.lessK (Zset.le' hK)) ho hp ht') fun r s' hr => by
      cases r with
      | ok f => exact Post.le hr z
      | error x => exact hr⟩
theorem CpG.again {e : Expr} {d : Nat} {x : V} {xs done : List V} {Q : St → Prop} {K Z Z₄ : Zt} {st₄ : St} {s₄ : Shared} {it : Addr} {o' : Obj} {P : Nat → Obj → Prop} (hK : K it = none) (I : Itr G A Z it (done ++ x :: xs) P) (hp' : P (done.length + 1) o') (z : Zle Z Z₄) (S₄ : Sim G (Zset K it o') Z₄ env.locals st₄ s₄) (hf : CpG G A env e d D xs st₄ Q) :
    codeAny G.M A (.compLoop e d (.ref it) (.ref D) env) (OkR (Post G K Z env.locals FR fun _ st' => Q st')) s₄ := by
  refine codeAny_mono (hf.run K Z₄ s₄ it (done ++ [x]) P o' (by rw [List.append_assoc]; exact I.mono z) (S₄.lessK (Zset.le' (o := o') hK)) (S₄.kk _ _ Zset.self) (by simpa using hp') (not_tracked_dropK S₄ hK)) fun r s' hr => ?_
  cases r with
  | ok f => exact Post.le hr z
  | error x => exact hr
theorem CpT.ent {xs : List V} {st₀ : St} {Q : St → Prop} (he : Ent G env.locals st st₀) (h : CpT G A env elt t iter ifs scope pos D xs st₀ Q) : CpT G A env elt t iter ifs scope pos D xs st Q := CpG.ent he h
theorem cp_nil {Q : St → Prop} (h : Q st) : CpT G A env elt t iter ifs scope pos D [] st Q :=
  ⟨fun K Z s it done P o I S ho hp ht => by
    refine codeAny_compTurn (I.done s o _ S.zz ho (by simpa using hp) fun h' hx => ?_)
    exact ⟨Z, .next, st, .refl, S.ext hx ht, rfl, h⟩⟩
theorem cp_cons {x : V} {xs : List V} {Q : St → Prop} (h : Asg G A env t x st fun st₁ => Ifs G A env ifs st₁ fun b st₂ =>
    if b then Ev G A env elt st₂ fun v st₃ => ∃ ys, (D, ys) ∈ st₃.ar ∧ ys.length ≤ 16000000 ∧ CpT G A env elt t iter ifs scope pos D xs ⟨st₃.loc, setA D (ys ++ [v]) st₃.ar⟩ Q
    else CpT G A env elt t iter ifs scope pos D xs st₂ Q) : CpT G A env elt t iter ifs scope pos D (x :: xs) st Q :=
  ⟨fun K Z s it done P o I S ho hp ht => by
    have hK : K it = none := by
      cases q : K it with
      | none => rfl
      | some o' => exact absurd (.inl ⟨o', q⟩) ht
    refine codeAny_compTurn (I.next (i := done.length) (v := x) (by simp) s o _ S.zz ho hp fun w h' tk o' r ho' hp' hsb => ?_)
    have S₁ : Sim G K Z env.locals st { s with heap := h', toks := tk } := S.ext hsb.extBut ht
    obtain ⟨T, vs, hT, hc, hd⟩ := I.kind _ _ hp'
    refine letOwned_ok ho' hT hc hd ?_
    refine wpAny_mono (h.run _ Z w _ (S₁.addK ht ho') r) (fun _ s₂ hq0 => ?_) fun _ _ x => x
    obtain ⟨Z₂, _, st₂, z₂, S₂, _, h₂⟩ := hq0
    refine h₂.run.use S₂ fun Z₃ b st₃ c s₃ z₃ S₃ e h₃ => ?_
    cases e
    cases b with
    | false =>
      simp only [Bool.false_eq_true, if_false] at h₃ ⊢
      exact CpG.again hK I hp' (z₂.trans z₃) S₃ h₃
    | true =>
      simp only [if_true] at h₃ ⊢
      refine h₃.run.use S₃ fun Z₄ v st₄ u s₄ z₄ S₄ r₄ hq1 => ?_
      obtain ⟨ys, hy, hyl, h₄⟩ := hq1
      have := (cb_append (G := G) (A := A) (L := env.locals) (st := st₄) (v := v) (Q := fun r st' => st' = ⟨st₄.loc, setA D (ys ++ [v]) st₄.ar⟩) hy hyl rfl).run _ Z₄ [.ref D, u] s₄ S₄ (.cons vr_list (.cons r₄ .nil))
      refine wpAny_mono this (fun _ s₅ hq2 => ?_) fun _ _ x => x
      obtain ⟨Z₅, _, st₅, z₅, S₅, _, e⟩ := hq2
      subst e
      exact CpG.again hK I hp' (((z₂.trans z₃).trans z₄).trans z₅) S₅ h₄⟩

theorem comp_core {p₀ : Pos} {use : Option (Value → Sem Unit)} {QQ : Value → Shared → Prop} {K Z : Zt} {s : Shared} {R : V → St → Prop} {rest : List Comprehension} {cl : List (Str × Addr)} (hA : A.handled = none) (hclos : closureFor scope env = pure cl) (hcell : ∀ x ∈ scope.names, x.2 ≠ .cell) (hkind : scope.kind = .function) (hnames : ∀ x ∈ scope.names, x.2 = .local → scope.names.lookup x.1 = some .local)
    (hs : ∀ x, foldedSetIterable iter env x = pure x)
    (S : Sim G K Z env.locals st s)
    (h : Ev G A env iter st fun v st₁ => ∃ v' st₂ xs, EntV G env.locals v st₁ v' st₂ ∧ iterItems v' = some xs ∧ ∀ C D, (∀ p ∈ st₂.ar, p.1 ≠ D) →
      CpG G A (compEnvC scope cl C env) (.ListComp elt (⟨t, iter, ifs, 0⟩ :: rest) scope pos) 0 D xs ⟨[], (D, []) :: st₂.ar⟩ fun st' => R (.list D) ⟨st₂.loc, st'.ar⟩)
    (hfin : ∀ Z₃ D C s' st₄ m₃ f, Zle Z Z₃ → Sim G K Z₃ env.locals st₄ s' → ¬ Tracked G K Z₃ env.locals st₄ C → s'.heap.Ns C m₃ → R (.list D) st₄ → compPost G.M A Nope use QQ (.ref D) C (.ok f) s') :
    wpAny G.M A (comprehension (.ListComp elt (⟨t, iter, ifs, 0⟩ :: rest) scope pos) scope env p₀ (newList []) false (eval iter env) use) QQ Nope s := by
  refine wpAny_comprehension_free (use := use) rfl hs hclos hkind hnames (h.run.use S fun Z₁ v st₁ w s₁ z₁ S₁ r₁ hq3 => ?_)
  obtain ⟨v', st₂, xs, he, hx, hf⟩ := hq3
  obtain ⟨Z₂, z₂, S₂, r₂⟩ := he K Z₁ w s₁ S₁ r₁
  refine pyIter_use S₂ hA r₂ hx fun P o ho I hp => ?_
  have Sa := (S₂.push o (tk := s₁.toks)).addK (a := s₁.heap.objs.size) S₂.fresh (Heap.get?_push_size _ ho)
  have hKit : K s₁.heap.objs.size = none := by
    cases q : K s₁.heap.objs.size with
    | none => rfl
    | some o' => exact absurd (.inl ⟨o', q⟩) S₂.fresh
  have Sb := Sa.newList (vs := []) (ws := []) .nil
  have hD : ∀ p ∈ st₂.ar, p.1 ≠ (s₁.heap.push o).objs.size := fun p hp e => Sa.fresh (.inr (.inr (.inr (.inl ⟨p, hp, e⟩))))
  refine wpAny_newObj_type ?_
  refine wpAny_newFunctionEnv hcell (by intro y hy; simp at hy) (fun h₁ hns₁ hsb₁ => ?_) hkind
  obtain ⟨m, ⟨oL, es, ep, hL, hns⟩, hm⟩ := Sb.ns
  dsimp only at hns₁ hsb₁ hL ⊢
  have hk : ∀ b o', (((s₁.heap.push o).push { cls := .type "list", data := .seq ([] : List Value).toArray }).get? b = some o') → h₁.get? b = some o' := fun b o' e =>
    (hsb₁.2 b (Nat.ne_of_lt (Heap.lt_size e))).trans (Heap.get?_push_of_some _ e)
  have Sc := Sb.enter (binds := []) (tk := s₁.toks + ([] : List (Str × Value)).length) hL hk (Heap.get?_none_of_le (Nat.le_refl _)) hns₁ (fun x => trivial)
  have hLit : env.locals ≠ s₁.heap.objs.size := fun q => S₂.fresh (.inr (.inr (.inl q.symm)))
  have eit : Zset (Zset K s₁.heap.objs.size o) env.locals oL s₁.heap.objs.size = some o := by rw [Zset.ne (Ne.symm hLit)]; exact Zset.self
  have hKn : Zset K env.locals oL s₁.heap.objs.size = none := by rw [Zset.ne (Ne.symm hLit)]; exact hKit
  have hle : Zle (Zset K env.locals oL) (Zset (Zset K s₁.heap.objs.size o) env.locals oL) := fun b o' e => by
    unfold Zset at e ⊢
    split at e
    · rename_i q; rw [if_pos q]; exact e
    · rename_i q; rw [if_neg q, if_neg (fun q' => by rw [q', hKit] at e; cases e)]; exact e
  have Sd := Sc.lessK hle
  have hnt := not_tracked_K (K' := Zset K env.locals oL) Sc eit hKn
  have loop := (hf ((s₁.heap.push o).push { cls := .type "list", data := .seq ([] : List Value).toArray }).objs.size (s₁.heap.push o).objs.size hD).run _ Z₂ _ s₁.heap.objs.size [] P o I Sd (Sc.kk _ _ eit) hp hnt
  have Sb' := Sb.lessK (K' := K) (Zset.le' hKit)
  have fin : codeAny G.M A (.compLoop (.ListComp elt (⟨t, iter, ifs, 0⟩ :: rest) scope pos) 0 (.ref s₁.heap.objs.size) (.ref (s₁.heap.push o).objs.size) (compEnvC scope cl ((s₁.heap.push o).push { cls := .type "list", data := .seq ([] : List Value).toArray }).objs.size env))
      (compPost G.M A Nope use QQ (.ref (s₁.heap.push o).objs.size) ((s₁.heap.push o).push { cls := .type "list", data := .seq ([] : List Value).toArray }).objs.size) { s₁ with heap := h₁, toks := s₁.toks + ([] : List (Str × Value)).length } := by
    refine codeAny_mono loop fun r s' hr => ?_
    cases r with
    | error x => exact hr.elim
    | ok f =>
      obtain ⟨Z₃, _, st₃, z₃, S₃, _, hq⟩ := hr
      obtain ⟨loc₃, ar₃⟩ := st₃
      obtain ⟨m₃, hn₃, _⟩ := S₃.ns
      have S₄ := Sb'.leave hL z₃ S₃
      have eL : Zset K env.locals oL env.locals = some oL := Zset.self
      have hnC : ¬ Tracked G K Z₃ env.locals ⟨st₂.loc, ar₃⟩ ((s₁.heap.push o).push { cls := .type "list", data := .seq ([] : List Value).toArray }).objs.size := by
        rintro (⟨o', h⟩ | ⟨o', h⟩ | h | ⟨p, hp, h⟩ | ⟨t, ht, h⟩)
        · exact nomatch (Zset.le' (o := oL) S₂.kL _ _ h).symm.trans S₃.kL
        · exact nomatch h.symm.trans S₃.zL
        · exact nomatch eL.symm.trans ((congrArg (Zset K env.locals oL) h.symm).trans S₃.kL)
        · exact (S₃.ar p hp).2.2.1 h
        · exact (S₃.tb t ht).2.2.1 h
      exact hfin Z₃ _ _ s' _ m₃ f ((z₁.trans z₂).trans z₃) S₄ hnC hn₃ hq
  exact codeAny_compStart_list fin (wpAny_mono (I.self 0 o _ (fun it' s' => it' = .ref s₁.heap.objs.size ∧ s' = { s₁ with heap := h₁, toks := s₁.toks + ([] : List (Str × Value)).length }) (Sc.kk _ _ eit) hp ⟨rfl, rfl⟩) (fun it' s' hq4 => by obtain ⟨e1, e2⟩ := hq4; subst e1; subst e2; exact fin) fun _ _ x => x.elim)
theorem ev_compG {rest : List Comprehension} {cl : List (Str × Addr)} {Q : V → St → Prop} (hA : A.handled = none) (hclos : closureFor scope env = pure cl) (hcell : ∀ x ∈ scope.names, x.2 ≠ .cell) (hkind : scope.kind = .function) (hnames : ∀ x ∈ scope.names, x.2 = .local → scope.names.lookup x.1 = some .local)
    (hs : ∀ x, foldedSetIterable iter env x = pure x)
    (h : Ev G A env iter st fun v st₁ => ∃ v' st₂ xs, EntV G env.locals v st₁ v' st₂ ∧ iterItems v' = some xs ∧ ∀ C D, (∀ p ∈ st₂.ar, p.1 ≠ D) →
      CpG G A (compEnvC scope cl C env) (.ListComp elt (⟨t, iter, ifs, 0⟩ :: rest) scope pos) 0 D xs ⟨[], (D, []) :: st₂.ar⟩ fun st' => Q (.list D) ⟨st₂.loc, st'.ar⟩) :
    Ev G A env (.ListComp elt (⟨t, iter, ifs, 0⟩ :: rest) scope pos) st Q := ⟨fun K Z s S => by
  rw [eval_ListComp]
  exact comp_core (R := Q) hA hclos hcell hkind hnames hs S h fun Z₃ D C s' st₄ m₃ f z S₄ hnC hn₃ q => ⟨m₃, hn₃, fun h' hs' => ⟨Z₃, .list D, _, z, S₄.ext (tk := s'.toks) hs'.extBut hnC, vr_list, q⟩⟩⟩
theorem ex_compG {y : Str} {py spos : Pos} {rest : List Comprehension} {cl : List (Str × Addr)} {Q : Fl → St → Prop} (hsw : swapsWith (.ListComp elt (⟨t, iter, ifs, 0⟩ :: rest) scope pos) (some (.Name y py)) spos.line env = pure true) (hA : A.handled = none) (hclos : closureFor scope env = pure cl) (hcell : ∀ x ∈ scope.names, x.2 ≠ .cell) (hkind : scope.kind = .function) (hnames : ∀ x ∈ scope.names, x.2 = .local → scope.names.lookup x.1 = some .local)
    (hs : ∀ x, foldedSetIterable iter env x = pure x) (hk : env.scope.kind = .function) (hl : env.kindOf y = some .local)
    (h : Ev G A env iter st fun v st₁ => ∃ v' st₂ xs, EntV G env.locals v st₁ v' st₂ ∧ iterItems v' = some xs ∧ ∀ C D, (∀ p ∈ st₂.ar, p.1 ≠ D) →
      CpG G A (compEnvC scope cl C env) (.ListComp elt (⟨t, iter, ifs, 0⟩ :: rest) scope pos) 0 D xs ⟨[], (D, []) :: st₂.ar⟩ fun st' => ∃ v' st₃, EntV G env.locals (.list D) ⟨st₂.loc, st'.ar⟩ v' st₃ ∧ Q .next (st₃.set y v')) :
    Ex G A env (.Assign [.Name y py] (.ListComp elt (⟨t, iter, ifs, 0⟩ :: rest) scope pos) spos) st Q := ⟨fun K Z s S => by
  rw [exec_Assign_Name_used _ _ _ _ hsw]
  refine wpAny_bind (wpAny_standAt (wpAny_bind (wpAny_bind ?_)))
  refine comp_core (R := fun v st₄ => ∃ v' st₃, EntV G env.locals v st₄ v' st₃ ∧ Q .next (st₃.set y v')) hA hclos hcell hkind hnames hs S h fun Z₃ D C s' st₄ m₃ f z S₄ hnC hn₃ hq5 => ?_
  obtain ⟨v', st₃, he, q⟩ := hq5
  obtain ⟨oC, es, ep, hC, hr⟩ := hn₃
  have hKC : K C = none := by
    cases q : K C with
    | none => rfl
    | some o' => exact absurd (.inl ⟨o', q⟩) hnC
  obtain ⟨Z₄, z₄, S₅, r₅⟩ := he _ Z₃ (.ref D) s' (S₄.addK hnC hC) vr_list
  refine wpAny_assign_Name (S₅.store r₅ hk hl fun s'' S₆ => ?_)
  refine ⟨m₃, ⟨oC, es, ep, S₆.kk _ _ Zset.self, hr⟩, fun h' hs' => wpAny_pure (wpAny_pure ?_)⟩
  exact ⟨Z₄, .next, _, z.trans z₄, (S₆.lessK (Zset.le' hKC)).ext (tk := s''.toks) hs'.extBut (not_tracked_dropK S₆ hKC), rfl, q⟩⟩
theorem ev_comp {cl : List (Str × Addr)} {Q : V → St → Prop} (hA : A.handled = none) (hclos : closureFor scope env = pure cl) (hcell : ∀ x ∈ scope.names, x.2 ≠ .cell) (hkind : scope.kind = .function) (hnames : ∀ x ∈ scope.names, x.2 = .local → scope.names.lookup x.1 = some .local)
    (hs : ∀ x, foldedSetIterable iter env x = pure x)
    (h : Ev G A env iter st fun v st₁ => ∃ v' st₂ xs, EntV G env.locals v st₁ v' st₂ ∧ iterItems v' = some xs ∧ ∀ C D, (∀ p ∈ st₂.ar, p.1 ≠ D) →
      CpT G A (compEnvC scope cl C env) elt t iter ifs scope pos D xs ⟨[], (D, []) :: st₂.ar⟩ fun st' => Q (.list D) ⟨st₂.loc, st'.ar⟩) :
    Ev G A env (.ListComp elt [⟨t, iter, ifs, 0⟩] scope pos) st Q := ev_compG hA hclos hcell hkind hnames hs h
end
end Mine

set_option maxRecDepth 100000
set_option Elab.async false
set_option linter.unusedVariables false
namespace Mine
open PySem PyProof.Rows PySem.Builtin.Re PySem.W

section
variable {G : Gl} {A : Around} {L : Addr} {st : St} {Q : V → St → Prop}
theorem op_neg {a : Int} (h : Q (.int (-a)) st) : Op1 G A L (unaryOp .USub) (.int a) st Q := ⟨fun K Z w s S r => by
  obtain ⟨t, rfl⟩ := of_int r
  exact PyProof.Rows.neg_int (Post.mk S.toks vr_int h)⟩
end

section
variable {G : Gl} {A : Around} {env : Env} {st : St} {pos p : Pos}
end

section
variable {prog : Program} {w : World} {A : Around} {E : Value → Shared → Prop} {s : Shared}
end
section
variable {G : Gl} {A : Around} {env : Env} {st : St} {pos p : Pos}
end
end Mine

set_option maxRecDepth 100000
set_option Elab.async false
set_option linter.unusedVariables false
namespace Mine
open PySem PyProof.Rows PySem.Builtin.Re PySem.W

noncomputable def Gl.cell (G : Gl) (c : Addr) (v : V) : Gl := { G with cells := (c, v) :: G.cells }
theorem GlOk.cell {G : Gl} (O : GlOk G) (c : Addr) (v : V) : GlOk (G.cell c v) := ⟨O.g, O.b, O.nolimit, O.nodigits, O.bm, O.tabs⟩

section
variable {G : Gl} {A : Around} {env : Env} {st : St} {pos : Pos}
theorem Ev.entv {e : Expr} {Q : V → St → Prop} (h : Ev G A env e st fun v st₁ => ∃ v' st₂, EntV G env.locals v st₁ v' st₂ ∧ Q v' st₂) : Ev G A env e st Q :=
  ⟨fun K Z s S => h.run.use S fun Z₁ v st₁ w s₁ z₁ S₁ r₁ hq0 => by
    obtain ⟨v', st₂, he, q⟩ := hq0
    obtain ⟨Z₂, z₂, S₂, r₂⟩ := he K Z₁ w s₁ S₁ r₁
    exact ⟨Z₂, v', st₂, z₁.trans z₂, S₂, r₂, q⟩⟩
end

structure FnC (G : Gl) (f : Addr) (name : Str) (ps : List Str) (body : List Stmt) (scope : Scope) (cd : Value) (x : Str) : Prop where
  obj : ∃ o params pm doc, G.base.get? f = some o ∧ o.data = .func (PySem.Calls.docDef name params body scope pm cd doc) ∧ (∀ ws, ws.length = ps.length → bindArgs (PySem.Calls.docDef name params body scope pm cd doc) ⟨ws, []⟩ = pure (ps.zip ws))
  code : G.base.CodeRec cd name
  loc : ∀ x ∈ ps, scope.names.lookup x = some .local
  co : scope.isCoroutine = false
  gen : scope.isGenerator = false
  kind : scope.kind = .function
  cells : ∀ n, cellsFrom n scope.names [] = [(x, n)]
  isc : scope.names.lookup x = some .cell

section
variable {G : Gl} {A : Around}
end
end Mine

set_option maxRecDepth 100000
set_option Elab.async false
set_option linter.unusedVariables false
namespace Mine
open PySem PyProof.Rows PySem.Builtin.Re PySem.W

section
variable {G : Gl} {A : Around} {env : Env} {elt t iter : Expr} {ifs : List Expr} {scope : Scope} {pos : Pos} {D : Addr}
theorem cp_map {β : Type} (f : β → V) (p : β → Bool) (g : β → V) (xs : List β) {ar : List (Addr × List V)} {Q : St → Prop} (hlen : xs.length ≤ 16000000)
    (turn : ∀ x ∈ xs, ∀ ys, Asg G A env t (f x) ⟨[], (D, ys) :: ar⟩ fun st₁ => Ifs G A env ifs st₁ fun b st₂ => b = p x ∧
      if b then Ev G A env elt st₂ fun v st₃ => v = g x ∧ st₃.ar = (D, ys) :: ar else st₂.ar = (D, ys) :: ar)
    (fin : ∀ l, Q ⟨l, (D, (xs.filter p).map g) :: ar⟩) : CpT G A env elt t iter ifs scope pos D (xs.map f) ⟨[], (D, []) :: ar⟩ Q := by
  have key : ∀ (rest done : List β), xs = done ++ rest → CpT G A env elt t iter ifs scope pos D (rest.map f) ⟨[], (D, (done.filter p).map g) :: ar⟩ Q := by
    intro rest
    induction rest with
    | nil => intro done e; rw [List.append_nil] at e; subst e; exact cp_nil (fin [])
    | cons x rest ih =>
      intro done e
      have hlen' : ((done.filter p).map g).length ≤ 16000000 := by
        have h1 := List.length_filter_le p done
        rw [e] at hlen
        simp only [List.length_append, List.length_map] at hlen ⊢
        (clear e ih fin turn; first | lia | omega)
      have ht := turn x (by rw [e]; exact List.mem_append_right _ (.head _)) ((done.filter p).map g)
      have ih' := ih (done ++ [x]) (by rw [e]; simp)
      refine cp_cons (ht.mono fun st₁ h₁ => ⟨fun K Z s S => wpAny_mono (h₁.run K Z s S) (fun b s' hm0 => ?_) fun _ _ q => q⟩)
      obtain ⟨Z', c, st', z, S', eb, h₂⟩ := hm0
      refine ⟨Z', c, st', z, S', eb, ?_⟩
      obtain ⟨hc, h₂⟩ := h₂
      cases c with
      | false =>
        simp only [Bool.false_eq_true, if_false] at h₂ ⊢
        have e1 : (done ++ [x]).filter p = done.filter p := by rw [List.filter_append]; simp [← hc]
        rw [e1] at ih'
        obtain ⟨l, a⟩ := st'
        subst h₂
        exact CpT.ent (ent_loc .nil) ih'
      | true =>
        simp only [if_true] at h₂ ⊢
        refine h₂.mono fun v st₃ hq0 => ?_
        obtain ⟨hv, har⟩ := hq0
        obtain ⟨l, a⟩ := st₃
        subst hv; subst har
        refine ⟨_, .head _, hlen', ?_⟩
        have e1 : ((done ++ [x]).filter p).map g = (done.filter p).map g ++ [g x] := by rw [List.filter_append]; simp [← hc]
        rw [e1] at ih'
        refine CpT.ent (st₀ := ⟨[], (D, (done.filter p).map g ++ [g x]) :: ar⟩) (ent_set ?_ .nil) ih'
        simp [setA]
  exact key xs [] rfl
end

end Mine

set_option maxRecDepth 100000
set_option Elab.async false
set_option linter.unusedVariables false
namespace Mine
open PySem PyProof.Rows PySem.Builtin.Re PySem.W PySem.Spec

noncomputable abbrev okS (x : Str) : Prop := PyData.strOk x = true
theorem pys_map {β : Type} (f : β → V) (g : β → PyData) (h : ∀ x, V.py (f x) = some (g x)) : ∀ l : List β, V.pys (l.map f) = some (l.map g)
  | [] => by simp [V.pys]
  | x :: l => by simp [V.pys, h x, pys_map f g h l]
theorem lay_map {β : Type} (g : β → PyData) : ∀ l : List β, (∀ x ∈ l, (g x).canLay0 = true) → PyData.canLayAll0 (l.map g) = true
  | [], _ => by simp [PyData.canLayAll0]
  | x :: l, h => by
    simp only [List.map_cons, PyData.canLayAll0, Bool.and_eq_true]
    exact ⟨h x (.head _), lay_map g l fun y hy => h y (.tail _ hy)⟩
theorem eqvAll_nil (ds : List PyData) : PyData.eqvAll ds [] = ds.isEmpty := by cases ds <;> simp [PyData.eqvAll]

section
variable {G : Gl} {A : Around} {L : Addr} {st : St} {Q : V → St → Prop}
theorem pys_isEmpty : ∀ {xs : List V} {ds : List PyData}, V.pys xs = some ds → ds.isEmpty = xs.isEmpty
  | [], ds, h => by simp [V.pys] at h; subst h; rfl
  | x :: xs, ds, h => by
    simp only [V.pys] at h
    split at h
    · cases h; rfl
    · cases h
end
end Mine

set_option maxRecDepth 100000
set_option Elab.async false
set_option linter.unusedVariables false
namespace Mine
open PySem PyProof.Rows PySem.Builtin.Re PySem.W PySem.Spec

section
variable {G : Gl} {A : Around} {env : Env} {st : St} {pos : Pos} {Q : V → St → Prop}
theorem Evs.mono {es : List Expr} {Q Q' : List V → St → Prop} (h : Evs G A env es st Q) (hQ : ∀ v st', Q v st' → Q' v st') : Evs G A env es st Q' := ⟨fun p => (h.run p).mono hQ⟩
theorem Fn.isf {f : Addr} {name : Str} {ps : List Str} {body : List Stmt} {scope : Scope} {cd : Value} (F : Fn G f name ps body scope cd) : ∃ o fd, G.base.get? f = some o ∧ o.data = .func fd :=
  by obtain ⟨o, params, pm, doc, h1, h2, _⟩ := F.obj; exact ⟨o, _, h1, h2⟩
theorem FnC.isf {f : Addr} {name x : Str} {ps : List Str} {body : List Stmt} {scope : Scope} {cd : Value} (F : FnC G f name ps body scope cd x) : ∃ o fd, G.base.get? f = some o ∧ o.data = .func fd :=
  by obtain ⟨o, params, pm, doc, h1, h2, _⟩ := F.obj; exact ⟨o, _, h1, h2⟩
end
end Mine

set_option maxRecDepth 100000
set_option Elab.async false
set_option linter.unusedVariables false
namespace Mine
open PySem PyProof.Rows PySem.Builtin.Re PySem.W PySem.Spec

end Mine

set_option maxRecDepth 100000
set_option Elab.async false
set_option linter.unusedVariables false
namespace Mine
open PySem PyProof.Rows

noncomputable def SepH (rest : List Nat) : Prop := ∀ c, rest.head? = some c → c = 44 ∨ c = 59
theorem SepH.wd {rest : List Nat} (h : SepH rest) : ∀ c, rest.head? = some c → isWd c = false := fun c hc => by
  rcases h c hc with rfl | rfl <;> decide
end Mine

set_option maxRecDepth 100000
set_option Elab.async false
set_option linter.unusedVariables false
namespace Mine
open PySem PyProof.Rows

theorem str_len_list (x : Str) : x.length = x.cps.toList.length := Array.length_toList.symm
end Mine

set_option maxRecDepth 100000
set_option Elab.async false
set_option linter.unusedVariables false
namespace Mine
open PySem PyProof.Rows PySem.W

inductive AttL : List Kd → List V → Prop
  | nil : AttL [] []
  | snoc {ks : List Kd} {us : List V} {k : Kd} {u : V} (h : AttL ks us) (a : AttR k u) : AttL (ks ++ [k]) (us ++ [u])
theorem AttL.len {ks : List Kd} {us : List V} (h : AttL ks us) : us.length = ks.length := by
  induction h with
  | nil => rfl
  | snoc _ _ ih => simp [ih]
theorem AttL.noimm {ks : List Kd} {us : List V} (h : AttL ks us) : ks.findSome? imm = none := by
  induction h with
  | nil => rfl
  | @snoc ks us k u _ a ih =>
    rw [List.findSome?_append, ih]
    cases k with
    | good w => rfl
    | lone => rfl
    | badT => exact a.elim
    | badV => exact a.elim
theorem AttL.all {ks : List Kd} {us : List V} (h : AttL ks us) : ∀ v ∈ us, (∃ x, v = .str x) ∨ v = .none ∨ ∃ i, v = .int i := by
  induction h with
  | nil => intro v hv; cases hv
  | @snoc ks us k u _ a ih =>
    intro v hv
    rcases List.mem_append.mp hv with m | m
    · exact ih v m
    · rw [List.mem_singleton] at m; subst m
      cases k with
      | good w => exact .inl ⟨w, a⟩
      | lone => exact .inr a
      | badT => exact a.elim
      | badV => exact a.elim
theorem AttL.words {ks : List Kd} {us : List V} (h : AttL ks us) : ks.any isLone = false → us = (ks.map wordK).map V.str := by
  induction h with
  | nil => intro _; rfl
  | @snoc ks us k u _ a ih =>
    intro hl
    rw [List.any_append, Bool.or_eq_false_iff] at hl
    rw [ih hl.1]
    cases k with
    | good w => have : u = .str w := a; subst this; simp [wordK]
    | lone => have := hl.2; cases this
    | badT => exact a.elim
    | badV => exact a.elim
theorem AttL.bad {ks : List Kd} {us : List V} (h : AttL ks us) : ks.any isLone = true → ∃ v ∈ us, v = .none ∨ ∃ i, v = .int i := by
  induction h with
  | nil => intro hl; cases hl
  | @snoc ks us k u _ a ih =>
    intro hl
    rw [List.any_append, Bool.or_eq_true] at hl
    rcases hl with hl | hl
    · obtain ⟨v, hv, q⟩ := ih hl; exact ⟨v, List.mem_append_left _ hv, q⟩
    · cases k with
      | good w => cases hl
      | lone => exact ⟨u, by simp, a⟩
      | badT => cases hl
      | badV => cases hl
theorem errL_imm {dn rs : List Kd} {k : Kd} {c : String} (h : dn.findSome? imm = none) (hk : imm k = some c) : errL (dn ++ k :: rs) = some c := by
  unfold errL
  rw [List.findSome?_append, h, List.findSome?_cons, hk]; rfl
theorem errLs_at {done rest : List (List Kd)} {k : List Kd} {c : String} (h : errLs done = none) (hk : errL k = some c) : errLs (done ++ k :: rest) = some c := by
  unfold errLs at h ⊢
  rw [List.findSome?_append, h, List.findSome?_cons, hk]; rfl
theorem errLs_snoc {done : List (List Kd)} {k : List Kd} (h : errLs done = none) (hk : errL k = none) : errLs (done ++ [k]) = none := by
  unfold errLs at h ⊢
  rw [List.findSome?_append, h, List.findSome?_cons, hk]; rfl
theorem errL_lone {ks : List Kd} (h : ks.findSome? imm = none) (hl : ks.any isLone = true) : errL ks = some "TypeError" := by unfold errL; rw [h, hl]; rfl
theorem errL_none {ks : List Kd} (h : ks.findSome? imm = none) (hl : ks.any isLone = false) : errL ks = none := by unfold errL; rw [h, hl]; rfl
noncomputable abbrev kds (ps : List (V × Kd)) : List Kd := ps.map (·.2)
noncomputable abbrev itsV (ps : List (V × Kd)) : V := .fl (ps.map (·.1))
noncomputable abbrev lls (ls : List (List (V × Kd))) : V := .fl (ls.map itsV)
theorem headsK_snoc (ls : List (List Kd)) (ks : List Kd) : headsK (ls ++ [ks]) = if ks.isEmpty then headsK ls else headsK ls ++ [headK ks] := by
  unfold headsK
  rw [List.filter_append]
  cases ks <;> simp
theorem wk_len {x : V} {k : Kd} (h : OkI x k) : (wordK k).length ≤ 1000 := by
  cases h with
  | one _ w _ _ hw => exact hw
  | two _ _ ks y _ _ _ h1 h2 =>
    have hv := valS_length y (by show y.length ≤ 400000; exact Nat.le_trans (by assumption) (by decide))
    show (Str.empty ++ ks ++ Str.ofString "=" ++ valS y).length ≤ 1000
    have he : (Str.ofString "=").length = 1 := by decide +kernel
    have h0 : Str.empty.length = 0 := rfl
    have hq : (valS y).length ≤ 2 * y.length + 2 := by
      unfold valS
      split
      · first | lia | omega
      · have := escL_length y.cps.toList
        have hy : y.cps.toList.length = y.length := (str_len_list y).symm
        rw [strLen_append, strLen_append, show (Str.ofString "\"").length = 1 by decide +kernel]
        show 1 + (escL y.cps.toList).toArray.size + 1 ≤ _
        rw [List.size_toArray]; first | lia | omega
    rw [strLen_append, strLen_append, strLen_append, he, h0]; first | lia | omega
  | _ => decide
theorem headK_sum {ks : List Kd} (h : ∀ k ∈ ks, (wordK k).length ≤ 1000) : ((ks.map wordK).map fun x => x.length + (Str.ofString "; ").length).sum ≤ 1002 * ks.length := by
  induction ks with
  | nil => exact Nat.le_refl _
  | cons k ks ih =>
    have h1 := ih fun x hx => h x (.tail _ hx)
    have h2 := h k (.head _)
    rw [List.map_cons, List.map_cons, List.sum_cons, show (Str.ofString "; ").length = 2 by decide +kernel, List.length_cons]
    rw [show (Str.ofString "; ").length = 2 by decide +kernel] at h1
    first | lia | omega
theorem headK_len {ks : List Kd} (h : ∀ k ∈ ks, (wordK k).length ≤ 1000) : (headK ks).length ≤ 1002 * ks.length := Nat.le_trans (join_len_le _ _) (headK_sum h)
theorem joinK_sum {ls : List (List Kd)} (h : ∀ ks ∈ ls, ks.length ≤ 100 ∧ ∀ k ∈ ks, (wordK k).length ≤ 1000) : ((headsK ls).map fun x => x.length + (Str.ofString ", ").length).sum ≤ 100202 * ls.length := by
  induction ls with
  | nil => exact Nat.le_refl _
  | cons a ls ih =>
    have h1 := ih fun x hx => h x (.tail _ hx)
    have h2 := h a (.head _)
    have h3 := headK_len h2.2
    have e : headsK (a :: ls) = (if a.isEmpty then [] else [headK a]) ++ headsK ls := by
      unfold headsK
      cases a <;> simp
    rw [e, List.map_append, List.sum_append, List.length_cons]
    split
    · simp only [List.map_nil, List.sum_nil]; first | lia | omega
    · rw [List.map_cons, List.sum_cons, show (Str.ofString ", ").length = 2 by decide +kernel]
      rw [show (Str.ofString ", ").length = 2 by decide +kernel] at h1
      simp only [List.map_nil, List.sum_nil]; first | lia | omega
end Mine

set_option maxRecDepth 100000
set_option Elab.async false
set_option linter.unusedVariables false
namespace Mine
open PySem PyProof.Rows PySem.W

section
variable {G : Gl} {A : Around} {env : Env} {K Z : Zt} {L : Addr} {st : St} {X : String → Prop} {loc : List (Str × V)}
theorem Sim.upto {s₀ s' : Shared} (S : Sim G K Z L st s₀) (hk : ∀ b o, Tracked G K Z L st b → b ≠ L → s₀.heap.get? b = some o → s'.heap.get? b = some o) (hu : s₀.heap.UpToSlots s'.heap) (hg : s'.gens = s₀.gens) (ho : s'.os = s₀.os) : Sim G K Z L st s' where
  kk b o e := hk b o (.inl ⟨o, e⟩) (fun q => by rw [q, S.kL] at e; cases e) (S.kk b o e)
  zz b o e := hk b o (.inr (.inl ⟨o, e⟩)) (fun q => by rw [q, S.zL] at e; cases e) (S.zz b o e)
  kz := S.kz
  bz := S.bz
  ns := by obtain ⟨m, hn, hm⟩ := S.ns; exact ⟨m, hu.ns hn, hm⟩
  kL := S.kL
  zL := S.zL
  ar p hp := by
    obtain ⟨h1, h2, h3, ws, n, e, r⟩ := S.ar p hp
    exact ⟨h1, h2, h3, ws, n, hk _ _ (.inr (.inr (.inr (.inl ⟨p, hp, rfl⟩)))) h3 e, r⟩
  nd := S.nd
  tb t ht := by
    obtain ⟨h1, h2, h3, h4, ps, e, r⟩ := S.tb t ht
    exact ⟨h1, h2, h3, h4, ps, hk _ _ (.inr (.inr (.inr (.inr ⟨t, ht, rfl⟩)))) h3 e, r⟩
  gens := hg.trans S.gens
  os := ho.trans S.os
  cl := S.cl
theorem Sim.noar {ar : List (Addr × List V)} {s : Shared} (S : Sim G K Z L ⟨loc, ar⟩ s) : Sim G K Z L ⟨loc, []⟩ s := { S with
  ar := fun p hp => by cases hp
  nd := List.nodup_nil
  tb := fun t ht => by obtain ⟨a, b, c, d, e⟩ := S.tb t ht; exact ⟨a, b, c, (fun p hp => by cases hp), e⟩ }
inductive Fly (G : Gl) (K Z : Zt) (env : Env) (X : String → Prop) (loc : List (Str × V)) : Value → Shared → Prop
  | mk (Z' : Zt) (base : Heap) (e : Addr) (cls : String) (a0 : Value) (s' : Shared) (z : Zle Z Z') (S : Sim G K Z' env.locals ⟨loc, []⟩ s') (hX : X cls)
      (hx : ∀ b o, Tracked G K Z' env.locals ⟨loc, []⟩ b → b ≠ env.locals → s'.heap.get? b = some o → base.get? b = some o) (hf : Heap.FlyingW base [env] e (.type cls) a0 s'.heap) : Fly G K Z env X loc (.ref e) s'
theorem Fly.le {Z₁ : Zt} {x : Value} {s' : Shared} (h : Fly G K Z₁ env X loc x s') (hz : Zle Z Z₁) : Fly G K Z env X loc x s' := by
  obtain ⟨Z', base, e, cls, a0, _, z, S, hX, hx, hf⟩ := h
  exact ⟨Z', base, e, cls, a0, _, hz.trans z, S, hX, hx, hf⟩
theorem Thr.leave {A' : Around} {env' : Env} {oL : Obj} {x : Value} {s s₁ : Shared} {E : Value → Shared → Prop} (hfr : A'.frames = some [env', env]) (hf' : env'.frame = some env'.locals) (hk' : env'.scope.kind ≠ .module)
    (hf : env.frame = some env.locals) (hk : env.scope.kind ≠ .module) (S : Sim G K Z env.locals ⟨loc, []⟩ s₁) (hL : s₁.heap.get? env.locals = some oL) (h : Thr G (Zset K env.locals oL) Z env' [env] X false x s) :
    wpAny G.M A' (leaving env' x) (fun _ s' => Fly G K Z env X loc x s') E s := by
  obtain ⟨Z', ⟨binds, ar'⟩, s₀, e, cls, s, z, S', hX, hg, ho, h⟩ := h
  have Sc : Sim G K Z' env.locals ⟨loc, []⟩ s₀ := (S.leave hL z S').noar
  have hKF : KF (Zset K env.locals oL) [env] := ⟨fun e he => by
    rw [List.mem_singleton] at he; subst he
    obtain ⟨m, ⟨o, es, ep, g1, g2, _⟩, _⟩ := S.ns
    rw [hL] at g1; cases g1
    exact ⟨hk, _, oL, hf, Zset.self, fun vs q => by rw [g2] at q; cases q⟩⟩
  have hF := ff_here S' hf' hk' hKF
  have hb : ∀ b o, Tracked G K Z' env.locals ⟨loc, []⟩ b → b ≠ env.locals → s₀.heap.get? b = some o → (hid s₀.heap env' [env]).get? b = some o := fun b o ht hne hg => by
    refine hideAll_get _ hg fun hm => ?_
    have hm' : b = env'.locals ∨ b = env.locals := by
      obtain ⟨q, hq, hqb⟩ := List.mem_filterMap.mp hm
      rcases List.mem_cons.mp hq with rfl | hq
      · rw [hf'] at hqb; exact .inl (Option.some.inj hqb).symm
      · rw [List.mem_singleton] at hq; subst hq
        rw [hf] at hqb; exact .inr (Option.some.inj hqb).symm
    rcases hm' with rfl | h
    · rcases ht with ⟨o, h⟩ | ⟨o, h⟩ | h | ⟨p, hp, _⟩ | ⟨t, ht, h⟩
      · have := S'.kL
        rw [Zset.ne hne, h] at this; cases this
      · have := S'.zL
        rw [h] at this; cases this
      · exact hne h
      · cases hp
      · exact (S'.tb t ht).2.2.1 h
    · exact hne h
  have fin : ∀ (h' : Heap) (s : Shared) (a0 : Value), s.gens = s₀.gens → s.os = s₀.os → (hid s₀.heap env' [env]).StaysIn h' → (hid s₀.heap env' [env]).get? e = none → h'.FunFrames (hid s₀.heap env' [env]) [env] → h'.TracedW (hid s₀.heap env' [env]) e (.type cls) a0 → s₀.heap.UpToSlots h' →
      Fly G K Z env X loc (.ref e) { s with heap := h' } := fun h' s a0 hg ho k1 k0 k2 k3 k4 => by
    refine ⟨Z', hid s₀.heap env' [env], e, cls, a0, _, z, Sc.upto (fun b o ht hne q => k1 b o (hb b o ht hne q)) k4 hg ho, hX, fun b o ht hne q => ?_, ⟨k1, k0, k2, k3⟩⟩
    obtain ⟨o', ho'⟩ := Sc.there ht
    have h2 := hb b o' ht hne ho'
    have h3 := k1 b o' h2
    rw [q] at h3; cases h3
    exact h2
  rcases h with ⟨_, x⟩ | ⟨a0, hh, hu⟩
  · obtain ⟨ob, t, he, hc, hd⟩ := x.there
    have fresh : (hid s₀.heap env' [env]).get? e = none := by
      cases q : (hid s₀.heap env' [env]).get? e with
      | none => rfl
      | some o => have := of_hideAll _ q; rw [x.new] at this; cases this
    refine wpAny_leaving_firstW (base := hid s₀.heap env' [env]) (a0 := t) hfr (hF.of_keeps fun b o hb _ => ⟨o, x.keeps b o hb, rfl⟩) hf' he (fun b o hb => x.keeps b o (of_hideAll _ hb)) fresh hd rfl rfl fun h' hN => ?_
    obtain ⟨k1, ⟨_, _, k2⟩, k3, k4⟩ := hN
    rw [hc] at k3
    exact fin h' s t hg ho k1 fresh k2 k3 ((NewExc.same x).trans k4)
  · unfold leaving
    refine wpAny_bind (wpAny_noteFrame_againW hf' hh.2.2.2 ?_)
    refine wpAny_landsW hh fun h' hfl hu2 => ?_
    obtain ⟨k1, k0, ⟨_, _, k2⟩, k3⟩ := hfl
    exact fin h' s a0 hg ho k1 k0 k2 k3 (hu.trans hu2)
structure CallsX (G : Gl) (A : Around) (env : Env) (X : String → Prop) (f : Addr) (vs : List V) (Q : V → Prop) : Prop where
  run : ∀ K Z ws s loc, Sim G K Z env.locals ⟨loc, []⟩ s → VRs Z vs ws → wpAny G.M A (call (.ref f) ws) (Post G K Z env.locals VR fun v st' => st' = ⟨loc, []⟩ ∧ Q v) (Fly G K Z env X loc) s
theorem fn_callX {f : Addr} {name : Str} {ps : List Str} {body : List Stmt} {scope : Scope} {cd : Value} {vs : List V} {Q : V → Prop} (H : Here A env [])
    (O : GlOk G) (Fu : Fn G f name ps body scope cd) (hroom : A.depth < recursionLimit) (hl : vs.length = ps.length)
    (h : ∀ L', Here (A.deeper (envOf name scope L' f cd)) (envOf name scope L' f cd) [env] → ExsX G (A.deeper (envOf name scope L' f cd)) (envOf name scope L' f cd) [env] X body ⟨(ps.zip vs).reverse, []⟩ fun fl st' => Q (retOf fl)) : CallsX G A env X f vs Q :=
  ⟨fun K Z ws s loc S r => by
    obtain ⟨o, params, pm, doc, ho, hd, hb⟩ := Fu.obj
    obtain ⟨m, ⟨oL, es, ep, hL, hns⟩, hm⟩ := id S.ns
    have hH : ∀ L', Here (A.deeper (envOf name scope L' f cd)) (envOf name scope L' f cd) [env] := fun L' => ⟨Around.frames_deeper H.fr, rfl, by rw [show (envOf name scope L' f cd).scope.kind = scope.kind from rfl, Fu.kind]; decide⟩
    refine wpAny_call (call_plain hroom (S.base _ _ ho) hd (O.nolimit.keeps S.base) (Fu.code.keeps S.base) (hb ws (by rw [r.length, hl])) (fun x hx => Fu.loc _ (List.of_mem_zip (a := x.1) (b := x.2) hx).1) (fun h₁ F => ?_) Fu.co Fu.gen Fu.kind Fu.cell)
    have S₁ := S.enter (tk := s.toks + (ps.zip ws).length) hL F.keep (Heap.get?_none_of_le (Nat.le_refl _)) F.ns (lookup_zip_rev (ps := ps) r)
    have hKF : KF (Zset K env.locals oL) [env] := ⟨fun e he => by
      rw [List.mem_singleton] at he; subst he
      exact ⟨H.kind, _, oL, H.loc, Zset.self, fun vs q => by rw [hns.1] at q; cases q⟩⟩
    refine wpAny_mono ((h s.heap.objs.size (hH _)).run _ Z _ hKF S₁) (fun fl s' hq0 => ?_) fun e s' hx => ?_
    · obtain ⟨Z', fv, st', z, S', rf, q⟩ := hq0
      have S'' := (S.leave hL z S').noar
      cases fv with
      | next => cases rf; exact ⟨Z', .none, _, z, S'', vr_none, rfl, q⟩
      | brk => cases rf; exact ⟨Z', .none, _, z, S'', vr_none, rfl, q⟩
      | cont => cases rf; exact ⟨Z', .none, _, z, S'', vr_none, rfl, q⟩
      | ret v => obtain ⟨w, rfl, rv⟩ := rf; exact ⟨Z', v, _, z, S'', rv, rfl, q⟩
    · have hh := hH s.heap.objs.size
      exact hx.leave hh.fr hh.loc hh.kind H.loc H.kind S hL⟩
structure EvY (G : Gl) (A : Around) (env : Env) (X : String → Prop) (loc : List (Str × V)) (e : Expr) (Q : V → Prop) : Prop where
  run : ∀ K Z s, Sim G K Z env.locals ⟨loc, []⟩ s → wpAny G.M A (eval e env) (Post G K Z env.locals VR fun v st' => st' = ⟨loc, []⟩ ∧ Q v) (Fly G K Z env X loc) s
theorem evY_call {x : Str} {pos p : Pos} {es : List Expr} {e : Expr} {f : Addr} {Q : V → Prop} (hn : ∃ o fd, G.base.get? f = some o ∧ o.data = .func fd) (hp : (backTo pos (starEach (e :: es) env)).any (·.1) = false) (hs : starEach (e :: es) env = (false, eval e env) :: starEach es env)
    (h : Ev G A env (.Name x p) ⟨loc, []⟩ fun v st₁ => v = .raw (.ref f) ∧ st₁ = ⟨loc, []⟩) (h2 : Evs G A env (e :: es) ⟨loc, []⟩ fun vs st₂ => st₂ = ⟨loc, []⟩ ∧ CallsX G A env X f vs Q) : EvY G A env X loc (.Call (.Name x p) (e :: es) [] pos) Q :=
  ⟨fun K Z s S => by
    show wpAny _ _ (eval (.Name x p) env >>= fun fv => callWith pos fv [] (backTo pos (starEach (e :: es) env)) []) _ _ s
    refine wpAny_bind (wpAny_mono (h.run K Z s S) (fun w s₁ hq => ?_) fun _ _ x => x.elim)
    obtain ⟨Z₁, v, st₁, z₁, S₁, r₁, rfl, rfl⟩ := hq
    rw [of_raw r₁]
    obtain ⟨o, fd, ho, hd⟩ := hn
    have h3 := (h2.run pos) K Z₁ s₁ S₁
    rw [hs] at h3 ⊢
    refine PySem.Calls.callWith_function (o := o) (fd := fd) ?_
    refine PySem.Calls.evalArgs_plain (wpAny_mono h3 (fun ws s₂ hq => ?_) fun _ _ x => x.elim)
    obtain ⟨Z₂, vs, st₂, z₂, S₂, r₂, rfl, hc⟩ := hq
    refine ⟨⟨S₂.base _ _ ho, hd⟩, ?_⟩
    exact wpAny_mono (hc.run K Z₂ ws s₂ loc S₂ r₂) (fun _ _ p => p.le (z₁.trans z₂)) fun _ _ x => x.le (z₁.trans z₂)⟩
end
end Mine

set_option maxRecDepth 100000
set_option Elab.async false
set_option linter.unusedVariables false
namespace Mine
open PySem PyProof.Rows PySem.W

theorem sub_VV : isSubtype (.type "ValueError") (.type "ValueError") = pure true := by rw [isSubtype_type]; kernel_rfl
theorem sub_TV : isSubtype (.type "TypeError") (.type "ValueError") = pure false := by rw [isSubtype_type]; kernel_rfl
theorem sub_TT : isSubtype (.type "TypeError") (.type "TypeError") = pure true := by rw [isSubtype_type]; kernel_rfl
theorem exc_V : isSubtype (.type "ValueError") (.type "BaseException") = pure true := by rw [isSubtype_type]; kernel_rfl
theorem exc_T : isSubtype (.type "TypeError") (.type "BaseException") = pure true := by rw [isSubtype_type]; kernel_rfl
theorem nt_V : isSubtype (.type ((Manifest.find? "ValueError").elim "type" fun x => x.metatype)) (.type "tuple") = pure false := by rw [isSubtype_type]; kernel_rfl
theorem nt_T : isSubtype (.type ((Manifest.find? "TypeError").elim "type" fun x => x.metatype)) (.type "tuple") = pure false := by rw [isSubtype_type]; kernel_rfl
section
variable {G : Gl} {A : Around} {env : Env} {X : String → Prop} {loc : List (Str × V)}
theorem ex_try2 {y : Str} {p1 p2 q1 q2 q3 q4 pos : Pos} {e : Expr} {b1 b2 : Stmt} {s1 s2 : List Stmt} {Qv : V → Prop} {Q : Fl → St → Prop} (H : Here A env []) (O : GlOk G) (hk : env.scope.kind = .function) (hg : env.globals = mainGlobals) (hb : env.builtins = builtinsNs)
    (hlV : env.kindOf "ValueError" = some .globalImplicit) (hlT : env.kindOf "TypeError" = some .globalImplicit)
    (hV : G.mg "ValueError" = none ∧ G.mb "ValueError" = some (.type "ValueError")) (hT : G.mg "TypeError" = none ∧ G.mb "TypeError" = some (.type "TypeError"))
    (hy : env.kindOf y = some .local) (hsw : swapsWith e (some (.Name y p1)) p2.line env = pure false) (hX : ∀ c, X c → c = "ValueError" ∨ c = "TypeError") (he : EvY G A env X loc e Qv)
    (hq : ∀ v, Qv v → Q .next (St.set ⟨loc, []⟩ y v)) (h1 : X "ValueError" → ∀ m, Exs G (A.mark m) env (b1 :: s1) ⟨loc, []⟩ Q) (h2 : X "TypeError" → ∀ m, Exs G (A.mark m) env (b2 :: s2) ⟨loc, []⟩ Q) :
    Ex G A env (.Try [.Assign [.Name y p1] e p2] [.ExceptHandler (some (.Name "ValueError" q1)) none (b1 :: s1) q2, .ExceptHandler (some (.Name "TypeError" q3)) none (b2 :: s2) q4] [] [] pos) ⟨loc, []⟩ Q := ⟨fun K Z s S => by
  refine wpAny_Try_except ?_
  refine wpAny_execs_cons (wpAny_Assign_Name (wpAny_mono (he.run K Z s S) (fun w s₁ hq' => ?_) fun x s₁ hx => ?_) hsw)
  · obtain ⟨Z₁, v, _, z, S₁, r, rfl, qv⟩ := hq'
    refine wpAny_mono (E := Nope) (S₁.store r hk hy (P := fun _ s' => Sim G K Z₁ env.locals (St.set ⟨loc, []⟩ y v) s') fun s' S' => S') (fun _ s' S' => ?_) fun _ _ x => x.elim
    refine wpAny_execs_nil (wpAny_execs_nil ?_)
    exact ⟨Z₁, .next, _, z, S', rfl, hq v qv⟩
  · obtain ⟨Z', base, e', cls, a0, s₁, z, S', hX', hx, hf⟩ := hx
    refine wpAny_looks_onW H.fr H.loc hf fun h₄ hheld hsm => ?_
    refine wpAny_landsW hheld fun h₅ hfl hsm₅ => ?_
    have S₅ : Sim G K Z' env.locals ⟨loc, []⟩ { s₁ with heap := h₅ } := S'.upto (fun b o ht hne q => hfl.1 b o (hx b o ht hne q)) (hsm.trans hsm₅) rfl rfl
    have hx₅ : ∀ b o, Tracked G K Z' env.locals ⟨loc, []⟩ b → b ≠ env.locals → h₅.get? b = some o → base.get? b = some o := fun b o ht hne q => by
      obtain ⟨o', ho'⟩ := S'.there ht
      have h3 := hx b o' ht hne ho'
      have h4 := hfl.1 b o' h3
      rw [q] at h4; cases h4; exact h3
    have htype : ({ s₁ with heap := h₅ } : Shared).TypeIs (.ref e') cls := by
      obtain ⟨ob, h3, h4⟩ := hfl.there
      exact ⟨ob, h3, h4⟩
    -- what the clause does
    have suite : ∀ {b₀ : Stmt} {ss : List Stmt} {E' : Value → Shared → Prop}, Exs G (A.mark (some (.ref e'))) env (b₀ :: ss) ⟨loc, []⟩ Q →
        wpAny G.M (A.mark (some (.ref e'))) (setFlight (.ref e') none) (fun _ s₂ => wpAny G.M (A.mark (some (.ref e'))) (execs (b₀ :: ss) env) (Post G K Z env.locals FR Q) E' s₂) E' { s₁ with heap := h₅ } := fun {b₀ ss E'} h => by
      refine lands_againW hfl fun h₆ hfl₆ hsm₆ => ?_
      have S₆ : Sim G K Z' env.locals ⟨loc, []⟩ { s₁ with heap := h₆ } := S₅.upto (fun b o ht hne q => hfl₆.1 b o (hx₅ b o ht hne q)) hsm₆ rfl rfl
      exact wpAny_mono (h.run K Z' _ S₆) (fun _ _ p => p.le z) fun _ _ x => x.elim
    rcases hX cls hX' with rfl | rfl
    · refine wpAny_handleBy_builtin (X := "ValueError") (T := "ValueError") (b := true) exc_V nt_V sub_VV ?_
      refine Calls.Name_function_global hk hlV (Calls.loadGlobal_builtin (by rw [hg]; exact O.g.keeps S₅.base) hV.1 (by rw [hb]; exact O.b.keeps S₅.base) hV.2 ⟨rfl, htype, ?_⟩) (by decide)
      exact suite (h1 hX' _)
    · refine wpAny_handleBy_builtin (X := "TypeError") (T := "ValueError") (b := false) exc_V nt_V sub_TV ?_
      refine Calls.Name_function_global hk hlV (Calls.loadGlobal_builtin (by rw [hg]; exact O.g.keeps S₅.base) hV.1 (by rw [hb]; exact O.b.keeps S₅.base) hV.2 ⟨rfl, htype, ?_⟩) (by decide)
      refine wpAny_handleBy_builtin (X := "TypeError") (T := "TypeError") (b := true) exc_T nt_T sub_TT ?_
      refine Calls.Name_function_global hk hlT (Calls.loadGlobal_builtin (by rw [hg]; exact O.g.keeps S₅.base) hT.1 (by rw [hb]; exact O.b.keeps S₅.base) hT.2 ⟨rfl, htype, ?_⟩) (by decide)
      exact suite (h2 hX' _)⟩
end
end Mine

set_option maxRecDepth 100000
set_option Elab.async false
set_option linter.unusedVariables false
namespace Mine
open PySem PyProof.Rows

theorem EntV.frz {G : Gl} {L : Addr} {v : V} {loc : List (Str × V)} {ar : List (Addr × List V)} {a : Addr} {xs : List V} : EntV G L v ⟨loc, (a, xs) :: ar⟩ (v.fz a xs) ⟨loc, ar⟩ := fun K Z w s S r => by
  obtain ⟨h1, h2, h3, ws, n, h4, h5⟩ := S.ar _ (.head _)
  have hnd := S.nd
  simp only [List.map_cons, List.nodup_cons] at hnd
  have hf : ((a, xs) :: ar).filter (fun p => p.1 ≠ a) = ar := by
    rw [List.filter_cons_of_neg (by simp), List.filter_eq_self]
    intro p hp
    simp only [ne_eq, decide_eq_true_eq]
    exact fun q => hnd.1 (by rw [← q]; exact List.mem_map_of_mem hp)
  have S₁ : Sim G K Z L ⟨loc, ar⟩ s := { S with
    ar := fun p hp => S.ar p (.tail _ hp)
    nd := hnd.2
    tb := fun t ht => by obtain ⟨a, b, c, d, e⟩ := S.tb t ht; exact ⟨a, b, c, fun p hp => d p (.tail _ hp), e⟩ }
  have hnt := not_tracked_of_drop S (.head _)
  have hnt' : ¬ Tracked G K Z L ⟨loc, ar⟩ a := by
    have := hnt
    simp only [hf] at this
    exact this
  obtain ⟨hle, S₂⟩ := S₁.addZ hnt' h4
  exact ⟨_, hle, S₂, VR.fz ⟨_, Zset.self, rfl, n, rfl⟩ (VRs.mono hle _ _ h5) v w (VR.mono hle v w r)⟩
end Mine

set_option maxRecDepth 100000
set_option Elab.async false
set_option linter.unusedVariables false
namespace Mine
open PySem PyProof.Rows PySem.Builtin.Re PySem.W

noncomputable def fnBody (p : Program) (i : Nat) : List Stmt := match p.main.body[i]? with
  | some (.FunctionDef _ _ b _ _ _ _ _ _ _) => b
  | _ => []
noncomputable def fnScope (p : Program) (i : Nat) : Scope := match p.main.body[i]? with
  | some (.FunctionDef _ _ _ _ _ _ sc _ _ _) => sc
  | _ => default
noncomputable abbrev PW := PySem.Challenge.pw_dm0155_03
noncomputable abbrev jenv (L f : Addr) (cd : Value) : Env := envOf (Str.ofString "join_header_words") (fnScope PW 4) L f cd

noncomputable abbrev LP : Pos := ⟨12, 50, 12, 87⟩
structure JG (G : Gl) (tokP escP : Addr) (cj tP : Addr) : Prop where
  ok : GlOk G
  tok : Pat G tokP tokCode 0
  esc : Pat G escP escCode 1
  gtok : G.mg (Str.ofString "HEADER_JOIN_TOKEN_RE") = some (.ref tokP)
  gesc : G.mg (Str.ofString "HEADER_JOIN_ESCAPE_RE") = some (.ref escP)
  cdh : CodeHd G.base cj tP
  tab : (⟨tP, LP, Str.ofString "join_header_words" ++ Str.ofString ".<locals>." ++ Str.ofString "<lambda>"⟩ : Tab) ∈ G.tabs

inductive Nrm : V → V → Kd → Prop
  | alone (k : V) (kd : Kd) (h : AttR kd k) : Nrm k .none kd
  | pair (k : V) (ks y : Str) (hk : Fm k ks) (h1 : ks.length ≤ 100) (h2 : y.length ≤ 100) : Nrm k (.str y) (.good (Str.empty ++ ks ++ Str.ofString "=" ++ valS y))
inductive Cs : V → Kd → Prop
  | nrm (x k v : V) (kd : Kd) (h : iterItems x = some [k, v]) (hr : ∀ a b c, x ≠ .rng a b c) (n : Nrm k v kd) : Cs x kd
  | num (i : Int) : Cs (.int i) .badT
  | vint (x k : V) (i : Int) (h : iterItems x = some [k, .int i]) (hr : ∀ a b c, x ≠ .rng a b c) : Cs x .badT
  | vbytes (x k : V) (b : Array UInt8) (h : iterItems x = some [k, .bytes b]) (hr : ∀ a b c, x ≠ .rng a b c) : Cs x .badT
  | few (x : V) (xs : List V) (h : iterItems x = some xs) (hr : ∀ a b c, x ≠ .rng a b c) (hl : xs.length ≤ 1) : Cs x .badV
  | many (x a b c : V) (r : List V) (h : iterItems x = some (a :: b :: c :: r)) (hr : ∀ a b c, x ≠ .rng a b c) : Cs x .badV
theorem OkI.cs {x : V} {kd : Kd} (h : OkI x kd) : Cs x kd := by
  cases h with
  | one w h hr _ => exact .nrm x _ _ _ ‹_› ‹_› (.alone _ _ rfl)
  | two k ks y h hr hk h1 h2 => exact .nrm x _ _ _ ‹_› ‹_› (.pair _ _ _ ‹_› ‹_› ‹_›)
  | loneI i h hr => exact .nrm x _ _ _ ‹_› ‹_› (.alone _ _ (.inr ⟨_, rfl⟩))
  | loneN h hr => exact .nrm x _ _ _ ‹_› ‹_› (.alone _ _ (.inl rfl))
  | num i => exact .num _
  | vint k i h hr => exact .vint _ _ _ ‹_› ‹_›
  | vbytes k b h hr => exact .vbytes _ _ _ ‹_› ‹_›
  | few xs h hr hl => exact .few _ _ ‹_› ‹_› ‹_›
  | many a b c r h hr => exact .many _ _ _ _ _ ‹_› ‹_›
section
variable {G : Gl} {A : Around} {L f : Addr} {cj tP : Addr} {tokP escP : Addr} {outer : List Env}

theorem join_bodyX (J : JG G tokP escP cj tP) (R : Room A 3) (HH : Here A (jenv L f (.ref cj)) outer) (ls : List (List (V × Kd))) (hls : ls.length ≤ 100) (ok : ∀ ps ∈ ls, ps.length ≤ 100 ∧ ∀ p ∈ ps, OkI p.1 p.2) :
    ExsX G A (jenv L f (.ref cj)) outer (fun c => errLs (ls.map kds) = some c) (fnBody PW 4) ⟨[((Str.ofString "lists"), lls ls)], []⟩ fun fl st' => errLs (ls.map kds) = none ∧ fl = .ret (.str (joinK (ls.map kds))) := by
  refine exsX_cons (.of ?_)
  refine ex_assign rfl rfl rfl ?_
  refine ev_list ?_
  refine evs_nil ?_
  refine ⟨by decide, fun H hH => ?_⟩
  refine exsX_cons ?_
  refine exX_for HH R.hd (fun _ => rfl) ?_
  refine ev_local rfl rfl rfl rfl ?_
  refine ⟨lls ls, _, _, EntV.refl, rfl, ?_⟩
  refine forX_inv HH itsV (fun done st => errLs (done.map kds) = none ∧ st = ⟨[((Str.ofString "lists"), lls ls), ((Str.ofString "headers"), .list H)], [(H, (headsK (done.map kds)).map V.str)]⟩) ls ⟨rfl, rfl⟩ ?_ ?_
  · rintro done ps rest st e ⟨hdone, rfl⟩
    have hps : ps ∈ ls := by rw [e]; exact List.mem_append_right _ (.head _)
    obtain ⟨hpl, hpk⟩ := ok ps hps
    have hthr : ∀ c, errL (kds ps) = some c → errLs (ls.map kds) = some c := fun c hc => by
      rw [e, List.map_append, List.map_cons]; exact errLs_at hdone hc
    refine .of (asg_name rfl rfl ?_)
    refine exsX_cons (.of ?_)
    refine ex_assign rfl rfl rfl ?_
    refine ev_list ?_
    refine evs_nil ?_
    refine ⟨by decide, fun B hB => ?_⟩
    refine exsX_cons ?_
    refine exX_for HH R.hd (fun _ => rfl) ?_
    refine ev_local rfl rfl rfl rfl ?_
    refine ⟨itsV ps, _, _, EntV.refl, rfl, ?_⟩
    refine forX_inv HH (·.1) (fun dn st => ∃ us, AttL (kds dn) us ∧ st = ⟨[((Str.ofString "lists"), lls ls), ((Str.ofString "headers"), .list H), ((Str.ofString "pairs"), itsV ps), ((Str.ofString "attr"), .list B)], [(B, us), (H, (headsK (done.map kds)).map V.str)]⟩) ps ⟨[], .nil, rfl⟩ ?_ ?_
    · rintro dn ⟨x, kd⟩ rs st e' ⟨us, hus, rfl⟩
      have hx : (x, kd) ∈ ps := by rw [e']; exact List.mem_append_right _ (.head _)
      have hdn : us.length ≤ 100 := by
        rw [hus.len, kds, List.length_map]
        rw [e', List.length_append] at hpl
        exact Nat.le_trans (Nat.le_add_right _ _) hpl
      have hraise : ∀ c, imm kd = some c → errLs (ls.map kds) = some c := fun c hc => hthr c (by
        rw [e', kds, List.map_append, List.map_cons]; exact errL_imm hus.noimm hc)
      cases (hpk _ hx).cs with
      | num i => exact asgX_int R.hd (hraise _ rfl)
      | few _ xs h hr hl => exact asgX_few R.hd h hr rfl rfl hl (hraise _ rfl)
      | many _ a b c r h hr => exact asgX_many R.hd h hr rfl rfl (hraise _ rfl)
      | vint _ k i h hr =>
        refine .of (asg_tuple R.hd h hr rfl rfl ?_)
        refine asgs_cons rfl (asg_name rfl rfl ?_)
        refine asgs_cons rfl (asg_name rfl rfl ?_)
        refine asgs_nil ?_
        refine exsX_cons (exX_if (.of ?_))
        refine tst_cmp rfl ?_
        refine ev_local rfl rfl rfl rfl ?_
        refine ev_none ?_
        refine op_isNot_none nn_int ⟨_, rfl, ?_⟩
        refine ite_pos (by decide) ?_
        refine exsX_cons (exX_if (tstX_not (tstX_plain (fun _ => rfl) ?_)))
        refine evX_meth rfl rfl rfl rfl rfl ?_
        refine ev_global J.ok rfl rfl rfl rfl J.gtok ?_
        refine ⟨_, _, ⟨pa_pat, slot_pat_fullmatch, type_pat_fullmatch⟩, ty_pat J.tok, ?_⟩
        refine evsX_cons rfl (.of ?_)
        refine ev_local rfl rfl rfl rfl ?_
        refine evsX_nil ?_
        exact cbX_full_int R.hd J.tok (hraise _ rfl)
      | vbytes _ k b h hr =>
        refine .of (asg_tuple R.hd h hr rfl rfl ?_)
        refine asgs_cons rfl (asg_name rfl rfl ?_)
        refine asgs_cons rfl (asg_name rfl rfl ?_)
        refine asgs_nil ?_
        refine exsX_cons (exX_if (.of ?_))
        refine tst_cmp rfl ?_
        refine ev_local rfl rfl rfl rfl ?_
        refine ev_none ?_
        refine op_isNot_none nn_bytes ⟨_, rfl, ?_⟩
        refine ite_pos (by decide) ?_
        refine exsX_cons (exX_if (tstX_not (tstX_plain (fun _ => rfl) ?_)))
        refine evX_meth rfl rfl rfl rfl rfl ?_
        refine ev_global J.ok rfl rfl rfl rfl J.gtok ?_
        refine ⟨_, _, ⟨pa_pat, slot_pat_fullmatch, type_pat_fullmatch⟩, ty_pat J.tok, ?_⟩
        refine evsX_cons rfl (.of ?_)
        refine ev_local rfl rfl rfl rfl ?_
        refine evsX_nil ?_
        exact cbX_full_bytes R.hd J.tok (hraise _ rfl)
      | nrm _ k v _ h hr n =>
        refine .of (asg_tuple R.hd h hr rfl rfl ?_)
        refine asgs_cons rfl (asg_name rfl rfl ?_)
        refine asgs_cons rfl (asg_name rfl rfl ?_)
        refine asgs_nil ?_
        refine .of ?_
        refine exs_abs fun M hM => ?_
        refine exs_mid (fun st₁ => ∃ u wv, AttR kd u ∧ st₁ = ⟨[((Str.ofString "lists"), lls ls), ((Str.ofString "headers"), .list H), ((Str.ofString "pairs"), itsV ps), ((Str.ofString "attr"), .list B), ((Str.ofString "k"), u), ((Str.ofString "v"), wv)], [(B, us), (H, (headsK (done.map kds)).map V.str)]⟩) ?_ ?_
        · refine ex_abs fun T hT => ?_
          refine ex_if ?_
          refine tst_cmp rfl ?_
          refine ev_local rfl rfl rfl rfl ?_
          refine ev_none ?_
          cases n with
          | alone _ h =>
            refine op_isNot_none nn_none ⟨_, rfl, ?_⟩
            refine ite_neg (by decide) ?_
            exact exs_nil (hT _ _ ⟨rfl, _, _, h, rfl⟩)
          | pair ks y hk h1 h2 =>
            refine op_isNot_none nn_str ⟨_, rfl, ?_⟩
            refine ite_pos (by decide) ?_
            have hx2 : y.cps.size ≤ 100 := h2
            refine exs_mid (fun st₁ => st₁ = ⟨[((Str.ofString "lists"), lls ls), ((Str.ofString "headers"), .list H), ((Str.ofString "pairs"), itsV ps), ((Str.ofString "attr"), .list B), ((Str.ofString "k"), k), ((Str.ofString "v"), .str (valS y))], [(B, us), (H, (headsK (done.map kds)).map V.str)]⟩) ?_ ?_
            · refine ex_abs fun U hU => ?_
              refine ex_if ?_
              refine tst_not ?_
              refine tst_plain (fun _ => rfl) ?_
              refine ev_meth rfl rfl rfl rfl rfl ?_
              refine ev_global J.ok rfl rfl rfl rfl J.gtok ?_
              refine ⟨_, _, ⟨pa_pat, slot_pat_fullmatch, type_pat_fullmatch⟩, ty_pat J.tok, ?_⟩
              refine evs_cons rfl ?_
              refine ev_local rfl rfl rfl rfl ?_
              refine evs_nil ?_
              refine cb_fullmatch J.tok (Nat.le_trans h2 (by decide)) ?_
              cases hb : tokB y.cps with
              | true =>
                simp only [if_true]
                intro sp
                refine tru_mat ?_
                refine ite_neg (by decide) ?_
                exact exs_nil (hU _ _ ⟨rfl, by simp [valS, hb]; rfl⟩)
              | false =>
                simp only [Bool.false_eq_true, if_false]
                refine tru_none ?_
                refine ite_pos (by decide) ?_
                refine exs_cons ?_
                refine ex_assign rfl rfl rfl ?_
                refine ev_sub (code := escCode) (g := fun g => 92 :: g) (mn := (Str.ofString "_m")) J.ok (by have := R.dp; show A.depth < _; exact Nat.lt_of_le_of_lt (Nat.le_add_right _ _) (by assumption)) rfl rfl rfl ⟨⟨cj, _, rfl, J.cdh, J.tab, rfl, rfl, rfl⟩, rfl, rfl, rfl, (fun _ _ _ _ _ => rfl), rfl, rfl, rfl, rfl, by decide⟩ ?_
                refine ev_global J.ok rfl rfl rfl rfl J.gesc ?_
                refine ⟨escP, rfl, J.esc, ?_⟩
                refine ev_local rfl rfl rfl rfl ?_
                have hy5 : (escL y.cps.toList).length ≤ 200 := by
                  have := escL_length y.cps.toList
                  have h5 : y.cps.toList.length ≤ 100 := by rw [Array.length_toList]; exact hx2
                  exact Nat.le_trans this (Nat.mul_le_mul_left 2 h5)
                refine ⟨y, rfl, Nat.le_trans h2 (by decide), ?_, escL y.cps.toList, esc_subR _ [] _ (Nat.le_refl _) rfl, ?_, ?_⟩
                · intro L' f' c' st' a b c d hcd hd
                  have hxs : (y.cps.extract c d).size ≤ 100 := by
                    rw [Array.size_extract]
                    exact Nat.le_trans (Nat.sub_le _ _) (Nat.le_trans (Nat.min_le_right _ _) hx2)
                  refine ev_bin ?_
                  refine ev_str ?_
                  refine ev_or ?_
                  refine ev_meth rfl rfl rfl rfl rfl ?_
                  refine ev_local rfl rfl rfl rfl ?_
                  refine ⟨_, _, mf_group, ty_mat, ?_⟩
                  refine evs_cons rfl ?_
                  refine ev_int ?_
                  refine evs_nil ?_
                  refine cb_group (by first | exact Nat.le_trans (by assumption) (by decide) | first | lia | omega) ?_
                  refine tru_str (show (y.cps.extract c d).size ≤ _ from Nat.le_trans hxs (by decide)) ?_
                  cases hz : ((⟨y.cps.extract c d⟩ : Str).length != 0) with
                  | true =>
                    refine ite_pos rfl ?_
                    refine op_add_str ?_ ⟨rfl, ?_⟩
                    · rw [len_b]; show 1 + (y.cps.extract c d).size ≤ _; exact Nat.le_trans (Nat.add_le_add_left hxs 1) (by decide)
                    · rw [back_app]
                  | false =>
                    refine ite_neg (by decide) ?_
                    refine ev_bool_one ?_
                    refine ev_str ?_
                    have h0 : y.cps.extract c d = #[] := by
                      have : (y.cps.extract c d).size = 0 := by simpa [Str.length] using hz
                      exact Array.eq_empty_of_size_eq_zero this
                    refine op_add_str (by decide) ⟨rfl, ?_⟩
                    rw [h0]
                    exact congrArg V.str (by decide +kernel)
                · exact Nat.le_trans hy5 (by decide)
                · refine exs_cons ?_
                  refine ex_assign rfl rfl rfl ?_
                  refine ev_bin ?_
                  refine ev_str ?_
                  refine ev_local rfl rfl rfl rfl ?_
                  refine op_quote ?_ ?_
                  · show (escL y.cps.toList).toArray.size ≤ _
                    rw [List.size_toArray]; exact Nat.le_trans hy5 (by decide)
                  · refine exs_nil (hU _ _ ⟨rfl, ?_⟩)
                    simp [valS, hb]; rfl
            · rintro st rfl
              refine exs_cons ?_
              refine ex_assign rfl rfl rfl ?_
              refine ev_joined ?_
              refine jn_cons ?_
              refine ev_fmtF ?_
              refine ev_local rfl rfl rfl rfl ?_
              have hvl : (valS y).length ≤ 800002 := valS_length y (Nat.le_trans h2 (by decide))
              have l1 : (Str.empty ++ ks).length = ks.length := by rw [strLen_append]; exact Nat.zero_add _
              have l2 : (Str.empty ++ ks ++ Str.ofString "=").length = ks.length + 1 := by rw [strLen_append, l1, len_e]
              refine ⟨ks, hk, Nat.le_trans h1 (by decide), ks, rfl, by rw [l1]; exact Nat.le_trans h1 (by decide), ?_⟩
              refine jn_cons ?_
              refine ev_str ?_
              refine ⟨_, rfl, by rw [l2]; exact Nat.le_trans (Nat.succ_le_succ h1) (by decide), ?_⟩
              refine jn_cons ?_
              refine ev_fmtF ?_
              refine ev_local rfl rfl rfl rfl ?_
              have l3 : (Str.empty ++ ks ++ Str.ofString "=" ++ valS y).length ≤ 16777216 := by
                rw [strLen_append, l2]; exact Nat.le_trans (Nat.add_le_add (Nat.succ_le_succ h1) hvl) (by decide)
              refine ⟨_, .str _, Nat.le_trans hvl (by decide), _, rfl, l3, ?_⟩
              refine jn_nil l3 ?_
              exact exs_nil (hT _ _ ⟨rfl, _, _, rfl, rfl⟩)
        · rintro st ⟨u, wv, hu, rfl⟩
          refine exs_cons ?_
          refine ex_expr rfl rfl ?_
          refine ev_meth rfl rfl rfl rfl rfl ?_
          refine ev_local rfl rfl rfl rfl ?_
          refine ⟨_, _, mf_append, ty_list (.head _), ?_⟩
          refine evs_cons rfl ?_
          refine ev_local rfl rfl rfl rfl ?_
          refine evs_nil ?_
          refine cb_append (.head _) (Nat.le_trans hdn (by decide)) ?_
          refine ⟨rfl, ?_⟩
          refine exs_nil (hM _ _ ⟨_, ?_, us ++ [u], ?_, rfl⟩)
          · exact ent_set (by simp [setA]) (.cons rfl (.cons rfl (.cons rfl (.cons rfl .nil))))
          · rw [kds, List.map_append]; exact .snoc hus hu
    · rintro st ⟨us, hus, rfl⟩
      have hul : us.length ≤ 100 := by rw [hus.len, kds, List.length_map]; exact hpl
      have hHB : H ≠ B := hB (H, (headsK (done.map kds)).map V.str) (.head _)
      have hdn : (headsK (done.map kds)).length ≤ 100 := by
        rw [headsK, List.length_map]
        refine Nat.le_trans (List.length_filter_le _ _) ?_
        rw [List.length_map]
        rw [e, List.length_append] at hls
        exact Nat.le_trans (Nat.le_add_right _ _) hls
      refine exs_nil ?_
      refine exsX_cons ?_
      refine exX_if (.of ?_)
      refine tst_plain (fun _ => rfl) ?_
      refine ev_local rfl rfl rfl rfl ?_
      refine tru_list (.head _) (Nat.le_trans hul (by decide)) ?_
      have hemp : us.isEmpty = (kds ps).isEmpty := by
        have := hus.len
        cases us <;> cases hk : kds ps <;> first | rfl | (rw [hk] at this; cases this)
      rw [hemp]
      cases hpe : (kds ps).isEmpty with
      | true =>
        refine ite_neg (by decide) ?_
        refine exsX_nil ?_
        refine exsX_nil ⟨_, ?_, ?_, rfl⟩
        · rw [List.map_append, List.map_cons, List.map_nil, headsK_snoc, if_pos hpe]
          exact ent_drop (.cons rfl (.cons rfl .nil))
        · rw [List.map_append]
          exact errLs_snoc hdone (by rw [List.isEmpty_iff.mp hpe]; rfl)
      | false =>
        refine ite_pos (by decide) ?_
        cases hlo : (kds ps).any isLone with
        | true =>
          refine exsX_cons (exX_expr rfl rfl ?_)
          refine evX_meth rfl rfl rfl rfl rfl ?_
          refine ev_local rfl rfl rfl rfl ?_
          refine ⟨_, _, mf_append, ty_list (.tail _ (.head _)), ?_⟩
          refine evsX_cons rfl ?_
          refine evX_meth rfl rfl rfl rfl rfl ?_
          refine ev_str ?_
          refine ⟨_, _, mf_join, ty_str, ?_⟩
          refine evsX_cons rfl (.of ?_)
          refine ev_local rfl rfl rfl rfl ?_
          refine evsX_nil ?_
          exact cbX_join R.hd (hthr _ (errL_lone hus.noimm hlo)) (.head _) (Nat.le_trans hul (by decide)) hus.all (hus.bad hlo)
        | false =>
          have hw := hus.words hlo
          subst hw
          refine .of ?_
          refine exs_cons ?_
          refine ex_expr rfl rfl ?_
          refine ev_meth rfl rfl rfl rfl rfl ?_
          refine ev_local rfl rfl rfl rfl ?_
          refine ⟨_, _, mf_append, ty_list (.tail _ (.head _)), ?_⟩
          refine evs_cons rfl ?_
          refine ev_meth rfl rfl rfl rfl rfl ?_
          refine ev_str ?_
          refine ⟨_, _, mf_join, ty_str, ?_⟩
          refine evs_cons rfl ?_
          refine ev_local rfl rfl rfl rfl ?_
          refine evs_nil ?_
          refine cb_join (.head _) (Nat.le_trans (headK_sum fun k hk => ?_) (Nat.le_trans (Nat.mul_le_mul_left 1002 (show (kds ps).length ≤ 100 by rw [kds, List.length_map]; exact hpl)) (by decide))) ?_
          · obtain ⟨p, hp, rfl⟩ := List.mem_map.mp hk
            exact wk_len (hpk p hp)
          refine evs_nil ?_
          refine cb_append (.tail _ (.head _)) (by rw [List.length_map]; exact Nat.le_trans hdn (by decide)) ?_
          refine ⟨rfl, ?_⟩
          refine exs_nil ?_
          refine exsX_nil ⟨_, ?_, ?_, rfl⟩
          · rw [List.map_append, List.map_cons, List.map_nil, headsK_snoc, hpe, if_neg Bool.false_ne_true]
            refine Ent.trans (ent_set (by simp only [setA, if_neg (Ne.symm hHB), if_true]; simp [headK]) (fun _ _ h => h)) (ent_drop (p := (B, ((kds ps).map wordK).map V.str)) (ar := [(H, (headsK (done.map kds) ++ [headK (kds ps)]).map V.str)]) (.cons rfl (.cons rfl .nil)))
          · rw [List.map_append]
            exact errLs_snoc hdone (errL_none hus.noimm hlo)
  · rintro st ⟨hno, rfl⟩
    refine exs_nil ?_
    refine .of ?_
    refine exs_cons ?_
    refine ex_ret ?_
    refine ev_meth rfl rfl rfl rfl rfl ?_
    refine ev_str ?_
    refine ⟨_, _, mf_join, ty_str, ?_⟩
    refine evs_cons rfl ?_
    refine ev_local rfl rfl rfl rfl ?_
    refine evs_nil ?_
    refine cb_join (.head _) (Nat.le_trans (joinK_sum fun ks hk => ?_) (Nat.le_trans (Nat.mul_le_mul_left 100202 (show (ls.map kds).length ≤ 100 by rw [List.length_map]; exact hls)) (by decide))) ?_
    · obtain ⟨ps, hp, rfl⟩ := List.mem_map.mp hk
      refine ⟨by rw [kds, List.length_map]; exact (ok ps hp).1, fun k hk => ?_⟩
      obtain ⟨p, hp2, rfl⟩ := List.mem_map.mp hk
      exact wk_len ((ok ps hp).2 p hp2)
    exact ⟨hno, rfl⟩
end
end Mine

set_option maxRecDepth 100000
set_option Elab.async false
set_option linter.unusedVariables false
namespace Mine
open PySem PyProof.Rows PySem.Builtin.Re PySem.W

section
variable {prog : Program} {w : World} {A : Around} {s : Shared} {env : Env} {elt t1 i1 t2 i2 : Expr} {ifs1 ifs2 : List Expr} {scope : Scope} {pos : Pos} {it acc : Value}
end
end Mine

set_option maxRecDepth 100000
set_option Elab.async false
set_option linter.unusedVariables false
namespace Mine
open PySem PyProof.Rows PySem.Builtin.Re
open Sem (wp)

section
variable {prog : Program} {w : World} {A : Around} {E : Value → Shared → Prop} {h : Heap} {g : Array GenState} {d : Drawn} {t : Nat} {os : OsState} {a : Addr} {o : Obj} {fs : Array Value} {v : Value}

end

section
variable {G : Gl} {A : Around} {env : Env} {st : St} {pos : Pos} {L : Addr}
end
end Mine

set_option maxRecDepth 100000
set_option Elab.async false
set_option linter.unusedVariables false
namespace Mine
open PySem PyProof.Rows PySem.Builtin.Re PySem.Builtin.Str

section
variable {G : Gl} {A : Around} {L : Addr} {st : St} {Q : V → St → Prop}
end

section
variable {G : Gl} {A : Around} {env : Env} {st : St} {pos p : Pos}
end
end Mine

set_option maxRecDepth 100000
set_option Elab.async false
set_option linter.unusedVariables false
namespace Mine
open PySem PyProof.Rows PySem.Builtin.Re PySem.W PySem.Spec

section
variable {G : Gl} {A : Around} {env : Env} {st : St} {pos p : Pos} {L : Addr}
theorem fz_self {a : Addr} {xs : List V} : (V.list a).fz a xs = .fl xs := by simp [V.fz]
theorem ev_listf {es : List Expr} {Q : V → St → Prop} (h : Evs G A env es st fun vs st₁ => vs.length ≤ 16777216 ∧ Q (.fl vs) st₁) : Ev G A env (.List es pos) st Q := by
  refine Ev.entv (ev_list (h.mono fun vs st₁ hm0 => ?_))
  obtain ⟨hl, q⟩ := hm0
  refine ⟨hl, fun D hD => ⟨.fl vs, st₁, ?_, q⟩⟩
  have := EntV.frz (G := G) (L := env.locals) (v := .list D) (loc := st₁.loc) (ar := st₁.ar) (a := D) (xs := vs)
  rw [fz_self] at this; exact this
noncomputable def Ls (st : St) (v : V) (xs : List V) : Prop := v = .fl xs ∨ ∃ a, v = .list a ∧ (a, xs) ∈ st.ar
theorem Ls.fl {xs : List V} : Ls st (.fl xs) xs := .inl rfl
theorem Ls.own {a : Addr} {xs : List V} (h : (a, xs) ∈ st.ar) : Ls st (.list a) xs := .inr ⟨a, rfl, h⟩
theorem Ls.isList {K Z : Zt} {s : Shared} {v : V} {xs : List V} {w : Value} (h : Ls st v xs) (S : Sim G K Z L st s) (r : VR Z v w) : ∃ a ws, w = .ref a ∧ s.heap.IsList a ws.toArray ∧ VRs Z xs ws := by
  rcases h with rfl | ⟨a, rfl, ha⟩
  · obtain ⟨a, ws, rfl, hz, hr⟩ := of_fl r
    exact ⟨a, ws, rfl, zseq_list hz S.zz, hr⟩
  · rw [of_list r]
    obtain ⟨_, _, _, ws, n, e, hr⟩ := S.ar _ ha
    exact ⟨a, ws, rfl, ⟨_, e, rfl, n, rfl⟩, hr⟩
variable {Q : V → St → Prop} {a b : Int}
theorem ev_compf {β : Type} {elt t iter : Expr} {ifs : List Expr} {scope : Scope} {cl : List (Str × Addr)} (f : β → V) (p : β → Bool) (g : β → V) (xs : List β) (hA : A.handled = none) (hclos : closureFor scope env = pure cl) (hcell : ∀ x ∈ scope.names, x.2 ≠ .cell) (hkind : scope.kind = .function)
    (hnames : ∀ x ∈ scope.names, x.2 = .local → scope.names.lookup x.1 = some .local) (hs : ∀ x, foldedSetIterable iter env x = pure x) (hlen : xs.length ≤ 16000000)
    (h : Ev G A env iter st fun v st₁ => ∃ v' st₂, EntV G env.locals v st₁ v' st₂ ∧ iterItems v' = some (xs.map f) ∧
      (∀ C D, ∀ x ∈ xs, ∀ ys, Asg G A (compEnvC scope cl C env) t (f x) ⟨[], (D, ys) :: st₂.ar⟩ fun st₁ => Ifs G A (compEnvC scope cl C env) ifs st₁ fun b st₃ => b = p x ∧
        if b then Ev G A (compEnvC scope cl C env) elt st₃ fun v st₄ => v = g x ∧ st₄.ar = (D, ys) :: st₂.ar else st₃.ar = (D, ys) :: st₂.ar) ∧
      Q (.fl ((xs.filter p).map g)) st₂) :
    Ev G A env (.ListComp elt [⟨t, iter, ifs, 0⟩] scope pos) st Q := by
  refine Ev.entv (ev_comp hA hclos hcell hkind hnames hs (h.mono fun v st₁ hm2 => ?_))
  obtain ⟨v', st₂, he, hx, ht, q⟩ := hm2
  refine ⟨v', st₂, _, he, hx, fun C D hD => ?_⟩
  refine cp_map f p g xs hlen (ht C D) fun l => ⟨_, st₂, ?_, q⟩
  have := EntV.frz (G := G) (L := env.locals) (v := .list D) (loc := st₂.loc) (ar := st₂.ar) (a := D) (xs := (xs.filter p).map g)
  rw [fz_self] at this; exact this
end

theorem idx_ok {α : Type} {xs : List α} {j : Nat} {v : α} (hl : xs.length ≤ 1000000) (h : xs[j]? = some v) : -(2 ^ 63) ≤ (j : Int) ∧ (j : Int) < 2 ^ 63 ∧ seqIndex? (j : Int) xs.length = some j := by
  have := (List.getElem?_eq_some_iff.mp h).1
  refine ⟨by first | lia | omega, by first | lia | omega, ?_⟩
  have := seqIndex_pos (i := (j : Int)) (n := xs.length) (by first | lia | omega) (by first | lia | omega)
  rw [Int.toNat_natCast] at this; exact this
section
variable {G : Gl} {A : Around} {L : Addr} {st : St} {Q : V → St → Prop} {value slice : Expr} {xs : List V} {j : Nat} {v : V}
theorem sub_flN (hs : ∀ o i, subscripted slice false o i = operate [o, i] (getItem o i)) (hl : xs.length ≤ 1000000) (hv : xs[j]? = some v) (h : Q v st) : Sub G A L value slice (.fl xs) (.int (j : Int)) st Q :=
  let o := idx_ok hl hv; sub_fl hs o.1 o.2.1 o.2.2 hv h
end

section
variable {G : Gl} {A : Around} {L : Addr} {st : St} {Q : V → St → Prop}
theorem op_ne_nilf {xs : List V} {ds : List PyData} (hp : V.pys xs = some ds) (hl : PyData.canLayAll0 ds = true) (hu : A.units + 1 < cLine) (h : Q (.bool (!xs.isEmpty)) st) : Op2 G A L (compareOp .NotEq) (.fl xs) (.fl []) st Q := by
  refine op_ne (da := .list ds) (db := .list []) (.pure (by simp [V.py, hp])) (.pure (by simp [V.py, V.pys])) (by simpa [PyData.canLay0] using hl) (by simp [PyData.canLay0, PyData.canLayAll0]) (by simp [PyData.depth, PyData.depthAll]; (clear hl hp; assumption)) ?_
  simp only [PyData.eqv, eqvAll_nil, pys_isEmpty hp]; exact h
end
end Mine

set_option maxRecDepth 100000
set_option Elab.async false
set_option linter.unusedVariables false
namespace Mine
open PySem PyProof.Rows PySem.Builtin.Re PySem.W

section
variable {prog : Program} {w : World} {A : Around} {s : Shared} {env : Env} {elt t1 i1 t2 i2 : Expr} {ifs1 ifs2 : List Expr} {scope : Scope} {pos : Pos} {it acc : Value}
end

section
variable {G : Gl} {A : Around} {env : Env} {st : St} {e elt t1 i1 t2 i2 : Expr} {ifs1 ifs2 : List Expr} {scope : Scope} {pos : Pos} {D : Addr} {d : Nat}
end
theorem ex_compf {G : Gl} {A : Around} {env : Env} {st : St} {pos : Pos} {y : Str} {py spos : Pos} {Q : Fl → St → Prop} {β : Type} {elt t iter : Expr} {ifs : List Expr} {scope : Scope} {cl : List (Str × Addr)} (f : β → V) (p : β → Bool) (g : β → V) (xs : List β) (hsw : swapsWith (.ListComp elt [⟨t, iter, ifs, 0⟩] scope pos) (some (.Name y py)) spos.line env = pure true) (hk : env.scope.kind = .function) (hl : env.kindOf y = some .local) (hA : A.handled = none) (hclos : closureFor scope env = pure cl) (hcell : ∀ x ∈ scope.names, x.2 ≠ .cell) (hkind : scope.kind = .function)
    (hnames : ∀ x ∈ scope.names, x.2 = .local → scope.names.lookup x.1 = some .local) (hs : ∀ x, foldedSetIterable iter env x = pure x) (hlen : xs.length ≤ 16000000)
    (h : Ev G A env iter st fun v st₁ => ∃ v' st₂, EntV G env.locals v st₁ v' st₂ ∧ iterItems v' = some (xs.map f) ∧
      (∀ C D, ∀ x ∈ xs, ∀ ys, Asg G A (compEnvC scope cl C env) t (f x) ⟨[], (D, ys) :: st₂.ar⟩ fun st₁ => Ifs G A (compEnvC scope cl C env) ifs st₁ fun b st₃ => b = p x ∧
        if b then Ev G A (compEnvC scope cl C env) elt st₃ fun v st₄ => v = g x ∧ st₄.ar = (D, ys) :: st₂.ar else st₃.ar = (D, ys) :: st₂.ar) ∧
      Q .next (st₂.set y (.fl ((xs.filter p).map g)))) :
    Ex G A env (.Assign [.Name y py] (.ListComp elt [⟨t, iter, ifs, 0⟩] scope pos) spos) st Q := by
  refine ex_compG hsw hA hclos hcell hkind hnames hs hk hl (h.mono fun v st₁ hm2 => ?_)
  obtain ⟨v', st₂, he, hx, ht, q⟩ := hm2
  refine ⟨v', st₂, _, he, hx, fun C D hD => ?_⟩
  refine cp_map f p g xs hlen (ht C D) fun l => ⟨_, st₂, ?_, q⟩
  have := EntV.frz (G := G) (L := env.locals) (v := .list D) (loc := st₂.loc) (ar := st₂.ar) (a := D) (xs := (xs.filter p).map g)
  rw [fz_self] at this; exact this
end Mine

set_option maxRecDepth 100000
set_option Elab.async false
set_option linter.unusedVariables false
namespace Mine
open PySem PyProof.Rows
open Sem (wp)

end Mine

set_option maxRecDepth 100000
set_option Elab.async false
set_option linter.unusedVariables false
namespace Mine
open PySem PyProof.Rows PySem.W

structure EvN (G : Gl) (A : Around) (n : Nat) (env : Env) (e : Expr) (st : St) (Q : V → St → Prop) : Prop where
  run : ∀ K Z s, Sim G K Z env.locals st s → n < s.toks → wpAny G.M A (eval e env) (Post G K Z env.locals VR Q) Nope s
structure ExsN (G : Gl) (A : Around) (n : Nat) (env : Env) (ss : List Stmt) (st : St) (Q : Fl → St → Prop) : Prop where
  run : ∀ K Z s, Sim G K Z env.locals st s → n < s.toks → wpAny G.M A (execs ss env) (Post G K Z env.locals FR Q) Nope s
structure ExN (G : Gl) (A : Around) (n : Nat) (env : Env) (x : Stmt) (st : St) (Q : Fl → St → Prop) : Prop where
  run : ∀ K Z s, Sim G K Z env.locals st s → n < s.toks → wpAny G.M A (exec x env) (Post G K Z env.locals FR Q) Nope s
section
variable {G : Gl} {A : Around} {n : Nat} {env : Env} {st : St} {pos p : Pos}
theorem EvN.of {e : Expr} {Q : V → St → Prop} (h : Ev G A env e st Q) : EvN G A n env e st Q := ⟨fun K Z s S _ => h.run K Z s S⟩
theorem ExsN.of {ss : List Stmt} {Q : Fl → St → Prop} (h : Exs G A env ss st Q) : ExsN G A n env ss st Q := ⟨fun K Z s S _ => h.run K Z s S⟩
theorem ExN.of {x : Stmt} {Q : Fl → St → Prop} (h : Ex G A env x st Q) : ExN G A n env x st Q := ⟨fun K Z s S _ => h.run K Z s S⟩
end
end Mine

set_option maxRecDepth 100000
set_option Elab.async false
set_option linter.unusedVariables false
namespace Mine
open PySem PyProof.Rows PySem.W

section
variable {G : Gl} {A : Around} {n : Nat} {env : Env} {st : St} {pos p : Pos} {L : Addr} {Q : V → St → Prop}
theorem ct_list {v : V} {xs : List V} (hv : Ls st v xs) (hx : xs.length ≤ 16777216) (h : Q (.fl xs) st) : CT G A L "list" [v] st Q := ⟨fun K Z ws s S r => by
  obtain ⟨w1, ws1, rfl, r1, r2⟩ := r.of_cons
  rw [r2.of_nil]
  obtain ⟨a, us, rfl, ⟨o, ho, hc, k, hd⟩, hr⟩ := hv.isList S r1
  refine call_list_seq a (.inl rfl) ho hc hd (fun h' c' hk hg => ?_) (by rw [List.size_toArray, hr.length, sizeLine_eq]; exact hx)
  have S₁ : Sim G K Z L st { s with heap := h' } := S.heap (tk := s.toks) (dr := s.drawn) fun b o' _ e => hk b o' e
  obtain ⟨z, S₂⟩ := S₁.addZ (a := s.heap.objs.size) (o := { cls := .type "list", dict := none, data := .seq us.toArray c', slots := #[] }) S.fresh hg
  refine ⟨_, _, st, z, S₂, ?_, h⟩
  unfold VR
  exact ⟨_, us, rfl, ⟨_, Zset.self, rfl, c', rfl⟩, VRs.mono z _ _ hr⟩⟩
end
end Mine

set_option maxRecDepth 100000
set_option Elab.async false
set_option linter.unusedVariables false
namespace Mine
open PySem PyProof.Rows PySem.Builtin.Re PySem.W

theorem nst_ent {G : Gl} {L : Addr} {loc : List (Str × V)} {I O N : Addr} {last done : List V} {ar : List (Addr × List V)} (hIO : I ≠ O) (hNI : N ≠ I) (hNO : N ≠ O) (hl : ∀ p ∈ loc, ∀ xs, p.2.fz I xs = p.2) (hd : ∀ xs, V.fzs I xs done = done)
    (ha : ∀ p ∈ ar, p.1 ≠ I ∧ ∀ xs, V.fzs I xs p.2 = p.2) :
    Ent G L ⟨loc, setA O (done ++ [.list I] ++ [.list N]) ((N, []) :: (I, last) :: (O, done ++ [.list I]) :: ar)⟩ ⟨loc, (N, []) :: (O, done ++ [.fl last] ++ [.list N]) :: ar⟩ := by
  have e1 : setA O (done ++ [V.list I] ++ [V.list N]) ((N, []) :: (I, last) :: (O, done ++ [.list I]) :: ar) = (N, []) :: (I, last) :: (O, done ++ [.list I] ++ [.list N]) :: ar := by simp [setA, hNO, hIO]
  rw [e1]
  refine Ent.trans (Ent.freeze (a := I) (xs := last) (.tail _ (.head _))) ?_
  have e2 : St.fz ⟨loc, (N, []) :: (I, last) :: (O, done ++ [.list I] ++ [.list N]) :: ar⟩ I last = ⟨loc, (N, []) :: (O, done ++ [.fl last] ++ [.list N]) :: ar⟩ := by
    have h1 : (loc.map fun p => (p.1, p.2.fz I last)) = loc := by
      conv => rhs; rw [← List.map_id loc]
      exact List.map_congr_left fun p hp => by rw [hl p hp last]; rfl
    have h2 : ((ar.filter fun p => p.1 ≠ I).map fun p => (p.1, V.fzs I last p.2)) = ar := by
      rw [List.filter_eq_self.mpr (fun p hp => by simpa using (ha p hp).1)]
      conv => rhs; rw [← List.map_id ar]
      exact List.map_congr_left fun p hp => by rw [(ha p hp).2 last]; rfl
    simp only [St.fz, h1]
    rw [List.filter_cons_of_pos (by simpa using hNI), List.filter_cons_of_neg (by simp), List.filter_cons_of_pos (by simpa using Ne.symm hIO), List.map_cons, List.map_cons, h2]
    simp [V.fzs_eq, V.fz, hNI]
    rw [← V.fzs_eq, hd]
  rw [e2]; exact .refl
theorem nst_fin {G : Gl} {L : Addr} {x : Str} {loc : List (Str × V)} {I O : Addr} {last done : List V} {ar : List (Addr × List V)} (hIO : I ≠ O) (hl : ∀ p ∈ loc, ∀ xs, p.2.fz I xs = p.2 ∧ p.2.fz O xs = p.2) (hd : ∀ xs, V.fzs I xs done = done) 
    (ha : ∀ p ∈ ar, p.1 ≠ I ∧ p.1 ≠ O ∧ ∀ xs, V.fzs I xs p.2 = p.2 ∧ V.fzs O xs p.2 = p.2) :
    Ent G L ⟨(x, .list O) :: loc, (I, last) :: (O, done ++ [.list I]) :: ar⟩ ⟨(x, .fl (done ++ [.fl last])) :: loc, ar⟩ := by
  refine Ent.trans (Ent.freeze (a := I) (xs := last) (.head _)) ?_
  have hm : ∀ a xs, (∀ p ∈ loc, p.2.fz a xs = p.2) → (loc.map fun p => (p.1, p.2.fz a xs)) = loc := fun a xs h => by
    conv => rhs; rw [← List.map_id loc]
    exact List.map_congr_left fun p hp => by rw [h p hp]; rfl
  have hr : ∀ a xs, (∀ p ∈ ar, p.1 ≠ a ∧ V.fzs a xs p.2 = p.2) → ((ar.filter fun p => p.1 ≠ a).map fun p => (p.1, V.fzs a xs p.2)) = ar := fun a xs h => by
    rw [List.filter_eq_self.mpr (fun p hp => by simpa using (h p hp).1)]
    conv => rhs; rw [← List.map_id ar]
    exact List.map_congr_left fun p hp => by rw [(h p hp).2]; rfl
  have e2 : St.fz ⟨(x, .list O) :: loc, (I, last) :: (O, done ++ [.list I]) :: ar⟩ I last = ⟨(x, .list O) :: loc, (O, done ++ [.fl last]) :: ar⟩ := by
    simp only [St.fz, List.map_cons, hm I last fun p hp => (hl p hp last).1]
    rw [List.filter_cons_of_neg (by simp), List.filter_cons_of_pos (by simpa using Ne.symm hIO), List.map_cons, hr I last fun p hp => ⟨(ha p hp).1, ((ha p hp).2.2 last).1⟩]
    simp [V.fzs_eq, V.fz, Ne.symm hIO]
    rw [← V.fzs_eq, hd]
  rw [e2]
  refine Ent.trans (Ent.freeze (a := O) (xs := done ++ [.fl last]) (.head _)) ?_
  have e3 : St.fz ⟨(x, .list O) :: loc, (O, done ++ [.fl last]) :: ar⟩ O (done ++ [.fl last]) = ⟨(x, .fl (done ++ [.fl last])) :: loc, ar⟩ := by
    simp only [St.fz, List.map_cons, hm O _ fun p hp => (hl p hp _).2]
    rw [List.filter_cons_of_neg (by simp), hr O _ fun p hp => ⟨(ha p hp).2.1, ((ha p hp).2.2 _).2⟩]
    simp [V.fz]
  rw [e3]; exact .refl

section
variable {G : Gl} {A : Around} {env : Env} {st : St} {pos p : Pos} {n : Nat} {L : Addr}
theorem ev_lasto {Q : V → St → Prop} {value : Expr} {k : Nat} {p2 p3 p4 : Pos} (h : Ev G A env value st fun o st₁ => ∃ a xs v, o = .list a ∧ (a, xs ++ [v]) ∈ st₁.ar ∧ Q v st₁) :
    Ev G A env (.Subscript value (.UnaryOp .USub (.Constant (.int 1) k p2) p3) p4) st Q := by
  refine ev_subs (h.mono fun o st₁ hq0 => ?_)
  obtain ⟨a, xs, v, ho, ha, q⟩ := hq0
  subst ho
  refine ev_un ?_
  refine ev_int ?_
  refine op_neg ?_
  refine sub_list ha (fun _ _ => rfl) (by decide) (by decide) (seqIndex_last (by simp)) ?_ q
  rw [List.getElem?_append_right (by simp)]; simp
end

end Mine

set_option maxRecDepth 100000
set_option Elab.async false
set_option linter.unusedVariables false
namespace Mine
open PySem PyProof.Rows PySem.Builtin.Re PySem.W

section
variable {G : Gl} {A : Around} {L : Addr} {st : St} {Q : V → St → Prop} {a b : Int}
end
theorem filt_all {α : Type} (l : List α) : l.filter (fun _ => true) = l := List.filter_eq_self.mpr fun _ _ => rfl
section
variable {G : Gl} {A : Around} {env : Env} {st : St} {pos p : Pos} {n : Nat} {L : Addr}
theorem Tst.mono {e : Expr} {Q Q' : Bool → St → Prop} (h : Tst G A env e st Q) (hQ : ∀ b st', Q b st' → Q' b st') : Tst G A env e st Q' := ⟨h.run.mono hQ⟩
end
end Mine

set_option maxRecDepth 100000
set_option Elab.async false
set_option linter.unusedVariables false
namespace Mine
open PySem PyProof.Rows PySem.W

noncomputable def lexI : List Int → List Int → Bool
  | a :: as, b :: bs => if a = b then lexI as bs else decide (a < b)
  | _, _ => false
theorem lexI_trans : ∀ {a b c : List Int}, lexI a b = true → lexI b c = true → a.length = b.length → lexI a c = true
  | x :: a, y :: b, z :: c, h1, h2, hl => by
    simp only [lexI] at h1 h2 ⊢
    split at h1
    · rename_i e; subst e
      split at h2
      · rename_i e; subst e
        rw [if_pos rfl]
        exact lexI_trans h1 h2 (by simpa using hl)
      · rename_i e; rw [if_neg e]; exact h2
    · rename_i e
      split at h2
      · rename_i e'; subst e'
        rw [if_neg e]; exact h1
      · rename_i e'
        simp only [decide_eq_true_eq] at h1 h2
        rw [if_neg (by first | lia | omega)]
        simp only [decide_eq_true_eq]; first | lia | omega
  | [], _, _, h1, _, _ => by simp [lexI] at h1
  | _ :: _, [], _, h1, _, _ => by simp [lexI] at h1
  | _ :: _, _ :: _, [], _, h2, _ => by simp [lexI] at h2
theorem lexI_irrefl : ∀ a : List Int, lexI a a = false
  | [] => rfl
  | a :: as => by simp only [lexI, if_true]; exact lexI_irrefl as
section
variable {prog : Program} {w : World} {A : Around} {E : Value → Shared → Prop} {s : Shared} {Z : Zt}
theorem lt_go {R : Option PySem.Fin × Unit → Shared → Prop} {body : Value × Value → Option PySem.Fin × Unit → Sem (ForInStep (Option PySem.Fin × Unit))}
    (hb : ∀ i j t u (R' : ForInStep (Option PySem.Fin × Unit) → Shared → Prop), (i = j → R' (.yield (none, ())) s) → (i ≠ j → R' (.done (some (.done (.ret (.bool (decide (i < j))))), ())) s) → wpAny (model prog w) A (body (.int i t, .int j u) (none, ())) R' E s) :
    ∀ {as bs : List Int} {xs ys : List Value}, VRs Z (as.map V.int) xs → VRs Z (bs.map V.int) ys → as.length = bs.length →
      (lexI as bs = false → R (none, ()) s) → (∀ b, lexI as bs = b → R (some (.done (.ret (.bool b))), ()) s) → wpAny (model prog w) A (forIn (xs.zip ys) (none, ()) body) R E s
  | [], [], xs, ys, r1, r2, _, k1, k2 => by
    rw [r1.of_nil, r2.of_nil]
    show wpAny _ _ (forIn ([] : List (Value × Value)) (none, ()) body) _ _ _
    rw [List.forIn_nil]
    exact wpAny_pure (k1 rfl)
  | a :: as, b :: bs, xs, ys, r1, r2, hl, k1, k2 => by
    obtain ⟨w1, ws1, rfl, r3, r4⟩ := VRs.of_cons r1
    obtain ⟨w2, ws2, rfl, r5, r6⟩ := VRs.of_cons r2
    obtain ⟨t, rfl⟩ := of_int r3
    obtain ⟨u, rfl⟩ := of_int r5
    rw [List.zip_cons_cons, List.forIn_cons]
    refine wpAny_bind (hb a b t u _ (fun e => ?_) fun e => ?_)
    · subst e
      simp only [lexI, if_true] at k1 k2
      exact lt_go hb r4 r6 (by simpa using hl) k1 k2
    · refine wpAny_pure (k2 _ ?_)
      simp only [lexI, if_neg e]
  | [], _ :: _, _, _, _, _, hl, _, _ => by cases hl
  | _ :: _, [], _, _, _, _, hl, _, _ => by cases hl
end
section
variable {G : Gl} {A : Around} {E : Value → Shared → Prop} {s : Shared} {Z : Zt}
noncomputable abbrev tupI (e : List Int) : V := .tup (e.map V.int)
theorem tup_lt {a b : Addr} {as bs : List Int} {xs ys : List Value} {Q : Value → Shared → Prop} (h1 : s.heap.IsTuple a xs.toArray) (h2 : s.heap.IsTuple b ys.toArray) (r1 : VRs Z (as.map V.int) xs) (r2 : VRs Z (bs.map V.int) ys) (hl : as.length = bs.length) (hu : A.units < cLine)
    (h : Q (.bool (lexI as bs)) s) : wpAny G.M A (richCompare .Lt (.ref a) (.ref b)) Q E s := by
  obtain ⟨o1, e1, c1, n1, d1⟩ := h1
  obtain ⟨o2, e2, c2, n2, d2⟩ := h2
  have t1 : s.TypeIs (.ref a) "tuple" := ⟨o1, e1, c1⟩
  have t2 : s.TypeIs (.ref b) "tuple" := ⟨o2, e2, c2⟩
  refine wpAny_richCompare_same_room (op := .Lt) (T := "tuple") t1 t2 F.slot_tuple_lt ?_ hu
  refine wpAny_call_entry F.slot_tuple_lt t1 F.entry_tuple_lt ?_ (F.args_tuple_lt_2 _ _)
  unfold Builtin.«tuple.__lt__»
  refine wpAny_bind (wpAny_pure ?_)
  refine wpAny_bind (wpAny_isInstance t2 (T := "tuple") (U := "tuple") (b := true) (by rw [isSubtype_type]; kernel_rfl) ?_)
  show wpAny _ _ (Builtin.Tuple.tupleItemsOf (.ref a) >>= _) _ _ s
  have it : ∀ {x : Addr} {o : Obj} {zs : List Value} {n : Nat} {Q : Array Value → Shared → Prop}, s.heap.get? x = some o → o.data = .seq zs.toArray n → Q zs.toArray s → wpAny G.M A.in1 (Builtin.Tuple.tupleItemsOf (.ref x)) Q E s := fun e d q => by
    unfold Builtin.Tuple.tupleItemsOf
    exact wpAny_bind (wpAny_seqItems e d (wpAny_pure q))
  refine wpAny_bind (it e1 d1 (wpAny_bind (it e2 d2 (wpAny_bind ?_))))
  rw [List.toList_toArray, List.toList_toArray]
  refine lt_go (fun i j t u R' k1 k2 => ?_) r1 r2 hl (fun q => ?_) (fun b q => ?_)
  · refine wpAny_bind (wpAny_eqBool_int ?_)
    by_cases e : i = j
    · subst e
      simp only [beq_self_eq_true, Bool.not_true, Bool.false_eq_true, if_false]
      exact wpAny_pure (k1 rfl)
    · have : (i == j) = false := by simpa using e
      rw [this]
      simp only [Bool.not_false, if_true]
      refine wpAny_bind (wpAny_rule (wpAny_bind ?_))
      refine (show wpAny _ _ (richCompare .Lt (.int i t) (.int j u)) _ _ s from wpAny_lt_int ?_)
      exact wpAny_bind (wpAny_pure (wpAny_pure (k2 e)))
  · rw [q] at h
    have hx := r1.length
    have hy := r2.length
    rw [List.length_map] at hx hy
    refine wpAny_pure ⟨_, rfl, (fun q => by cases q), ?_⟩
    show Q (.bool (decide (xs.toArray.size < ys.toArray.size))) s
    rw [List.size_toArray, List.size_toArray, show decide (xs.length < ys.length) = false by simp; first | lia | omega]
    exact h
  · rw [q] at h
    exact wpAny_pure ⟨_, rfl, by simp, h⟩
theorem min_go {K : Zt} {L : Addr} {st : St} {all : List (List Int)} {n : Nat} {it S : Addr} {P : Nat → Obj → Prop} {R : Result → Shared → Prop} (hu : A.in1.units < cLine) (hn : ∀ e ∈ all, e.length = n) (hIS : it ≠ S)
    (hR : ∀ m v s', m ∈ all → (∀ x ∈ all, lexI x m = false) → VR Z (tupI m) v → Sim G K Z L st s' → R (.ok (.ret v)) s') :
    ∀ (rest done : List (List Int)) (s : Shared) (o : Obj) (vb : Value) (c : Nat) (best : List Int), all = done ++ rest → Itr G A.in1 Z it (all.map tupI) P → Sim G K Z L st s → s.heap.get? it = some o → P done.length o → ¬ Tracked G K Z L st it → ¬ Tracked G K Z L st S →
      VR Z (tupI best) vb → s.heap.get? S = some { cls := .type "list", dict := none, data := .seq #[vb, vb] c, slots := #[] } → best ∈ done → (∀ x ∈ done, lexI x best = false) →
      codeAny G.M A (.builtin "min.loop" ⟨[.ref it, .none, .ref S], []⟩) R s := by
  have hname : (toString "min" ++ toString ".loop" : String) = "min.loop" := by decide
  intro rest
  induction rest with
  | nil =>
    intro done s o vb c best e I Si ho hp hti htS rb hS hb hle
    rw [List.append_nil] at e
    refine codeAny_builtin F.entry_min_loop ?_
    rw [Around.under_plainId F.plain_min_loop _]
    show wpAny _ A.in1 (seqItems? (.ref S) >>= _) _ _ s
    refine wpAny_bind (wpAny_seqItems hS rfl ?_)
    show wpAny _ A.in1 (tryCatch (pyNext (.ref it)) _ >>= _) _ _ s
    refine wpAny_bind (wpAny_tryCatch (wpAny_mono (E := Nope) (I.done s o _ Si.zz ho (by rw [List.length_map, e]; exact hp) fun h' hx => ?_) (fun _ _ x => x) fun _ _ x => x.elim))
    have hS' := hx S _ (Ne.symm hIS) hS
    show wpAny _ A.in1 (updateSeq S (fun _ => #[]) >>= _) _ _ _
    refine wpAny_bind ?_
    refine wpAny_updateSeq hS' rfl (wpAny_bind (wpAny_letGo (wpAny_pure ?_)))
    have S1 : Sim G K Z L st { s with heap := h', toks := s.toks } := Si.ext hx hti
    refine hR best vb _ (e ▸ hb) (fun x hx' => hle x (e ▸ hx')) rb (S1.heap (tk := s.toks) (dr := s.drawn) fun b o' hb' e' => (Heap.get?_update_other _ _ fun q : S = b => htS (by rw [q]; exact hb')).trans e')
  | cons x rest ih =>
    intro done s o vb c best e I Si ho hp hti htS rb hS hb hle
    refine codeAny_builtin F.entry_min_loop ?_
    rw [Around.under_plainId F.plain_min_loop _]
    show wpAny _ A.in1 (seqItems? (.ref S) >>= _) _ _ s
    refine wpAny_bind (wpAny_seqItems hS rfl ?_)
    show wpAny _ A.in1 (tryCatch (pyNext (.ref it)) _ >>= _) _ _ s
    refine wpAny_bind (wpAny_tryCatch (wpAny_mono (E := Nope) (I.next (i := done.length) (v := tupI x) (by rw [e]; simp) s o _ Si.zz ho hp fun v h' tk o' rv ho' hp' hsb => ?_) (fun _ _ x => x) fun _ _ x => x.elim))
    have hx := hsb.extBut
    have hS' := hx S _ (Ne.symm hIS) hS
    have S1 : Sim G K Z L st { s with heap := h', toks := tk } := Si.ext hx hti
    obtain ⟨a1, ws1, rfl, hz1, hr1⟩ := of_tup rv
    obtain ⟨a2, ws2, rfl, hz2, hr2⟩ := of_tup rb
    have hxl : x.length = best.length := by
      rw [hn x (by rw [e]; simp), hn best (by rw [e]; exact List.mem_append_left _ hb)]
    show wpAny _ A.in1 (tryCatch (holding [.ref a1, .ref a1] (richCompare .Lt (.ref a1) (.ref a2) >>= _)) _ >>= _) _ _ _
    refine wpAny_bind (wpAny_tryCatch (wpAny_holding (wpAny_bind (tup_lt (zseq_tuple hz1 S1.zz) (zseq_tuple hz2 S1.zz) hr1 hr2 hxl hu ?_))))
    refine wpAny_bind (wpAny_holding (wpAny_truthy_bool ?_))
    refine wpAny_bind (wpAny_letGo (wpAny_pure ?_))
    cases hlt : lexI x best with
    | true =>
      simp only [if_true]
      refine wpAny_bind ?_
      refine wpAny_updateSeq hS' rfl (wpAny_bind (wpAny_letGo ?_))
      rw [hname]
      have S2 : ∀ f, Sim G K Z L st { s with heap := h'.update S f, toks := tk } := fun f => S1.heap (tk := tk) (dr := s.drawn) fun b o' hb' e' => (Heap.get?_update_other _ _ fun q : S = b => htS (by rw [q]; exact hb')).trans e'
      refine wpAny_pure ⟨plainId_quiet F.plain_min_loop _, ih (done ++ [x]) _ o' (.ref a1) _ x (by rw [e]; simp) I (S2 _) ((Heap.get?_update_other _ _ (Ne.symm hIS)).trans ho') (by rw [List.length_append]; exact hp') hti htS rv (Heap.get?_update_self _ hS' rfl) (by simp) fun y hy => ?_⟩
      rcases List.mem_append.mp hy with hy | hy
      · cases q : lexI y x with
        | false => rfl
        | true =>
          have := lexI_trans q hlt (by rw [hn y (by rw [e]; exact List.mem_append_left _ hy), hn x (by rw [e]; simp)])
          rw [hle y hy] at this; cases this
      · rw [List.mem_singleton] at hy; subst hy
        exact lexI_irrefl _
    | false =>
      simp only [Bool.false_eq_true, if_false]
      refine wpAny_bind (wpAny_letGo ?_)
      rw [hname]
      refine wpAny_pure ⟨plainId_quiet F.plain_min_loop _, ih (done ++ [x]) _ o' (.ref a2) c best (by rw [e]; simp) I S1 ho' (by rw [List.length_append]; exact hp') hti htS rb hS' (List.mem_append_left _ hb) fun y hy => ?_⟩
      rcases List.mem_append.mp hy with hy | hy
      · exact hle y hy
      · rw [List.mem_singleton] at hy; subst hy; exact hlt
end
section
variable {G : Gl} {A : Around} {L : Addr} {st : St} {Q : V → St → Prop}
theorem cb_mint {all : List (List Int)} {n : Nat} (hA : A.handled = none) (hu : A.units + 1 < cLine) (h0 : all ≠ []) (hn : ∀ e ∈ all, e.length = n) (h : ∀ m, m ∈ all → (∀ x ∈ all, lexI x m = false) → Q (tupI m) st) : CB G A L "min" [.fl (all.map tupI)] st Q := ⟨fun K Z ws s Si r => by
  obtain ⟨w1, ws1, rfl, r1, r2⟩ := r.of_cons
  rw [r2.of_nil]
  have hname : (toString "min" ++ toString ".loop" : String) = "min.loop" := by decide
  obtain ⟨x, rest, rfl⟩ : ∃ x rest, all = x :: rest := by cases all with | nil => exact absurd rfl h0 | cons x r' => exact ⟨x, r', rfl⟩
  refine call_function_tree F.kind_min F.plain_min F.entry_min (F.args_min1 _) ?_
  show wpAny _ A.in1 (Builtin.Builtins.bindParams "min" ["key", "default"] 0 ⟨[], []⟩ >>= _) _ _ s
  refine wpAny_bind (wpAny_of_eq (show Builtin.Builtins.bindParams "min" ["key", "default"] 0 ⟨[], []⟩ = pure [none, none] from rfl) ?_)
  refine wpAny_bind (wpAny_pure ?_)
  refine wpAny_bind (wpAny_mono (E := Nope) (pyIter_use (A := A.in1) Si hA r1 (xs := (x :: rest).map tupI) rfl (Q := fun w2 s' => ∃ P o, o.isFreed = false ∧ Itr G A.in1 Z s.heap.objs.size ((x :: rest).map tupI) P ∧ P 0 o ∧ w2 = .ref s.heap.objs.size ∧ s' = { s with heap := s.heap.push o }) fun P o ho I hp => ⟨P, o, ho, I, hp, rfl, rfl⟩) (fun w2 s' hq => ?_) fun _ _ x => x.elim)
  obtain ⟨P, o, ho, I, hp, rfl, rfl⟩ := hq
  refine wpAny_bind (wpAny_newObj_type ?_)
  rw [hname]
  have S1 := Si.push o (tk := s.toks)
  have ht1 := Si.fresh
  have ht2 : ¬ Tracked G K Z L st (s.heap.push o).objs.size := S1.fresh
  have ne : s.heap.objs.size ≠ (s.heap.push o).objs.size := by simp [Heap.push]
  have e1 : ({ s with heap := s.heap.push o } : Shared).heap.get? s.heap.objs.size = some o := Heap.get?_push_size _ ho
  refine wpAny_pure ⟨plainId_quiet F.plain_min_loop _, ?_⟩
  have S2 := S1.push { cls := .type "list", data := .seq #[] } (tk := s.toks)
  refine codeAny_builtin F.entry_min_loop ?_
  rw [Around.under_plainId F.plain_min_loop _]
  show wpAny _ A.in1 (seqItems? (.ref (s.heap.push o).objs.size) >>= _) _ _ _
  refine wpAny_bind (wpAny_seqItems (Heap.get?_push_size _ rfl) rfl ?_)
  show wpAny _ A.in1 (tryCatch (pyNext (.ref s.heap.objs.size)) _ >>= _) _ _ _
  refine wpAny_bind (wpAny_tryCatch (wpAny_mono (E := Nope) (I.next (i := 0) (v := tupI x) rfl _ o _ S2.zz (Heap.get?_push_of_some _ e1) hp fun v h' tk o' rv ho' hp' hsb => ?_) (fun _ _ x => x) fun _ _ x => x.elim))
  have hx := hsb.extBut
  have hS' := hx (s.heap.push o).objs.size _ (Ne.symm ne) (Heap.get?_push_size _ rfl)
  have S3 := S2.ext (tk := tk) hx ht1
  show wpAny _ A.in1 (updateSeq (s.heap.push o).objs.size (fun _ => #[v, v]) >>= _) _ _ _
  refine wpAny_bind ?_
  refine wpAny_updateSeq hS' rfl ?_
  rw [hname]
  have S4 := fun f => S3.heap (h' := h'.update (s.heap.push o).objs.size f) (tk := tk) (dr := s.drawn) fun b o' hb' e' => (Heap.get?_update_other _ _ fun q : (s.heap.push o).objs.size = b => ht2 (by rw [q]; exact hb')).trans e'
  refine wpAny_pure ⟨plainId_quiet F.plain_min_loop _, min_go (all := x :: rest) (A := A) (n := n) hu hn ne (fun m v s' hm hle rm S' => ?_) rest [x] _ o' v _ x rfl I (S4 _) ((Heap.get?_update_other _ _ (Ne.symm ne)).trans ho') hp' ht1 ht2 rv (Heap.get?_update_self _ hS' rfl) (.head _) fun y hy => ?_⟩
  · exact Post.mk S' rm (h m hm hle)
  · rw [List.mem_singleton] at hy; subst hy; exact lexI_irrefl _⟩
end
end Mine

set_option maxRecDepth 100000
set_option Elab.async false
set_option linter.unusedVariables false
namespace Mine
open PySem PyProof.Rows PySem.W PySem.SeqAt

inductive Pl : Nat → V → Prop
  | none {n : Nat} : Pl n .none
  | bool {n : Nat} (b : Bool) : Pl n (.bool b)
  | int {n : Nat} (i : Int) : Pl n (.int i)
  | str {n : Nat} (x : Str) : Pl n (.str x)
  | bytes {n : Nat} (b : Array UInt8) : Pl n (.bytes b)
  | tup {n : Nat} {xs : List V} (h : ∀ x ∈ xs, Pl n x) : Pl (n + 1) (.tup xs)
  | fl {n : Nat} {xs : List V} (h : ∀ x ∈ xs, Pl n x) : Pl (n + 1) (.fl xs)
theorem all_yes (n : Nat) : ((List.range n).all fun _ => true) = true := List.all_eq_true.mpr fun _ _ => rfl
theorem VRs.at {Z : Zt} {xs : List V} {ws us : List Value} (r : VRs Z xs ws) (r' : VRs Z xs us) {j : Nat} (h1 : j < ws.toArray.size) (h2 : j < us.toArray.size) : ∃ x ∈ xs, VR Z x ws.toArray[j] ∧ VR Z x us.toArray[j] := by
  rw [List.size_toArray] at h1 h2
  have hl : j < xs.length := by rw [← r.length]; exact h1
  have hx := List.getElem?_eq_getElem hl
  obtain ⟨w, hw, rw'⟩ := r.get j hx
  obtain ⟨u, hu, ru'⟩ := r'.get j hx
  rw [List.getElem?_eq_getElem h1] at hw
  rw [List.getElem?_eq_getElem h2] at hu
  cases hw; cases hu
  exact ⟨_, List.getElem_mem hl, by simpa using rw', by simpa using ru'⟩
theorem eqat_same {Z : Zt} {s : Shared} (hz : ∀ b o, Z b = some o → s.heap.get? b = some o) : ∀ (n : Nat) (A : Around) (v : V) (w u : Value), Pl n v → VR Z v w → VR Z v u → A.units + n ≤ cLine → EqAt A s w u true := by
  intro n
  induction n with
  | zero =>
    intro A v w u h r1 r2 hu
    cases h with
    | none => rw [of_none r1, of_none r2]; exact .same _
    | bool b => rw [of_bool r1, of_bool r2]; exact .same _
    | int i => obtain ⟨t, rfl⟩ := of_int r1; obtain ⟨t', rfl⟩ := of_int r2; exact fun prog w E Q h => wpAny_eqBool_int (by simpa using h)
    | str x => obtain ⟨t, rfl⟩ := of_str r1; obtain ⟨t', rfl⟩ := of_str r2; exact fun prog w E Q h => wpAny_eqBool_str (by simpa using h)
    | bytes b => obtain ⟨t, rfl⟩ := of_bytes r1; obtain ⟨t', rfl⟩ := of_bytes r2; exact fun prog w E Q h => W.eqBool_bytes (by simpa using h)
  | succ n ih =>
    intro A v w u h r1 r2 hu
    cases h with
    | none => rw [of_none r1, of_none r2]; exact .same _
    | bool b => rw [of_bool r1, of_bool r2]; exact .same _
    | int i => obtain ⟨t, rfl⟩ := of_int r1; obtain ⟨t', rfl⟩ := of_int r2; exact fun prog w E Q h => wpAny_eqBool_int (by simpa using h)
    | str x => obtain ⟨t, rfl⟩ := of_str r1; obtain ⟨t', rfl⟩ := of_str r2; exact fun prog w E Q h => wpAny_eqBool_str (by simpa using h)
    | bytes b => obtain ⟨t, rfl⟩ := of_bytes r1; obtain ⟨t', rfl⟩ := of_bytes r2; exact fun prog w E Q h => W.eqBool_bytes (by simpa using h)
    | @tup _ xs hp =>
      obtain ⟨a, ws, rfl, hza, hra⟩ := of_tup r1
      obtain ⟨b, us, rfl, hzb, hrb⟩ := of_tup r2
      by_cases e : a = b
      · subst e; exact .same _
      · refine EqAt.of_refs e ?_
        have := RcAt.tuples (A := A) (e := fun _ => true) (zseq_tuple hza hz) (zseq_tuple hzb hz) (by exact Nat.lt_of_le_of_lt (Nat.le_add_right _ _) (by assumption)) fun j h1 h2 => by
          obtain ⟨x, hx, ra, rb⟩ := hra.at hrb h1 h2
          exact ih A.in1 x _ _ (hp x hx) ra rb (by show A.units + 1 + n ≤ cLine; first | lia | omega)
        have hs : ws.toArray.size = us.toArray.size := by rw [List.size_toArray, List.size_toArray, hra.length, hrb.length]
        rw [hs, Nat.min_self, all_yes, beq_self_eq_true] at this
        exact this
    | @fl _ xs hp =>
      obtain ⟨a, ws, rfl, hza, hra⟩ := of_fl r1
      obtain ⟨b, us, rfl, hzb, hrb⟩ := of_fl r2
      by_cases e : a = b
      · subst e; exact .same _
      · refine EqAt.of_refs e ?_
        have hs : ws.toArray.size = us.toArray.size := by rw [List.size_toArray, List.size_toArray, hra.length, hrb.length]
        have := RcAt.lists (A := A) (e := fun _ => true) (zseq_list hza hz) (zseq_list hzb hz) hs (by exact Nat.lt_of_le_of_lt (Nat.le_add_right _ _) (by assumption)) fun j h1 h2 => by
          obtain ⟨x, hx, ra, rb⟩ := hra.at hrb h1 h2
          exact ih A.in1 x _ _ (hp x hx) ra rb (by show A.units + 1 + n ≤ cLine; omega)
        rw [all_yes] at this
        exact this
section
variable {G : Gl} {A : Around} {L : Addr} {st : St} {Q : V → St → Prop}
theorem op_eqsame {n : Nat} {xs : List V} (hp : ∀ x ∈ xs, Pl n x) (hu : A.units + 1 + n ≤ cLine) (h : Q (.bool true) st) : Op2 G A L (compareOp .Eq) (.fl xs) (.fl xs) st Q := ⟨fun K Z w u s S r1 r2 => by
  obtain ⟨a, ws, rfl, hza, hra⟩ := of_fl r1
  obtain ⟨b, us, rfl, hzb, hrb⟩ := of_fl r2
  have hs : ws.toArray.size = us.toArray.size := by rw [List.size_toArray, List.size_toArray, hra.length, hrb.length]
  have := RcAt.lists (A := A) (e := fun _ => true) (zseq_list hza S.zz) (zseq_list hzb S.zz) hs (by exact Nat.le_trans (Nat.le_add_right _ _) (by assumption)) fun j h1 h2 => by
    obtain ⟨x, hx, ra, rb⟩ := hra.at hrb h1 h2
    exact eqat_same S.zz n A.in1 x _ _ (hp x hx) ra rb (by show A.units + 1 + n ≤ cLine; assumption)
  refine this G.prog G.w _ _ ?_
  rw [all_yes]
  exact Post.mk S vr_bool h⟩
noncomputable def isL : V → Bool
  | .fl _ => true
  | _ => false
inductive Itm : V → Prop
  | tup (xs : List V) : Itm (.tup xs)
  | fl (xs : List V) : Itm (.fl xs)
  | str (x : Str) : Itm (.str x)
  | int (i : Int) : Itm (.int i)
theorem cb_isil {v : V} (hv : Itm v) (h : Q (.bool (isL v)) st) : CB G A L "isinstance" [v, .raw (.type "list")] st Q := ⟨fun K Z ws s S r => by
  obtain ⟨w1, ws1, rfl, r1, r2⟩ := r.of_cons
  obtain ⟨w2, ws2, rfl, r3, r4⟩ := r2.of_cons
  rw [r4.of_nil, of_raw r3]
  cases hv with
  | tup xs =>
    obtain ⟨a, ws, rfl, ⟨o, e, hc, n, hd⟩, hr⟩ := of_tup r1
    exact IsiPair.tuple_list (S.zz _ _ e) hc (Post.mk S.toks vr_bool h)
  | fl xs =>
    obtain ⟨a, ws, rfl, ⟨o, e, hc, n, hd⟩, hr⟩ := of_fl r1
    exact call_isinstance (isinstance_true (Tx := "list") F.isi_meta_list F.sub_list_list) ⟨⟨o, S.zz _ _ e, hc⟩, Post.mk S vr_bool h⟩
  | str x => obtain ⟨t, rfl⟩ := of_str r1; exact IsiPair.str_list (Post.mk S.toks vr_bool h)
  | int i => obtain ⟨t, rfl⟩ := of_int r1; exact IsiPair.int_list (Post.mk S.toks vr_bool h)⟩
end
end Mine

set_option maxRecDepth 100000
set_option Elab.async false
set_option linter.unusedVariables false
namespace Mine
open PySem PyProof.Rows PySem.W

noncomputable abbrev Tr := Nat × Nat × Nat
noncomputable def lt3 (x y : Tr) : Prop := x.1 < y.1 ∨ (x.1 = y.1 ∧ (x.2.1 < y.2.1 ∨ (x.2.1 = y.2.1 ∧ x.2.2 < y.2.2)))
noncomputable def nm (c : Nat) : String := if c = 1 then "TypeError" else "ValueError"
noncomputable abbrev trI (x : Tr) : List Int := [(x.1 : Int), (x.2.1 : Int), (x.2.2 : Int)]
theorem lexI_tr (x y : Tr) : lexI (trI x) (trI y) = true ↔ lt3 x y := by
  obtain ⟨a, b, c⟩ := x
  obtain ⟨a', b', c'⟩ := y
  simp only [lexI, lt3]
  split
  · split
    · split
      · simp; first | lia | omega
      · simp; first | lia | omega
    · simp; first | lia | omega
  · simp; first | lia | omega
inductive Bd : List (List Kd) → List Kd → List Tr → Prop
  | start (w : Str) : Bd [] [.good w] []
  | new {d : List (List Kd)} {l : List Kd} {e : List Tr} (h : Bd d l e) : Bd (d ++ [l]) [] e
  | good {d : List (List Kd)} {l : List Kd} {e : List Tr} (h : Bd d l e) (w : Str) : Bd d (l ++ [.good w]) e
  | lone {d : List (List Kd)} {l : List Kd} {e : List Tr} (h : Bd d l e) (hl : l.length < 64) : Bd d (l ++ [.lone]) (e ++ [(d.length + 1, 64, 1)])
  | bad {d : List (List Kd)} {l : List Kd} {e : List Tr} (h : Bd d l e) (hl : l.length < 64) {k : Kd} (c : Nat) (hk : imm k = some (nm c)) : Bd d (l ++ [k]) (e ++ [(d.length + 1, l.length, c)])
inductive InB (d : List (List Kd)) (e : List Tr) : Prop
  | no (h : errLs d = none) (a : ∀ x ∈ e, x.1 = d.length + 1) : InB d e
  | yes (m : Tr) (hm : m ∈ e) (h : errLs d = some (nm m.2.2)) (h1 : m.1 ≤ d.length) (a : ∀ x ∈ e, ¬ lt3 x m) : InB d e
inductive InC (n : Nat) (l : List Kd) (e : List Tr) : Prop
  | no (h : l.findSome? imm = none) (h2 : l.any isLone = false) (a : ∀ x ∈ e, x.1 ≤ n) : InC n l e
  | imm (m : Tr) (hm : m ∈ e) (h : l.findSome? imm = some (nm m.2.2)) (h1 : m.1 = n + 1) (h2 : m.2.1 < l.length) (a : ∀ x ∈ e, x.1 = n + 1 → ¬ lt3 x m) : InC n l e
  | lone (h : l.findSome? imm = none) (h2 : l.any isLone = true) (hm : ((n + 1, 64, 1) : Tr) ∈ e) (a : ∀ x ∈ e, x.1 = n + 1 → x = (n + 1, 64, 1)) : InC n l e
structure Inv3 (d : List (List Kd)) (l : List Kd) (e : List Tr) : Prop where
  a : ∀ x ∈ e, x.1 ≤ d.length + 1
  b : InB d e
  c : InC d.length l e
theorem lt3_irr (x : Tr) : ¬ lt3 x x := by unfold lt3; first | lia | omega
theorem Inv3.last {d : List (List Kd)} {l : List Kd} {e : List Tr} (I : Inv3 d l e) : InB (d ++ [l]) e := by
  rcases I.b with ⟨h, a⟩ | ⟨m, hm, h, h1, a⟩
  · rcases I.c with ⟨k1, k2, b⟩ | ⟨m, hm, k, h1, h2, b⟩ | ⟨k1, k2, hm, b⟩
    · refine .no (errLs_snoc h (errL_none k1 k2)) fun x hx => ?_
      have := a x hx; have := b x hx; first | lia | omega
    · refine .yes m hm (errLs_at (rest := []) h (by unfold errL; rw [k]; rfl)) (by rw [List.length_append]; simp; first | lia | omega) fun x hx => b x hx (a x hx)
    · refine .yes _ hm (errLs_at (rest := []) h (errL_lone k1 k2)) (by rw [List.length_append]; simp) fun x hx => ?_
      rw [b x hx (a x hx)]; exact lt3_irr _
  · refine .yes m hm ?_ (by rw [List.length_append]; first | lia | omega) a
    unfold errLs at h ⊢
    rw [List.findSome?_append, h]; rfl
theorem any_snoc (l : List Kd) (k : Kd) : (l ++ [k]).any isLone = (l.any isLone || isLone k) := by rw [List.any_append]; simp
theorem fs_snoc (l : List Kd) (k : Kd) : (l ++ [k]).findSome? imm = (l.findSome? imm).or (imm k) := by
  rw [List.findSome?_append]; simp [List.findSome?_cons]
  cases imm k <;> rfl
theorem InB.snoc {d : List (List Kd)} {e : List Tr} {x : Tr} (h : InB d e) (hx : x.1 = d.length + 1) : InB d (e ++ [x]) := by
  rcases h with ⟨h, a⟩ | ⟨m, hm, h, h1, a⟩
  · refine .no h fun y hy => ?_
    rcases List.mem_append.mp hy with hy | hy
    · exact a y hy
    · rw [List.mem_singleton] at hy; rw [hy]; exact hx
  · refine .yes m (List.mem_append_left _ hm) h h1 fun y hy => ?_
    rcases List.mem_append.mp hy with hy | hy
    · exact a y hy
    · rw [List.mem_singleton] at hy; rw [hy]; unfold lt3; first | lia | omega
theorem Bd.inv {d : List (List Kd)} {l : List Kd} {e : List Tr} (h : Bd d l e) : Inv3 d l e := by
  induction h with
  | start w => exact ⟨(fun x hx => by cases hx), .no rfl (fun x hx => by cases hx), .no rfl rfl (fun x hx => by cases hx)⟩
  | @new d l e h I =>
    have hl : (d ++ [l]).length = d.length + 1 := by simp
    refine ⟨fun x hx => ?_, I.last, .no rfl rfl fun x hx => ?_⟩
    · have := I.a x hx; first | lia | omega
    · have := I.a x hx; first | lia | omega
  | @good d l e h w I =>
    refine ⟨I.a, I.b, ?_⟩
    rcases I.c with ⟨k1, k2, b⟩ | ⟨m, hm, k, h1, h2, b⟩ | ⟨k1, k2, hm, b⟩
    · exact .no (by rw [fs_snoc, k1]; rfl) (by rw [any_snoc, k2]; rfl) b
    · exact .imm m hm (by rw [fs_snoc, k]; rfl) h1 (by rw [List.length_append]; first | lia | omega) b
    · exact .lone (by rw [fs_snoc, k1]; rfl) (by rw [any_snoc, k2]; rfl) hm b
  | @lone d l e h hl I =>
    have ha : ∀ x ∈ e ++ [((d.length + 1, 64, 1) : Tr)], x.1 ≤ d.length + 1 := fun x hx => by
      rcases List.mem_append.mp hx with hx | hx
      · exact I.a x hx
      · rw [List.mem_singleton] at hx; rw [hx]; exact Nat.le_refl _
    refine ⟨ha, I.b.snoc rfl, ?_⟩
    rcases I.c with ⟨k1, k2, b⟩ | ⟨m, hm, k, h1, h2, b⟩ | ⟨k1, k2, hm, b⟩
    · refine .lone (by rw [fs_snoc, k1]; rfl) (by rw [any_snoc, k2]; rfl) (by simp) fun x hx hx1 => ?_
      rcases List.mem_append.mp hx with hx | hx
      · have := b x hx; first | lia | omega
      · simpa using hx
    · refine .imm m (List.mem_append_left _ hm) (by rw [fs_snoc, k]; rfl) h1 (by rw [List.length_append]; first | lia | omega) fun x hx hx1 => ?_
      rcases List.mem_append.mp hx with hx | hx
      · exact b x hx hx1
      · rw [List.mem_singleton] at hx; rw [hx]; unfold lt3; simp only; first | lia | omega
    · refine .lone (by rw [fs_snoc, k1]; rfl) (by rw [any_snoc, k2]; rfl) (by simp) fun x hx hx1 => ?_
      rcases List.mem_append.mp hx with hx | hx
      · exact b x hx hx1
      · simpa using hx
  | @bad d l e h hl k c hk I =>
    have ha : ∀ x ∈ e ++ [((d.length + 1, l.length, c) : Tr)], x.1 ≤ d.length + 1 := fun x hx => by
      rcases List.mem_append.mp hx with hx | hx
      · exact I.a x hx
      · rw [List.mem_singleton] at hx; rw [hx]; exact Nat.le_refl _
    refine ⟨ha, I.b.snoc rfl, ?_⟩
    rcases I.c with ⟨k1, k2, b⟩ | ⟨m, hm, k, h1, h2, b⟩ | ⟨k1, k2, hm, b⟩
    · refine .imm (d.length + 1, l.length, c) (by simp) (by rw [fs_snoc, k1, hk]; rfl) rfl (by rw [List.length_append]; simp) fun x hx hx1 => ?_
      rcases List.mem_append.mp hx with hx | hx
      · have := b x hx; omega
      · rw [List.mem_singleton] at hx; rw [hx]; exact lt3_irr _
    · refine .imm m (List.mem_append_left _ hm) (by rw [fs_snoc, k]; rfl) h1 (by rw [List.length_append]; first | lia | omega) fun x hx hx1 => ?_
      rcases List.mem_append.mp hx with hx | hx
      · exact b x hx hx1
      · rw [List.mem_singleton] at hx; rw [hx]; unfold lt3; simp only; first | lia | omega
    · refine .imm (d.length + 1, l.length, c) (by simp) (by rw [fs_snoc, k1, hk]; rfl) rfl (by rw [List.length_append]; simp) fun x hx hx1 => ?_
      rcases List.mem_append.mp hx with hx | hx
      · rw [b x hx hx1]; unfold lt3; simp only; first | lia | omega
      · rw [List.mem_singleton] at hx; rw [hx]; exact lt3_irr _
theorem Bd.none {d : List (List Kd)} {l : List Kd} (h : Bd d l []) : errLs (d ++ [l]) = none := by
  rcases h.inv.last with ⟨h, _⟩ | ⟨m, hm, _⟩
  · exact h
  · cases hm
theorem Bd.some {d : List (List Kd)} {l : List Kd} {e : List Tr} (h : Bd d l e) {m : Tr} (hm : m ∈ e) (hle : ∀ x ∈ e, ¬ lt3 x m) : errLs (d ++ [l]) = Option.some (nm m.2.2) := by
  have hl : (d ++ [l]).length = d.length + 1 := by simp
  rcases h.inv.last with ⟨h', a⟩ | ⟨m', hm', h', h1, a⟩
  · have := a m hm; have := h.inv.a m hm; first | lia | omega
  · have h2 := hle m' hm'
    have h3 := a m hm
    have : m = m' := by
      obtain ⟨x, y, z⟩ := m
      obtain ⟨x', y', z'⟩ := m'
      unfold lt3 at h2 h3
      simp only at h2 h3
      have e1 : x = x' := by first | lia | omega
      have e2 : y = y' := by first | lia | omega
      have e3 : z = z' := by first | lia | omega
      rw [e1, e2, e3]
    rw [h', this]
end Mine

set_option maxRecDepth 100000
set_option Elab.async false
set_option linter.unusedVariables false
namespace Mine
open PySem PyProof.Rows PySem.W

noncomputable def goodV (z : Int) : List V := [.tup [.str (Str.ofString "a"), .none], .tup [.str (Str.ofString "b"), .str (Str.ofString "v")], .fl [.str (Str.ofString "c"), .str (Str.ofString "/")], .str (Str.ofString "de"), .tup [.int z, .str (Str.ofString "v")], .tup [.none, .str (Str.ofString "\\\"")], .tup [.str (Str.ofString ""), .str (Str.ofString "")], .tup [.bool true, .str (Str.ofString "~w")]]
noncomputable def textL (n : Nat) : List Str := [Str.ofString "a", Str.ofString "b=v", Str.ofString "c=\"/\"", Str.ofString "d=e", (⟨#[48 + n]⟩ : Str) ++ Str.ofString "=v", Str.ofString "None=\"\\\\\\\"\"", Str.ofString "=\"\"", Str.ofString "True=~w"]
noncomputable def badL (z : Int) : List V := [.tup [.int z, .none], .tup [.none, .none], .tup [.str (Str.ofString "a"), .int z], .tup [.str (Str.ofString "a"), .bytes [118].toArray], .int z, .tup [.str (Str.ofString "a")], .tup [.str (Str.ofString "a"), .str (Str.ofString "b"), .str (Str.ofString "c")], .str (Str.ofString "")]
structure Ok3 (x : V) (k : Kd) : Prop where
  ok : OkI x k
  itm : Itm x
  pl : Pl 1 x
  len : ∀ xs, x = .fl xs → xs.length ≤ 2
theorem pl0s {n : Nat} {xs : List V} (h : ∀ x ∈ xs, Pl n x) {x : V} (h' : Pl n x) : ∀ y ∈ x :: xs, Pl n y := fun y hy => by
  rcases List.mem_cons.mp hy with rfl | hy
  · exact h'
  · exact h y hy
theorem pl00 {n : Nat} : ∀ y ∈ ([] : List V), Pl n y := fun y hy => by cases hy
theorem dig_ok : ∀ n : Nat, n < 10 → Str.empty ++ ((toString (n : Int) : String) : Str) ++ Str.ofString "=" ++ valS (Str.ofString "v") = (⟨#[48 + n]⟩ : Str) ++ Str.ofString "=v" ∧ ((toString (n : Int) : String) : Str).length ≤ 100 ∧ okS ((⟨#[48 + n]⟩ : Str) ++ Str.ofString "=v") ∧ (n : Int).natAbs.log2 < 1920 ∧ (Str.ofString "0123456789").cps[n]? = some (48 + n) := by decide +kernel
theorem eq_kd {x : V} {a b : Str} (h : OkI x (.good a)) (e : a = b) : OkI x (.good b) := e ▸ h
theorem good_tab {n : Nat} (hn : n < 10) : ∀ {j : Nat}, j < 8 → ∃ x w, (goodV (n : Int))[j]? = some x ∧ (textL n)[j]? = some w ∧ Ok3 x (.good w) ∧ okS w
  | 0, _ => ⟨_, _, rfl, rfl, ⟨.one _ _ rfl (fun _ _ _ q => nomatch q) (by decide +kernel), .tup _, .tup (pl0s (pl0s pl00 .none) (.str _)), fun xs q => by cases q <;> decide⟩, by decide +kernel⟩
  | 1, _ => ⟨_, _, rfl, rfl, ⟨eq_kd (.two _ _ _ _ rfl (fun _ _ _ q => nomatch q) (.str _) (by decide +kernel) (by decide +kernel)) (by decide +kernel), .tup _, .tup (pl0s (pl0s pl00 (.str _)) (.str _)), fun xs q => by cases q <;> decide⟩, by decide +kernel⟩
  | 2, _ => ⟨_, _, rfl, rfl, ⟨eq_kd (.two _ _ _ _ rfl (fun _ _ _ q => nomatch q) (.str _) (by decide +kernel) (by decide +kernel)) (by decide +kernel), .fl _, .fl (pl0s (pl0s pl00 (.str _)) (.str _)), fun xs q => by cases q <;> decide⟩, by decide +kernel⟩
  | 3, _ => ⟨_, _, rfl, rfl, ⟨eq_kd (.two _ (.str ⟨#[100]⟩) ⟨#[100]⟩ ⟨#[101]⟩ rfl (fun _ _ _ q => nomatch q) (.str _) (by decide +kernel) (by decide +kernel)) (by decide +kernel), .str _, .str _, fun xs q => by cases q <;> decide⟩, by decide +kernel⟩
  | 4, _ => ⟨_, _, rfl, rfl, ⟨eq_kd (.two _ _ _ _ rfl (fun _ _ _ q => nomatch q) (.int _ (dig_ok n hn).2.2.2.1) (dig_ok n hn).2.1 (by decide +kernel)) (dig_ok n hn).1, .tup _, .tup (pl0s (pl0s pl00 (.str _)) (.int _)), fun xs q => by cases q <;> decide⟩, (dig_ok n hn).2.2.1⟩
  | 5, _ => ⟨_, _, rfl, rfl, ⟨eq_kd (.two _ _ _ _ rfl (fun _ _ _ q => nomatch q) .none (by decide +kernel) (by decide +kernel)) (by decide +kernel), .tup _, .tup (pl0s (pl0s pl00 (.str _)) .none), fun xs q => by cases q <;> decide⟩, by decide +kernel⟩
  | 6, _ => ⟨_, _, rfl, rfl, ⟨eq_kd (.two _ _ _ _ rfl (fun _ _ _ q => nomatch q) (.str _) (by decide +kernel) (by decide +kernel)) (by decide +kernel), .tup _, .tup (pl0s (pl0s pl00 (.str _)) (.str _)), fun xs q => by cases q <;> decide⟩, by decide +kernel⟩
  | 7, _ => ⟨_, _, rfl, rfl, ⟨eq_kd (.two _ _ _ _ rfl (fun _ _ _ q => nomatch q) .tru (by decide +kernel) (by decide +kernel)) (by decide +kernel), .tup _, .tup (pl0s (pl0s pl00 (.str _)) (.bool _)), fun xs q => by cases q <;> decide⟩, by decide +kernel⟩
  | j + 8, h => absurd h (by first | lia | omega)
theorem bad_tab {n : Nat} : ∀ {j : Nat}, j < 8 → ∃ x k, (badL (n : Int))[j]? = some x ∧ Ok3 x k ∧ ((j < 2 ∧ k = .lone) ∨ (2 ≤ j ∧ imm k = some (nm (if j < 5 then 1 else 0))))
  | 0, _ => ⟨_, _, rfl, ⟨.loneI _ _ rfl (fun _ _ _ q => nomatch q), .tup _, .tup (pl0s (pl0s pl00 .none) (.int _)), fun xs q => by cases q <;> decide⟩, .inl ⟨by decide, rfl⟩⟩
  | 1, _ => ⟨_, _, rfl, ⟨.loneN _ rfl (fun _ _ _ q => nomatch q), .tup _, .tup (pl0s (pl0s pl00 .none) .none), fun xs q => by cases q <;> decide⟩, .inl ⟨by decide, rfl⟩⟩
  | 2, _ => ⟨_, _, rfl, ⟨.vint _ _ _ rfl (fun _ _ _ q => nomatch q), .tup _, .tup (pl0s (pl0s pl00 (.int _)) (.str _)), fun xs q => by cases q <;> decide⟩, .inr ⟨by decide, rfl⟩⟩
  | 3, _ => ⟨_, _, rfl, ⟨.vbytes _ _ _ rfl (fun _ _ _ q => nomatch q), .tup _, .tup (pl0s (pl0s pl00 (.bytes _)) (.str _)), fun xs q => by cases q <;> decide⟩, .inr ⟨by decide, rfl⟩⟩
  | 4, _ => ⟨_, _, rfl, ⟨.num _, .int _, .int _, fun xs q => by cases q <;> decide⟩, .inr ⟨by decide, rfl⟩⟩
  | 5, _ => ⟨_, _, rfl, ⟨.few _ _ rfl (fun _ _ _ q => nomatch q) (by decide), .tup _, .tup (pl0s pl00 (.str _)), fun xs q => by cases q <;> decide⟩, .inr ⟨by decide, rfl⟩⟩
  | 6, _ => ⟨_, _, rfl, ⟨.many _ _ _ _ _ rfl (fun _ _ _ q => nomatch q), .tup _, .tup (pl0s (pl0s (pl0s pl00 (.str _)) (.str _)) (.str _)), fun xs q => by cases q <;> decide⟩, .inr ⟨by decide, rfl⟩⟩
  | 7, _ => ⟨_, _, rfl, ⟨.few _ _ rfl (fun _ _ _ q => nomatch q) (by decide), .str _, .str _, fun xs q => by cases q <;> decide⟩, .inr ⟨by decide, rfl⟩⟩
  | j + 8, h => absurd h (by first | lia | omega)
noncomputable abbrev Itms := List (V × Kd)
structure LI (n : Nat) (d : List Itms) (l : Itms) (e : List Tr) (pd : List (List Str)) (pl : List Str) : Prop where
  bd : Bd (d.map kds) (kds l) e
  ok : ∀ ps ∈ d ++ [l], ps.length ≤ n + 1 ∧ ∀ p ∈ ps, Ok3 p.1 p.2
  ld : d.length ≤ n
  le : e.length ≤ n
  lp : pd.length ≤ n
  ll : ∀ ts ∈ pd ++ [pl], ts.length ≤ n + 1 ∧ ∀ w ∈ ts, okS w
  pt : e = [] → pd ++ [pl] = (d ++ [l]).map fun ps => (kds ps).map wordK
  c1 : ∀ x ∈ e, x.2.2 ≤ 1
theorem LI.start : LI 0 [] [(.tup [.str (Str.ofString "x"), .none], .good (Str.ofString "x"))] [] [] [Str.ofString "x"] where
  bd := .start _
  ok ps hps := by
    rw [List.nil_append, List.mem_singleton] at hps; subst hps
    refine ⟨Nat.le_refl _, fun p hp => ?_⟩
    rw [List.mem_singleton] at hp; subst hp
    exact ⟨.one _ _ rfl (fun _ _ _ q => nomatch q) (by decide +kernel), .tup _, .tup (pl0s (pl0s pl00 .none) (.str _)), fun xs q => by cases q <;> decide⟩
  ld := Nat.le_refl _
  le := Nat.le_refl _
  lp := Nat.le_refl _
  ll ts hts := by
    rw [List.nil_append, List.mem_singleton] at hts; subst hts
    refine ⟨Nat.le_refl _, fun w hw => ?_⟩
    rw [List.mem_singleton] at hw; subst hw; decide +kernel
  pt _ := rfl
  c1 x hx := by cases hx
section
variable {n : Nat} {d : List Itms} {l : Itms} {e : List Tr} {pd : List (List Str)} {pl : List Str}
theorem mem_grow {α : Type} {P Q : List α → Prop} {d : List (List α)} {l l' : List α} (h : ∀ x ∈ d ++ [l], P x) (h1 : ∀ x, P x → Q x) (h2 : P l → Q l') : ∀ x ∈ d ++ [l'], Q x := fun x hx => by
  rcases List.mem_append.mp hx with m | m
  · exact h1 x (h x (List.mem_append_left _ m))
  · rw [List.mem_singleton] at m; subst m; exact h2 (h l (by simp))
theorem LI.new (h : LI n d l e pd pl) : LI (n + 1) (d ++ [l]) [] e (pd ++ [pl]) [] where
  bd := by rw [List.map_append]; exact .new h.bd
  ok ps hps := by
    rcases List.mem_append.mp hps with m | m
    · exact ⟨Nat.le_succ_of_le (h.ok ps m).1, (h.ok ps m).2⟩
    · rw [List.mem_singleton] at m; subst m; exact ⟨Nat.zero_le _, fun p hp => by cases hp⟩
  ld := by rw [List.length_append]; exact Nat.succ_le_succ h.ld
  le := Nat.le_succ_of_le h.le
  lp := by rw [List.length_append]; exact Nat.succ_le_succ h.lp
  ll ps hps := by
    rcases List.mem_append.mp hps with m | m
    · exact ⟨Nat.le_succ_of_le (h.ll ps m).1, (h.ll ps m).2⟩
    · rw [List.mem_singleton] at m; subst m; exact ⟨Nat.zero_le _, fun p hp => by cases hp⟩
  pt he := by rw [h.pt he, List.map_append (l₁ := d ++ [l])]; rfl
  c1 := h.c1
theorem LI.good {x : V} {w : Str} (h : LI n d l e pd pl) (hx : Ok3 x (.good w)) (hw : okS w) : LI (n + 1) d (l ++ [(x, .good w)]) e pd (pl ++ [w]) where
  bd := by rw [kds, List.map_append]; exact .good h.bd w
  ok := mem_grow h.ok (fun ps q => ⟨Nat.le_succ_of_le q.1, q.2⟩) fun q => ⟨by rw [List.length_append]; exact Nat.succ_le_succ q.1, fun p hp => by
    rcases List.mem_append.mp hp with m | m
    · exact q.2 p m
    · rw [List.mem_singleton] at m; subst m; exact hx⟩
  ld := Nat.le_succ_of_le h.ld
  le := Nat.le_succ_of_le h.le
  lp := Nat.le_succ_of_le h.lp
  ll := mem_grow h.ll (fun ps q => ⟨Nat.le_succ_of_le q.1, q.2⟩) fun q => ⟨by rw [List.length_append]; exact Nat.succ_le_succ q.1, fun p hp => by
    rcases List.mem_append.mp hp with m | m
    · exact q.2 p m
    · rw [List.mem_singleton] at m; subst m; exact hw⟩
  pt he := by
    have := h.pt he
    rw [List.map_append, List.map_cons, List.map_nil] at this ⊢
    obtain ⟨h1, h2⟩ := List.append_inj' this rfl
    rw [h1, (List.cons.inj h2).1]; simp [kds, wordK]
  c1 := h.c1
theorem LI.bad {x : V} {k : Kd} {p c : Nat} (h : LI n d l e pd pl) (hn : n ≤ 62) (hx : Ok3 x k) (hc : c ≤ 1) (hk : (k = .lone ∧ p = 64 ∧ c = 1) ∨ (imm k = some (nm c) ∧ p = l.length)) : LI (n + 1) d (l ++ [(x, k)]) (e ++ [(d.length + 1, p, c)]) pd pl where
  bd := by
    have hl : (kds l).length < 64 := by
      have := (h.ok l (by simp)).1
      rw [kds, List.length_map]; first | lia | omega
    rw [kds, List.map_append]
    rcases hk with ⟨rfl, rfl, rfl⟩ | ⟨hk, rfl⟩
    · have := Bd.lone h.bd hl
      rwa [List.length_map] at this
    · have := Bd.bad h.bd hl c hk
      rwa [List.length_map, kds, List.length_map] at this
  ok := mem_grow h.ok (fun ps q => ⟨Nat.le_succ_of_le q.1, q.2⟩) fun q => ⟨by rw [List.length_append]; exact Nat.succ_le_succ q.1, fun p hp => by
    rcases List.mem_append.mp hp with m | m
    · exact q.2 p m
    · rw [List.mem_singleton] at m; subst m; exact hx⟩
  ld := Nat.le_succ_of_le h.ld
  le := by rw [List.length_append]; exact Nat.succ_le_succ h.le
  lp := Nat.le_succ_of_le h.lp
  ll ts hts := ⟨Nat.le_succ_of_le (h.ll ts hts).1, (h.ll ts hts).2⟩
  pt he := by simp at he
  c1 y hy := by
    rcases List.mem_append.mp hy with m | m
    · exact h.c1 y m
    · rw [List.mem_singleton] at m; subst m; exact hc
end
theorem Pl.fz {n : Nat} : ∀ {v : V}, Pl n v → ∀ a xs, v.fz a xs = v := by
  induction n with
  | zero => intro v h a xs; cases h <;> simp [V.fz]
  | succ n ih =>
    intro v h a xs
    cases h with
    | @tup _ ys h =>
      simp only [V.fz, V.fzs_eq]
      congr 1
      conv => rhs; rw [← List.map_id ys]
      exact List.map_congr_left fun y hy => ih (h y hy) a xs
    | @fl _ ys h =>
      simp only [V.fz, V.fzs_eq]
      congr 1
      conv => rhs; rw [← List.map_id ys]
      exact List.map_congr_left fun y hy => ih (h y hy) a xs
    | _ => simp [V.fz]
theorem Pl.fzs {n : Nat} {ys : List V} (h : ∀ y ∈ ys, Pl n y) (a : Addr) (xs : List V) : V.fzs a xs ys = ys := by
  rw [V.fzs_eq]
  conv => rhs; rw [← List.map_id ys]
  exact List.map_congr_left fun y hy => (h y hy).fz a xs
theorem itsV_pl {ps : Itms} (h : ∀ p ∈ ps, Ok3 p.1 p.2) : Pl 2 (itsV ps) := .fl fun x hx => by
  obtain ⟨p, hp, rfl⟩ := List.mem_map.mp hx; exact (h p hp).pl
noncomputable abbrev txV (ts : List Str) : V := .fl (ts.map V.str)
theorem txV_pl (ts : List Str) : Pl 1 (txV ts) := .fl fun x hx => by
  obtain ⟨p, hp, rfl⟩ := List.mem_map.mp hx; exact .str _
end Mine

set_option maxRecDepth 100000
set_option Elab.async false
set_option linter.unusedVariables false
namespace Mine
open PySem PyProof.Rows PySem.Builtin.Re PySem.W

structure LG (G : Gl) (tokP escP cj tP fj : Addr) : Prop where
  j : JG G tokP escP cj tP
  gj : G.mg (Str.ofString "join_header_words") = some (.ref fj)
  fj : Fn G fj (Str.ofString "join_header_words") [(Str.ofString "lists")] (fnBody PW 4) (fnScope PW 4) (.ref cj)
  len : G.mg (Str.ofString "len") = none ∧ G.mb (Str.ofString "len") = some (.builtin "len")
  min : G.mg (Str.ofString "min") = none ∧ G.mb (Str.ofString "min") = some (.builtin "min")
  isi : G.mg (Str.ofString "isinstance") = none ∧ G.mb (Str.ofString "isinstance") = some (.builtin "isinstance")
  lst : G.mg (Str.ofString "list") = none ∧ G.mb (Str.ofString "list") = some (.type "list")
  vE : G.mg (Str.ofString "ValueError") = none ∧ G.mb (Str.ofString "ValueError") = some (.type "ValueError")
  tE : G.mg (Str.ofString "TypeError") = none ∧ G.mb (Str.ofString "TypeError") = some (.type "TypeError")
theorem LG.ok {G : Gl} {tokP escP cj tP fj : Addr} (X : LG G tokP escP cj tP fj) : GlOk G := X.j.ok
noncomputable abbrev lawenv (L f : Addr) (cd : Value) : Env := envOf (Str.ofString "law") (fnScope PW 6) L f cd
noncomputable abbrev loc3 (O P E : Addr) : List (Str × V) := [((Str.ofString "lists"), .list O), ((Str.ofString "parts"), .list P), ((Str.ofString "errors"), .list E)]
noncomputable abbrev trV (e : List Tr) : List V := (e.map trI).map tupI
noncomputable abbrev mk3 (O P E I J : Addr) (d : List Itms) (l : Itms) (e : List Tr) (pd : List (List Str)) (pl : List Str) : St :=
  ⟨loc3 O P E, [(I, l.map (·.1)), (O, d.map itsV ++ [.list I]), (J, pl.map V.str), (P, pd.map txV ++ [.list J]), (E, trV e)]⟩
theorem trV_pl (e : List Tr) : ∀ x ∈ trV e, Pl 1 x := fun x hx => by
  obtain ⟨t', ht, rfl⟩ := List.mem_map.mp hx
  exact .tup fun y hy => by obtain ⟨i, _, rfl⟩ := List.mem_map.mp hy; exact .int _
theorem txs_pl (pd : List (List Str)) : ∀ x ∈ pd.map txV, Pl 1 x := fun x hx => by
  obtain ⟨t, _, rfl⟩ := List.mem_map.mp hx; exact txV_pl t
theorem strs_pl (ts : List Str) : ∀ x ∈ ts.map V.str, Pl 0 x := fun x hx => by
  obtain ⟨t, _, rfl⟩ := List.mem_map.mp hx; exact .str t
theorem itss_pl {d : List Itms} (h : ∀ ps ∈ d, ∀ p ∈ ps, Ok3 p.1 p.2) : ∀ x ∈ d.map itsV, Pl 2 x := fun x hx => by
  obtain ⟨ps, hp, rfl⟩ := List.mem_map.mp hx; exact itsV_pl (h ps hp)
theorem fzs_snoc {n : Nat} {D : List V} (h : ∀ x ∈ D, Pl n x) {a b : Addr} (hab : b ≠ a) (xs : List V) : V.fzs a xs (D ++ [.list b]) = D ++ [.list b] := by
  rw [V.fzs_eq, List.map_append, ← V.fzs_eq, Pl.fzs h]
  simp [V.fz, hab]
theorem its_snoc (d : List Itms) (l : Itms) : d.map itsV ++ [V.fl (l.map (·.1))] = (d ++ [l]).map itsV := by simp [itsV]
theorem tx_snoc (pd : List (List Str)) (pl : List Str) : pd.map txV ++ [V.fl (pl.map V.str)] = (pd ++ [pl]).map txV := by simp [txV]
theorem loc3_fz {O P E I : Addr} (h1 : O ≠ I) (h2 : P ≠ I) (h3 : E ≠ I) : ∀ p ∈ loc3 O P E, ∀ xs, p.2.fz I xs = p.2 := by
  intro p hp xs
  simp only [List.mem_cons, List.mem_nil_iff, or_false] at hp
  rcases hp with rfl | rfl | rfl <;> simp [V.fz, h1, h2, h3]
section
variable {G : Gl} {A : Around} {L f : Addr} {cd : Value} {tokP escP cj tP fj : Addr}
theorem exs_nd3 {env : Env} {st : St} {ss : List Stmt} {Q : Fl → St → Prop} (h : (st.ar.map (·.1)).Nodup → Exs G A env ss st Q) : Exs G A env ss st Q := ⟨fun K Z s S => (h S.nd).run K Z s S⟩
theorem ev_same {env : Env} {st : St} {ex : Expr} {v : V} {Q : V → St → Prop} (h : Ev G A env ex st fun v' st₁ => v' = v ∧ st₁ = st) (q : Q v st) : Ev G A env ex st Q := h.mono fun v' st₁ hq => by obtain ⟨rfl, rfl⟩ := hq; exact q
theorem ent_perm {l : List (Str × V)} {ar ar₀ : List (Addr × List V)} (h : ar₀.Perm ar) : Ent G L ⟨l, ar⟩ ⟨l, ar₀⟩ :=
  ent_less (fun _ _ h => h) (fun p hp => h.mem_iff.mp hp) fun hn => (h.map _).nodup_iff.mpr hn
set_option maxHeartbeats 4000000 in
theorem law_loop (X : LG G tokP escP cj tP fj) (R : Room A 8) {O P E I J : Addr} (ns : List Int) (hn : ns.length ≤ 63) (t : Expr) (body : List Stmt)
    (ht : ∃ i1 p3, (fnBody PW 6)[3]? = some (.For t i1 body [] p3)) {Q : Fl → St → Prop}
    (hQ : ∀ I J d l e pd pl, LI 63 d l e pd pl → Q .next (mk3 O P E I J d l e pd pl)) :
    ForT G A (lawenv L f cd) t body [] (ns.map V.int) (mk3 O P E I J [] [(.tup [.str (Str.ofString "x"), .none], .good (Str.ofString "x"))] [] [] [(Str.ofString "x")]) Q := by
  obtain ⟨i1, p3, ht⟩ := ht
  cases ht
  refine for_inv V.int (fun dn st => ∃ I J d l e pd pl, LI dn.length d l e pd pl ∧ st = mk3 O P E I J d l e pd pl) ns ⟨I, J, _, _, _, _, _, .start, rfl⟩ ?_ ?_
  rotate_left
  · rintro st ⟨I, J, d, l, e, pd, pl, h, rfl⟩
    refine exs_nil (hQ I J d l e pd pl ?_)
    exact { h with
      ok := fun ps hps => ⟨Nat.le_trans (h.ok ps hps).1 (Nat.succ_le_succ hn), (h.ok ps hps).2⟩
      ld := Nat.le_trans h.ld hn
      le := Nat.le_trans h.le hn
      lp := Nat.le_trans h.lp hn
      ll := fun ps hps => ⟨Nat.le_trans (h.ll ps hps).1 (Nat.succ_le_succ hn), (h.ll ps hps).2⟩ }
  rintro dn x rest st he ⟨I, J, d, l, e, pd, pl, h, rfl⟩
  have hdn : dn.length ≤ 62 := by
    rw [he, List.length_append, List.length_cons] at hn; first | lia | omega
  have hld : d.length ≤ 62 := Nat.le_trans h.ld hdn
  have hll : l.length ≤ 63 := Nat.le_trans (h.ok l (by simp)).1 (Nat.succ_le_succ hdn)
  have hpd : pd.length ≤ 62 := Nat.le_trans h.lp hdn
  have hpl : pl.length ≤ 63 := Nat.le_trans (h.ll pl (by simp)).1 (Nat.succ_le_succ hdn)
  have hel : e.length ≤ 62 := Nat.le_trans h.le hdn
  have hlen1 : (dn ++ [x]).length = dn.length + 1 := by simp
  rw [hlen1]
  refine asg_name rfl rfl ?_
  refine exs_cons ?_
  refine ex_assign rfl rfl rfl ?_
  refine ev_bin ?_
  refine ev_local rfl rfl rfl rfl ?_
  refine ev_int ?_
  refine op_mod (by decide) ?_
  refine exs_cons ?_
  refine ex_assign rfl rfl rfl ?_
  refine ev_bin ?_
  refine ev_bin ?_
  refine ev_local rfl rfl rfl rfl ?_
  refine ev_int ?_
  refine op_div (by decide) (by decide) ?_
  refine ev_int ?_
  refine op_mod (by decide) ?_
  have hk : 0 ≤ x % 25 ∧ x % 25 < 25 := ⟨Int.emod_nonneg _ (by decide), Int.emod_lt_of_pos _ (by decide)⟩
  have hz : 0 ≤ x / 25 % 10 ∧ x / 25 % 10 < 10 := ⟨Int.emod_nonneg _ (by decide), Int.emod_lt_of_pos _ (by decide)⟩
  obtain ⟨k, hk'⟩ := Int.eq_ofNat_of_zero_le hk.1
  obtain ⟨z, hz'⟩ := Int.eq_ofNat_of_zero_le hz.1
  rw [hk', hz']
  have hk2 : k < 25 := by have := hk.2; rw [hk'] at this; exact Int.ofNat_lt.mp this
  have hz2 : z < 10 := by have := hz.2; rw [hz'] at this; exact Int.ofNat_lt.mp this
  clear hk hz hk' hz' he hn
  refine exs_nd3 fun hnd => ?_
  have hnd : [I, O, J, P, E].Nodup := hnd
  simp only [List.nodup_cons, List.mem_cons, not_or, List.not_mem_nil, not_false_eq_true, and_true] at hnd
  obtain ⟨⟨hIO, hIJ, hIP, hIE⟩, ⟨hOJ, hOP, hOE⟩, ⟨hJP, hJE⟩, hPE, -⟩ := hnd
  have okd : ∀ ps ∈ d, ∀ p ∈ ps, Ok3 p.1 p.2 := fun ps hps => (h.ok ps (List.mem_append_left _ hps)).2
  have okl : ∀ p ∈ l, Ok3 p.1 p.2 := (h.ok l (by simp)).2
  refine exs_cons ?_
  refine ex_if ?_
  refine tst_cmp rfl ?_
  refine ev_local rfl rfl rfl rfl ?_
  refine ev_int ?_
  refine op_eqi ⟨_, rfl, ?_⟩
  by_cases k0 : k = 0
  · refine ite_pos (by subst k0; rfl) ?_
    clear hk2 hz2 k0
    refine exs_cons ?_
    refine ex_expr rfl rfl ?_
    refine ev_meth rfl rfl rfl rfl rfl ?_
    refine ev_local rfl rfl rfl rfl ?_
    refine ⟨_, _, mf_append, ty_list (.tail _ (.head _)), ?_⟩
    refine evs_cons rfl ?_
    refine ev_list ?_
    refine evs_nil ?_
    refine ⟨by simp, fun N hN => ?_⟩
    have hNI : N ≠ I := Ne.symm (hN _ (.head _))
    have hNO : N ≠ O := Ne.symm (hN _ (.tail _ (.head _)))
    have hNJ : N ≠ J := Ne.symm (hN _ (.tail _ (.tail _ (.head _))))
    have hNP : N ≠ P := Ne.symm (hN _ (.tail _ (.tail _ (.tail _ (.head _)))))
    have hNE : N ≠ E := Ne.symm (hN _ (.tail _ (.tail _ (.tail _ (.tail _ (.head _))))))
    clear hN
    refine evs_nil ?_
    refine cb_append (.tail _ (.tail _ (.head _))) (by rw [List.length_append, List.length_map]; show _ + 1 ≤ _; exact Nat.lt_of_le_of_lt (by assumption) (by decide)) ⟨rfl, ?_⟩
    refine Exs.ent (Ent.trans (ent_loc (l₀ := loc3 O P E) (.cons rfl (.cons rfl (.cons rfl .nil)))) (Ent.trans (nst_ent (loc := loc3 O P E) hIO hNI hNO (loc3_fz (Ne.symm hIO) (Ne.symm hIP) (Ne.symm hIE)) (fun xs => Pl.fzs (itss_pl okd) I xs) (ar := [(J, pl.map V.str), (P, pd.map txV ++ [.list J]), (E, trV e)]) ?_) (ent_perm (ar₀ := [(J, pl.map V.str), (P, pd.map txV ++ [.list J]), (E, trV e)] ++ [(N, []), (O, d.map itsV ++ [.fl (l.map (·.1))] ++ [.list N])]) List.perm_append_comm))) ?_
    · intro p hp
      simp only [List.mem_cons, List.mem_nil_iff, or_false] at hp
      rcases hp with rfl | rfl | rfl
      · exact ⟨Ne.symm hIJ, fun xs => Pl.fzs (strs_pl pl) I xs⟩
      · exact ⟨Ne.symm hIP, fun xs => fzs_snoc (txs_pl pd) (Ne.symm hIJ) xs⟩
      · exact ⟨Ne.symm hIE, fun xs => Pl.fzs (trV_pl e) I xs⟩
    refine exs_cons ?_
    refine ex_expr rfl rfl ?_
    refine ev_meth rfl rfl rfl rfl rfl ?_
    refine ev_local rfl rfl rfl rfl ?_
    refine ⟨_, _, mf_append, ty_list (.tail _ (.head _)), ?_⟩
    refine evs_cons rfl ?_
    refine ev_list ?_
    refine evs_nil ?_
    refine ⟨by simp, fun M hM => ?_⟩
    have hMJ : M ≠ J := Ne.symm (hM _ (.head _))
    have hMP : M ≠ P := Ne.symm (hM _ (.tail _ (.head _)))
    clear hM
    refine evs_nil ?_
    refine cb_append (.tail _ (.tail _ (.head _))) (by rw [List.length_append, List.length_map]; show _ + 1 ≤ _; exact Nat.lt_of_le_of_lt (by assumption) (by decide)) ⟨rfl, ?_⟩
    refine exs_nil ?_
    refine exs_nil ?_
    refine ⟨_, Ent.trans (nst_ent (loc := loc3 O P E) (ar := [(E, trV e), (N, []), (O, d.map itsV ++ [.fl (l.map (·.1))] ++ [.list N])]) hJP hMJ hMP (loc3_fz hOJ (Ne.symm hJP) (Ne.symm hJE)) (fun xs => Pl.fzs (txs_pl pd) J xs) ?_) (ent_perm (ar₀ := [(N, []), (O, d.map itsV ++ [.fl (l.map (·.1))] ++ [.list N])] ++ [(M, []), (P, pd.map txV ++ [.fl (pl.map V.str)] ++ [.list M]), (E, trV e)]) List.perm_append_comm), N, M, d ++ [l], [], e, pd ++ [pl], [], h.new, ?_⟩
    · intro p hp
      simp only [List.mem_cons, List.mem_nil_iff, or_false] at hp
      rcases hp with rfl | rfl | rfl
      · exact ⟨Ne.symm hJE, fun xs => Pl.fzs (trV_pl e) J xs⟩
      · exact ⟨hNJ, fun xs => rfl⟩
      · refine ⟨hOJ, fun xs => ?_⟩
        rw [its_snoc]
        exact fzs_snoc (itss_pl (d := d ++ [l]) fun ps hps => (h.ok ps hps).2) hNJ xs
    · rw [its_snoc, tx_snoc]; rfl
  · refine ite_neg (by simpa using k0) ?_
    refine exs_cons ?_
    refine ex_if ?_
    refine tst_cmp rfl ?_
    refine ev_local rfl rfl rfl rfl ?_
    refine ev_int ?_
    refine op_lti ⟨_, rfl, ?_⟩
    by_cases k1 : k < 17
    · refine ite_pos (by simp; first | lia | omega) ?_
      have hj : (k - 1) % 8 < 8 := Nat.mod_lt _ (by decide)
      obtain ⟨xx, w, hg, htx, hok, hw⟩ := good_tab hz2 hj
      have hidx : ((k : Int) - 1) % 8 = (((k - 1) % 8 : Nat) : Int) := by first | lia | omega
      have hdig := (dig_ok z hz2).2.2.2.2
      clear hz2 hj k1 k0 hk2
      refine exs_cons ?_
      refine ex_assign rfl rfl rfl ?_
      refine ev_listf ?_
      refine evs_cons rfl ?_
      refine ev_tuple ?_
      refine evs_cons rfl ?_
      refine ev_str ?_
      refine evs_cons rfl ?_
      refine ev_none ?_
      refine evs_nil ?_
      refine ⟨by simp, ?_⟩
      refine evs_cons rfl ?_
      refine ev_tuple ?_
      refine evs_cons rfl ?_
      refine ev_str ?_
      refine evs_cons rfl ?_
      refine ev_str ?_
      refine evs_nil ?_
      refine ⟨by simp, ?_⟩
      refine evs_cons rfl ?_
      refine ev_listf ?_
      refine evs_cons rfl ?_
      refine ev_str ?_
      refine evs_cons rfl ?_
      refine ev_str ?_
      refine evs_nil ?_
      refine ⟨by simp, ?_⟩
      refine evs_cons rfl ?_
      refine ev_str ?_
      refine evs_cons rfl ?_
      refine ev_tuple ?_
      refine evs_cons rfl ?_
      refine ev_local rfl rfl rfl rfl ?_
      refine evs_cons rfl ?_
      refine ev_str ?_
      refine evs_nil ?_
      refine ⟨by simp, ?_⟩
      refine evs_cons rfl ?_
      refine ev_tuple ?_
      refine evs_cons rfl ?_
      refine ev_none ?_
      refine evs_cons rfl ?_
      refine ev_str ?_
      refine evs_nil ?_
      refine ⟨by simp, ?_⟩
      refine evs_cons rfl ?_
      refine ev_tuple ?_
      refine evs_cons rfl ?_
      refine ev_str ?_
      refine evs_cons rfl ?_
      refine ev_str ?_
      refine evs_nil ?_
      refine ⟨by simp, ?_⟩
      refine evs_cons rfl ?_
      refine ev_tuple ?_
      refine evs_cons rfl ?_
      refine ev_bool ?_
      refine evs_cons rfl ?_
      refine ev_str ?_
      refine evs_nil ?_
      refine ⟨by simp, ?_⟩
      refine evs_nil ?_
      refine ⟨by simp, ?_⟩
      refine exs_cons ?_
      refine ex_assign rfl rfl rfl ?_
      refine ev_listf ?_
      refine evs_cons rfl ?_
      refine ev_str ?_
      refine evs_cons rfl ?_
      refine ev_str ?_
      refine evs_cons rfl ?_
      refine ev_str ?_
      refine evs_cons rfl ?_
      refine ev_str ?_
      refine evs_cons rfl ?_
      refine ev_bin ?_
      refine ev_subs ?_
      refine ev_str ?_
      refine ev_local rfl rfl rfl rfl ?_
      refine sub_str (c := 48 + z) (fun _ _ => rfl) (Int.natCast_nonneg _) (by rw [Int.toNat_natCast]; exact hdig) (by decide) ?_
      refine ev_str ?_
      refine op_add_str (by show 1 + _ ≤ _; decide +kernel) ?_
      refine evs_cons rfl ?_
      refine ev_str ?_
      refine evs_cons rfl ?_
      refine ev_str ?_
      refine evs_cons rfl ?_
      refine ev_str ?_
      refine evs_nil ?_
      refine ⟨by simp, ?_⟩
      refine exs_cons ?_
      refine ex_expr rfl rfl ?_
      refine ev_meth rfl rfl rfl rfl rfl ?_
      refine ev_lasto ?_
      refine ev_local rfl rfl rfl rfl ?_
      refine ⟨O, _, _, rfl, .tail _ (.head _), _, _, mf_append, ty_list (.head _), ?_⟩
      refine evs_cons rfl ?_
      refine ev_subs ?_
      refine ev_local rfl rfl rfl rfl ?_
      refine ev_bin ?_
      refine ev_bin ?_
      refine ev_local rfl rfl rfl rfl ?_
      refine ev_int ?_
      refine op_subi ?_
      refine ev_int ?_
      refine op_mod (by decide) ?_
      rw [hidx]
      refine sub_flN (fun _ _ => rfl) (show (8 : Nat) ≤ 1000000 by decide) hg ?_
      refine evs_nil ?_
      refine cb_append (.head _) (by rw [List.length_map]; exact Nat.le_trans hll (by decide)) ⟨rfl, ?_⟩
      refine Exs.ent (ent_set (l₀ := loc3 O P E ++ [((Str.ofString "kind"), .int (k : Int)), ((Str.ofString "texts"), .fl ((textL z).map V.str))]) (ar₀ := [(I, (l ++ [(xx, Kd.good w)] : Itms).map (·.1)), (O, d.map itsV ++ [.list I]), (J, pl.map V.str), (P, pd.map txV ++ [.list J]), (E, trV e)]) (by show setA I _ [(I, _), (O, _), (J, _), (P, _), (E, _)] = _; simp [setA, hIO, hIJ, hIP, hIE, Ne.symm hIO, Ne.symm hIJ, Ne.symm hIP, Ne.symm hIE]) (.cons rfl (.cons rfl (.cons rfl (.cons rfl (.cons rfl .nil)))))) ?_
      refine exs_cons ?_
      refine ex_expr rfl rfl ?_
      refine ev_meth rfl rfl rfl rfl rfl ?_
      refine ev_lasto ?_
      refine ev_local rfl rfl rfl rfl ?_
      refine ⟨P, _, _, rfl, .tail _ (.tail _ (.tail _ (.head _))), _, _, mf_append, ty_list (.tail _ (.tail _ (.head _))), ?_⟩
      refine evs_cons rfl ?_
      refine ev_subs ?_
      refine ev_local rfl rfl rfl rfl ?_
      refine ev_bin ?_
      refine ev_bin ?_
      refine ev_local rfl rfl rfl rfl ?_
      refine ev_int ?_
      refine op_subi ?_
      refine ev_int ?_
      refine op_mod (by decide) ?_
      rw [hidx]
      refine sub_flN (fun _ _ => rfl) (by rw [List.length_map]; exact (show (8 : Nat) ≤ 1000000 by decide)) (v := .str w) (by rw [List.getElem?_map, htx]; rfl) ?_
      refine evs_nil ?_
      refine cb_append (.tail _ (.tail _ (.head _))) (by rw [List.length_map]; exact Nat.le_trans hpl (by decide)) ⟨rfl, ?_⟩
      refine exs_nil ?_
      refine exs_nil ?_
      refine exs_nil ?_
      refine ⟨mk3 O P E I J d (l ++ [(xx, Kd.good w)]) e pd (pl ++ [w]), ent_set (by simp [setA, hIJ, hOJ, hJP, hJE, Ne.symm hOJ, Ne.symm hIJ, Ne.symm hJP, Ne.symm hJE]) (.cons rfl (.cons rfl (.cons rfl .nil))), I, J, d, _, e, pd, _, h.good hok hw, rfl⟩
    · refine ite_neg (by simp; first | lia | omega) ?_
      have hj : k - 17 < 8 := by first | lia | omega
      obtain ⟨xx, kd, hg, hok, hkd⟩ := bad_tab (n := z) hj
      have hidx : (k : Int) - 17 = ((k - 17 : Nat) : Int) := by first | lia | omega
      clear hz2 hj k0
      refine exs_cons ?_
      refine ex_assign rfl rfl rfl ?_
      refine ev_listf ?_
      refine evs_cons rfl ?_
      refine ev_tuple ?_
      refine evs_cons rfl ?_
      refine ev_local rfl rfl rfl rfl ?_
      refine evs_cons rfl ?_
      refine ev_none ?_
      refine evs_nil ?_
      refine ⟨by simp, ?_⟩
      refine evs_cons rfl ?_
      refine ev_tuple ?_
      refine evs_cons rfl ?_
      refine ev_none ?_
      refine evs_cons rfl ?_
      refine ev_none ?_
      refine evs_nil ?_
      refine ⟨by simp, ?_⟩
      refine evs_cons rfl ?_
      refine ev_tuple ?_
      refine evs_cons rfl ?_
      refine ev_str ?_
      refine evs_cons rfl ?_
      refine ev_local rfl rfl rfl rfl ?_
      refine evs_nil ?_
      refine ⟨by simp, ?_⟩
      refine evs_cons rfl ?_
      refine ev_tuple ?_
      refine evs_cons rfl ?_
      refine ev_str ?_
      refine evs_cons rfl (ev_bytes ?_)
      refine evs_nil ?_
      refine ⟨by simp, ?_⟩
      refine evs_cons rfl ?_
      refine ev_local rfl rfl rfl rfl ?_
      refine evs_cons rfl ?_
      refine ev_tuple ?_
      refine evs_cons rfl ?_
      refine ev_str ?_
      refine evs_nil ?_
      refine ⟨by simp, ?_⟩
      refine evs_cons rfl ?_
      refine ev_tuple ?_
      refine evs_cons rfl ?_
      refine ev_str ?_
      refine evs_cons rfl ?_
      refine ev_str ?_
      refine evs_cons rfl ?_
      refine ev_str ?_
      refine evs_nil ?_
      refine ⟨by simp, ?_⟩
      refine evs_cons rfl ?_
      refine ev_str ?_
      refine evs_nil ?_
      refine ⟨by simp, ?_⟩
      refine exs_cons ?_
      refine ex_expr rfl rfl ?_
      refine ev_meth rfl rfl rfl rfl rfl ?_
      refine ev_local rfl rfl rfl rfl ?_
      refine ⟨_, _, mf_append, ty_list (.tail _ (.tail _ (.tail _ (.tail _ (.head _))))), ?_⟩
      refine evs_cons rfl ?_
      refine ev_tuple ?_
      refine evs_cons rfl ?_
      refine ev_bcall (id := "len") rfl rfl ?_
      refine ev_builtin X.ok rfl rfl rfl rfl rfl X.len.1 X.len.2 ?_
      refine ⟨rfl, ?_⟩
      refine evs_cons rfl ?_
      refine ev_local rfl rfl rfl rfl ?_
      refine evs_nil ?_
      refine cb_len_list (.tail _ (.head _)) (by rw [List.length_append, List.length_map]; show _ + 1 ≤ _; exact Nat.lt_of_le_of_lt (by assumption) (by decide)) ?_
      have hl1 : ((d.map itsV ++ [V.list I]).length : Int) = ((d.length + 1 : Nat) : Int) := by rw [List.length_append, List.length_map]; rfl
      rw [hl1]
      refine evs_cons rfl ?_
      refine ev_same (v := .int ((if k < 19 then 64 else l.length : Nat) : Int)) ?_ ?_
      rotate_left
      · refine evs_cons rfl ?_
        refine ev_same (v := .int ((if k < 22 then 1 else 0 : Nat) : Int)) ?_ ?_
        rotate_left
        · refine evs_nil ?_
          refine ⟨by simp, ?_⟩
          refine evs_nil ?_
          refine cb_append (.tail _ (.tail _ (.tail _ (.tail _ (.head _))))) (by rw [List.length_map, List.length_map]; exact Nat.le_trans hel (by decide)) ⟨rfl, ?_⟩
          refine Exs.ent (ent_set (l₀ := loc3 O P E ++ [((Str.ofString "kind"), .int (k : Int)), ((Str.ofString "bad"), .fl (badL (z : Int)))]) (ar₀ := [(I, l.map (·.1)), (O, d.map itsV ++ [.list I]), (J, pl.map V.str), (P, pd.map txV ++ [.list J]), (E, trV (e ++ [(d.length + 1, if k < 19 then 64 else l.length, if k < 22 then 1 else 0)]))]) (by show setA E _ [(I, _), (O, _), (J, _), (P, _), (E, _)] = _; simp [setA, hIE, hOE, hJE, hPE] <;> rfl) (.cons rfl (.cons rfl (.cons rfl (.cons rfl (.cons rfl .nil)))))) ?_
          refine exs_cons ?_
          refine ex_expr rfl rfl ?_
          refine ev_meth rfl rfl rfl rfl rfl ?_
          refine ev_lasto ?_
          refine ev_local rfl rfl rfl rfl ?_
          refine ⟨O, _, _, rfl, .tail _ (.head _), _, _, mf_append, ty_list (.head _), ?_⟩
          refine evs_cons rfl ?_
          refine ev_subs ?_
          refine ev_local rfl rfl rfl rfl ?_
          refine ev_bin ?_
          refine ev_local rfl rfl rfl rfl ?_
          refine ev_int ?_
          refine op_subi ?_
          rw [hidx]
          refine sub_flN (fun _ _ => rfl) (show (8 : Nat) ≤ 1000000 by decide) hg ?_
          refine evs_nil ?_
          refine cb_append (.head _) (by rw [List.length_map]; exact Nat.le_trans hll (by decide)) ⟨rfl, ?_⟩
          refine exs_nil ?_
          refine exs_nil ?_
          refine exs_nil ?_
          refine ⟨mk3 O P E I J d (l ++ [(xx, kd)]) (e ++ [(d.length + 1, if k < 19 then 64 else l.length, if k < 22 then 1 else 0)]) pd pl, ent_set (by simp [setA, hIO, hIJ, hIP, hIE, Ne.symm hIO, Ne.symm hIJ, Ne.symm hIP, Ne.symm hIE]) (.cons rfl (.cons rfl (.cons rfl .nil))), I, J, d, _, _, pd, pl, h.bad hdn hok (by split <;> decide) ?_, rfl⟩
          rcases hkd with ⟨h1, rfl⟩ | ⟨h1, h2⟩
          · exact .inl ⟨rfl, if_pos (by first | exact Nat.le_trans (by assumption) (by decide) | first | lia | omega), if_pos (by first | exact Nat.le_trans (by assumption) (by decide) | first | lia | omega)⟩
          · refine .inr ⟨?_, if_neg (by first | exact Nat.le_trans (by assumption) (by decide) | first | lia | omega)⟩
            rw [h2]
            by_cases k2 : k < 22
            · rw [if_pos (by first | exact Nat.le_trans (by assumption) (by decide) | first | lia | omega), if_pos k2]
            · rw [if_neg (by first | exact Nat.le_trans (by assumption) (by decide) | first | lia | omega), if_neg k2]
        · refine ev_ite ?_
          refine tst_cmp rfl ?_
          refine ev_local rfl rfl rfl rfl ?_
          refine ev_int ?_
          refine op_lti ⟨_, rfl, ?_⟩
          by_cases k2 : k < 22
          · refine ite_pos (by simp; first | lia | omega) ?_
            refine ev_int ?_
            exact ⟨by rw [if_pos k2]; rfl, rfl⟩
          · refine ite_neg (by simp; first | lia | omega) ?_
            refine ev_int ?_
            exact ⟨by rw [if_neg k2]; rfl, rfl⟩
      · refine ev_ite ?_
        refine tst_cmp rfl ?_
        refine ev_local rfl rfl rfl rfl ?_
        refine ev_int ?_
        refine op_lti ⟨_, rfl, ?_⟩
        by_cases k2 : k < 19
        · refine ite_pos (by simp; first | lia | omega) ?_
          refine ev_int ?_
          exact ⟨by rw [if_pos k2]; rfl, rfl⟩
        · refine ite_neg (by simp; first | lia | omega) ?_
          refine ev_bcall (id := "len") rfl rfl ?_
          refine ev_builtin X.ok rfl rfl rfl rfl rfl X.len.1 X.len.2 ?_
          refine ⟨rfl, ?_⟩
          refine evs_cons rfl ?_
          refine ev_lasto ?_
          refine ev_local rfl rfl rfl rfl ?_
          refine ⟨O, _, _, rfl, .tail _ (.head _), ?_⟩
          refine evs_nil ?_
          refine cb_len_list (.head _) (by rw [List.length_map]; exact Nat.le_trans hll (by decide)) ?_
          exact ⟨by rw [if_neg k2, List.length_map], rfl⟩
end
end Mine

set_option maxRecDepth 100000
set_option Elab.async false
set_option linter.unusedVariables false
namespace Mine
open PySem PyProof.Rows PySem.Builtin.Re PySem.W

theorem ExsX.mono {G : Gl} {A : Around} {env : Env} {outer : List Env} {X : String → Prop} {ss : List Stmt} {st : St} {Q Q' : Fl → St → Prop} (h : ExsX G A env outer X ss st Q) (hQ : ∀ fl st', Q fl st' → Q' fl st') : ExsX G A env outer X ss st Q' :=
  ⟨fun K Z s hK S => h.run.use hK S fun Z' v st' w s' z S' r q => ⟨Z', v, st', z, S', r, hQ _ _ q⟩⟩
theorem op2_mono {G : Gl} {A : Around} {L : Addr} {st : St} {t : Value → Value → Sem Value} {a b : V} {Q Q' : V → St → Prop} (h : Op2 G A L t a b st Q) (hQ : ∀ v st', Q v st' → Q' v st') : Op2 G A L t a b st Q' :=
  ⟨fun K Z w u s S r1 r2 => wpAny_mono (h.run K Z w u s S r1 r2) (fun _ s' hm => by obtain ⟨Z', v, st', z, S', r, q⟩ := hm; exact ⟨Z', v, st', z, S', r, hQ _ _ q⟩) fun _ _ x => x⟩
section
variable {G : Gl} {A : Around} {L f : Addr} {cd : Value} {tokP escP cj tP fj : Addr}
theorem calls_joinX {env : Env} (X : LG G tokP escP cj tP fj) (R : Room A 5) (H : Here A env []) (ls : List Itms) (hls : ls.length ≤ 100) (ok : ∀ ps ∈ ls, ps.length ≤ 100 ∧ ∀ p ∈ ps, OkI p.1 p.2) :
    CallsX G A env (fun c => errLs (ls.map kds) = some c) fj [lls ls] fun v => errLs (ls.map kds) = none ∧ v = .str (joinK (ls.map kds)) :=
  fn_callX H X.ok X.fj (by have := R.dp; exact Nat.lt_of_le_of_lt (Nat.le_add_right _ _) (by assumption)) rfl fun L' HH => (join_bodyX X.j ((R.less (by decide)).deeper _) HH ls hls ok).mono fun fl st' hq => by
    obtain ⟨h1, rfl⟩ := hq; exact ⟨h1, rfl⟩
theorem frz3 {O P E I J : Addr} {d : List Itms} {l : Itms} {e : List Tr} {pd : List (List Str)} {pl : List Str} (ok : ∀ ps ∈ d ++ [l], ∀ p ∈ ps, Ok3 p.1 p.2) :
    Ent G L (mk3 O P E I J d l e pd pl) ⟨[((Str.ofString "lists"), lls (d ++ [l])), ((Str.ofString "parts"), .fl ((pd ++ [pl]).map txV)), ((Str.ofString "errors"), .fl (trV e))], []⟩ := fun K Z s S => by
  have hnd : [I, O, J, P, E].Nodup := S.nd
  simp only [List.nodup_cons, List.mem_cons, not_or, List.not_mem_nil, not_false_eq_true, and_true] at hnd
  obtain ⟨⟨hIO, hIJ, hIP, hIE⟩, ⟨hOJ, hOP, hOE⟩, ⟨hJP, hJE⟩, hPE, -⟩ := hnd
  have okd : ∀ ps ∈ d, ∀ p ∈ ps, Ok3 p.1 p.2 := fun ps hps => ok ps (List.mem_append_left _ hps)
  have hls : Pl 3 (lls (d ++ [l])) := .fl (itss_pl ok)
  have e1 : Ent G L (mk3 O P E I J d l e pd pl) ⟨((Str.ofString "lists"), lls (d ++ [l])) :: [((Str.ofString "parts"), .list P), ((Str.ofString "errors"), .list E)], [(J, pl.map V.str), (P, pd.map txV ++ [.list J]), (E, trV e)]⟩ := by
    have := nst_fin (G := G) (L := L) (x := (Str.ofString "lists")) (loc := [((Str.ofString "parts"), .list P), ((Str.ofString "errors"), .list E)]) (I := I) (O := O) (last := l.map (·.1)) (done := d.map itsV) (ar := [(J, pl.map V.str), (P, pd.map txV ++ [.list J]), (E, trV e)]) hIO
      (fun p hp xs => by
        simp only [List.mem_cons, List.mem_nil_iff, or_false] at hp
        rcases hp with rfl | rfl <;> simp [V.fz, Ne.symm hIP, Ne.symm hIE, Ne.symm hOP, Ne.symm hOE])
      (fun xs => Pl.fzs (itss_pl okd) I xs)
      (fun p hp => by
        simp only [List.mem_cons, List.mem_nil_iff, or_false] at hp
        rcases hp with rfl | rfl | rfl
        · exact ⟨Ne.symm hIJ, Ne.symm hOJ, fun xs => ⟨Pl.fzs (strs_pl pl) _ xs, Pl.fzs (strs_pl pl) _ xs⟩⟩
        · exact ⟨Ne.symm hIP, Ne.symm hOP, fun xs => ⟨fzs_snoc (txs_pl pd) (Ne.symm hIJ) xs, fzs_snoc (txs_pl pd) (Ne.symm hOJ) xs⟩⟩
        · exact ⟨Ne.symm hIE, Ne.symm hOE, fun xs => ⟨Pl.fzs (trV_pl e) _ xs, Pl.fzs (trV_pl e) _ xs⟩⟩)
    rw [its_snoc] at this
    exact this
  have e2 : Ent G L ⟨((Str.ofString "lists"), lls (d ++ [l])) :: [((Str.ofString "parts"), .list P), ((Str.ofString "errors"), .list E)], [(J, pl.map V.str), (P, pd.map txV ++ [.list J]), (E, trV e)]⟩ ⟨((Str.ofString "parts"), .list P) :: [((Str.ofString "lists"), lls (d ++ [l])), ((Str.ofString "errors"), .list E)], [(J, pl.map V.str), (P, pd.map txV ++ [.list J]), (E, trV e)]⟩ := ent_loc (.cons rfl (.cons rfl (.cons rfl .nil)))
  have e3 : Ent G L ⟨((Str.ofString "parts"), .list P) :: [((Str.ofString "lists"), lls (d ++ [l])), ((Str.ofString "errors"), .list E)], [(J, pl.map V.str), (P, pd.map txV ++ [.list J]), (E, trV e)]⟩ ⟨((Str.ofString "parts"), .fl ((pd ++ [pl]).map txV)) :: [((Str.ofString "lists"), lls (d ++ [l])), ((Str.ofString "errors"), .list E)], [(E, trV e)]⟩ := by
    have := nst_fin (G := G) (L := L) (x := (Str.ofString "parts")) (loc := [((Str.ofString "lists"), lls (d ++ [l])), ((Str.ofString "errors"), .list E)]) (I := J) (O := P) (last := pl.map V.str) (done := pd.map txV) (ar := [(E, trV e)]) hJP
      (fun p hp xs => by
        simp only [List.mem_cons, List.mem_nil_iff, or_false] at hp
        rcases hp with rfl | rfl
        · exact ⟨hls.fz _ xs, hls.fz _ xs⟩
        · simp [V.fz, Ne.symm hJE, Ne.symm hPE])
      (fun xs => Pl.fzs (txs_pl pd) J xs)
      (fun p hp => by
        simp only [List.mem_cons, List.mem_nil_iff, or_false] at hp
        subst hp
        exact ⟨Ne.symm hJE, Ne.symm hPE, fun xs => ⟨Pl.fzs (trV_pl e) _ xs, Pl.fzs (trV_pl e) _ xs⟩⟩)
    rw [tx_snoc] at this
    exact this
  have e4 : Ent G L ⟨((Str.ofString "parts"), .fl ((pd ++ [pl]).map txV)) :: [((Str.ofString "lists"), lls (d ++ [l])), ((Str.ofString "errors"), .list E)], [(E, trV e)]⟩ ⟨[((Str.ofString "lists"), lls (d ++ [l])), ((Str.ofString "parts"), .fl ((pd ++ [pl]).map txV)), ((Str.ofString "errors"), .fl (trV e))], []⟩ := by
    refine Ent.trans (Ent.freeze (a := E) (xs := trV e) (.head _)) ?_
    have hp : Pl 2 (V.fl ((pd ++ [pl]).map txV)) := .fl (txs_pl _)
    have : St.fz ⟨((Str.ofString "parts"), .fl ((pd ++ [pl]).map txV)) :: [((Str.ofString "lists"), lls (d ++ [l])), ((Str.ofString "errors"), .list E)], [(E, trV e)]⟩ E (trV e) = ⟨((Str.ofString "parts"), .fl ((pd ++ [pl]).map txV)) :: [((Str.ofString "lists"), lls (d ++ [l])), ((Str.ofString "errors"), .fl (trV e))], []⟩ := by
      simp only [St.fz, List.map_cons, List.map_nil, hp.fz, hls.fz, fz_self]
      rw [List.filter_cons_of_neg (by simp)]; rfl
    rw [this]
    exact ent_loc (.cons rfl (.cons rfl (.cons rfl .nil)))
  exact (e1.trans (e2.trans (e3.trans e4))) K Z s S
inductive TD (o : Option String) (t : Str) : V → Prop
  | said (h : o = none) : TD o t (.str t)
  | val (h : o = some "ValueError") : TD o t (.int 0)
  | typ (h : o = some "TypeError") : TD o t (.int 1)
theorem errLs_two : ∀ {ls : List (List Kd)} {c : String}, errLs ls = some c → c = "ValueError" ∨ c = "TypeError" := fun {ls c} h => by
  obtain ⟨ks, _, hk⟩ := List.exists_of_findSome?_eq_some h
  unfold errL at hk
  cases hf : ks.findSome? imm with
  | none =>
    rw [hf] at hk
    split at hk
    · cases hk; exact .inr rfl
    · cases hk
  | some c' =>
    rw [hf] at hk
    cases hk
    obtain ⟨k, _, hk'⟩ := List.exists_of_findSome?_eq_some hf
    cases k with
    | badT => cases hk'; exact .inr rfl
    | badV => cases hk'; exact .inl rfl
    | _ => cases hk'
structure Fin3 (ls : List Itms) (e : List Tr) (tss : List (List Str)) : Prop where
  ok : ∀ ps ∈ ls, ps.length ≤ 64 ∧ ∀ p ∈ ps, Ok3 p.1 p.2
  ll : ls.length ≤ 64
  lt : tss.length ≤ 64
  le : e.length ≤ 63
  tx : ∀ ts ∈ tss, ∀ w ∈ ts, okS w
  no : e = [] → errLs (ls.map kds) = none ∧ tss = ls.map fun ps => (kds ps).map wordK
  yes : ∀ m ∈ e, (∀ x ∈ e, ¬ lt3 x m) → errLs (ls.map kds) = some (nm m.2.2) ∧ m.2.2 ≤ 1
theorem LI.fin {d : List Itms} {l : Itms} {e : List Tr} {pd : List (List Str)} {pl : List Str} (h : LI 63 d l e pd pl) : Fin3 (d ++ [l]) e (pd ++ [pl]) where
  ok := h.ok
  ll := by rw [List.length_append]; exact Nat.succ_le_succ h.ld
  lt := by rw [List.length_append]; exact Nat.succ_le_succ h.lp
  le := h.le
  tx ts hts := (h.ll ts hts).2
  no he := by
    refine ⟨?_, h.pt he⟩
    have := h.bd
    rw [he] at this
    rw [List.map_append]; exact this.none
  yes m hm hle := ⟨by rw [List.map_append]; exact h.bd.some hm hle, h.c1 m hm⟩
noncomputable abbrev trD (x : Tr) : PyData := .tuple [.int x.1, .int x.2.1, .int x.2.2]
theorem tr_pys (e : List Tr) : V.pys (trV e) = some (e.map trD) := by
  rw [trV, List.map_map]
  exact pys_map (fun x => tupI (trI x)) trD (fun x => by simp [V.py, V.pys]) e
theorem tr_lay (e : List Tr) : PyData.canLayAll0 (e.map trD) = true := lay_map trD e fun x _ => by simp [PyData.canLay0, PyData.canLayAll0]
theorem tx_lay {ts : List Str} (h : ∀ w ∈ ts, okS w) : PyData.canLayAll0 (ts.map PyData.str) = true := lay_map PyData.str ts fun w hw => by simpa [PyData.canLay0] using h w hw
theorem joins_eq (ls : List Itms) : ((ls.map fun ps => (kds ps).map wordK).filter fun ts => !ts.isEmpty).map (Str.join (Str.ofString "; ")) = headsK (ls.map kds) := by
  unfold headsK
  rw [List.filter_map, List.filter_map, List.map_map, List.map_map]
  have : ((fun ts : List Str => !ts.isEmpty) ∘ fun ps : Itms => (kds ps).map wordK) = ((fun ps : List Kd => !ps.isEmpty) ∘ kds) := by
    funext ps
    cases ps <;> rfl
  rw [this]; rfl
set_option maxHeartbeats 4000000 in
theorem law_tail (X : LG G tokP escP cj tP fj) (R : Room A 8) (HH : Here A (lawenv L f cd) []) {ls : List Itms} {e : List Tr} {tss : List (List Str)} (F : Fin3 ls e tss) :
    Exs G A (lawenv L f cd) ((fnBody PW 6).drop 4) ⟨[((Str.ofString "lists"), lls ls), ((Str.ofString "parts"), .fl (tss.map txV)), ((Str.ofString "errors"), .fl (trV e))], []⟩ fun fl st' => fl = .ret (.bool true) := by
  have hll := F.ll
  have hun := R.un
  refine exs_cons ?_
  refine ex_compf itsV (fun _ => true) itsV ls rfl rfl rfl R.hd (cl := []) rfl (by decide) rfl (by decide) (fun _ => rfl) (Nat.le_trans hll (by decide)) ?_
  refine ev_local rfl rfl rfl rfl ?_
  refine ⟨_, _, EntV.refl, rfl, fun C D ps hps ys => ?_, ?_⟩
  · refine asg_name rfl rfl (ifs_nil ⟨rfl, ?_⟩)
    rw [if_pos rfl]
    refine ev_compf (fun p : V × Kd => p.1) (fun _ => true) (fun p => p.1) ps R.hd (cl := []) rfl (by decide) rfl (by decide) (fun _ => rfl) (Nat.le_trans (F.ok ps hps).1 (by decide)) ?_
    refine ev_local rfl rfl rfl rfl ?_
    refine ⟨_, _, EntV.refl, rfl, fun C' D' p hp ys' => ?_, ?_⟩
    · refine asg_name rfl rfl (ifs_nil ⟨rfl, ?_⟩)
      rw [if_pos rfl]
      have hok := (F.ok ps hps).2 p hp
      refine ev_ite ?_
      refine tst_plain (fun _ => rfl) ?_
      refine ev_bcall (id := "isinstance") rfl rfl ?_
      refine ev_builtin X.ok rfl rfl rfl rfl rfl X.isi.1 X.isi.2 ?_
      refine ⟨rfl, ?_⟩
      refine evs_cons rfl ?_
      refine ev_local rfl rfl rfl rfl ?_
      refine evs_cons rfl ?_
      refine ev_builtin X.ok rfl rfl rfl rfl rfl X.lst.1 X.lst.2 ?_
      refine evs_nil ?_
      refine cb_isil hok.itm ?_
      refine tru_bool ?_
      cases hq : isL p.1 with
      | true =>
        refine ite_pos rfl ?_
        obtain ⟨xs, hxs⟩ : ∃ xs, p.1 = .fl xs := by
          have := hok.itm
          generalize p.1 = v at *
          cases this with
          | fl xs => exact ⟨xs, rfl⟩
          | _ => cases hq
        have hxl := hok.len xs hxs
        rw [hxs]
        refine ev_tcall (T := "list") rfl rfl ?_
        refine ev_builtin X.ok rfl rfl rfl rfl rfl X.lst.1 X.lst.2 ?_
        refine ⟨rfl, ?_⟩
        refine evs_cons rfl ?_
        refine ev_local rfl rfl rfl rfl ?_
        refine evs_nil ?_
        exact ct_list Ls.fl (Nat.le_trans hxl (by decide)) ⟨rfl, rfl⟩
      | false =>
        refine ite_neg (by decide) ?_
        refine ev_local rfl rfl rfl rfl ?_
        exact ⟨rfl, rfl⟩
    · refine ⟨?_, rfl⟩
      rw [filt_all]
  rw [filt_all]
  refine Exs.ent (st₀ := ⟨[((Str.ofString "lists"), lls ls), ((Str.ofString "parts"), .fl (tss.map txV)), ((Str.ofString "errors"), .fl (trV e)), ((Str.ofString "kept"), lls ls)], []⟩) (ent_set rfl (.cons rfl (.cons rfl (.cons rfl (.cons rfl .nil))))) ?_
  refine exs_mid (fun st₁ => ∃ v, TD (errLs (ls.map kds)) (joinK (ls.map kds)) v ∧ st₁ = ⟨[((Str.ofString "lists"), lls ls), ((Str.ofString "parts"), .fl (tss.map txV)), ((Str.ofString "errors"), .fl (trV e)), ((Str.ofString "kept"), lls ls), ((Str.ofString "told"), v)], []⟩) ?_ ?_
  · refine ex_try2 (X := fun c => errLs (ls.map kds) = some c) (Qv := fun v => errLs (ls.map kds) = none ∧ v = .str (joinK (ls.map kds))) HH X.ok rfl rfl rfl rfl rfl X.vE X.tE rfl rfl (fun c hc => errLs_two hc) ?_ ?_ ?_ ?_
    · refine evY_call X.fj.isf rfl rfl ?_ ?_
      · refine ev_global X.ok rfl rfl rfl rfl X.gj ?_
        exact ⟨rfl, rfl⟩
      · refine evs_cons rfl ?_
        refine ev_local rfl rfl rfl rfl ?_
        refine evs_nil ?_
        exact ⟨rfl, calls_joinX X (R.less (by decide)) HH ls (Nat.le_trans hll (by decide)) fun ps hps => ⟨Nat.le_trans (F.ok ps hps).1 (by decide), fun p hp => ((F.ok ps hps).2 p hp).ok⟩⟩
    · rintro v ⟨h1, rfl⟩
      exact ⟨rfl, _, .said h1, rfl⟩
    · intro hx m
      refine exs_cons ?_
      refine ex_assign rfl rfl rfl ?_
      refine ev_int ?_
      exact exs_nil ⟨rfl, _, .val hx, rfl⟩
    · intro hx m
      refine exs_cons ?_
      refine ex_assign rfl rfl rfl ?_
      refine ev_int ?_
      exact exs_nil ⟨rfl, _, .typ hx, rfl⟩
  · rintro st ⟨v, htd, rfl⟩
    refine exs_mid (fun st₁ => st₁ = ⟨[((Str.ofString "lists"), lls ls), ((Str.ofString "parts"), .fl (tss.map txV)), ((Str.ofString "errors"), .fl (trV e)), ((Str.ofString "kept"), lls ls), ((Str.ofString "told"), v), ((Str.ofString "due"), v)], []⟩) ?_ ?_
    · refine ex_assign rfl rfl rfl ?_
      refine ev_ite ?_
      refine tst_cmp rfl ?_
      refine ev_local rfl rfl rfl rfl ?_
      refine ev_listf ?_
      refine evs_nil ?_
      refine ⟨by simp, ?_⟩
      refine op_ne_nilf (tr_pys e) (tr_lay e) (by show A.units + 1 < _; first | lia | omega) ⟨_, rfl, ?_⟩
      by_cases he : e = []
      · subst he
        refine ite_neg (by decide) ?_
        obtain ⟨hno, rfl⟩ := F.no rfl
        have hv : v = .str (joinK (ls.map kds)) := by
          cases htd with
          | said _ => rfl
          | val h => rw [hno] at h; cases h
          | typ h => rw [hno] at h; cases h
        subst hv
        have hw : ∀ ps ∈ ls, ∀ k ∈ kds ps, (wordK k).length ≤ 1000 := fun ps hps k hk => by
          obtain ⟨p, hp, rfl⟩ := List.mem_map.mp hk
          exact wk_len ((F.ok ps hps).2 p hp).ok
        have hkl : ∀ ps ∈ ls, (kds ps).length ≤ 64 := fun ps hps => by rw [kds, List.length_map]; exact (F.ok ps hps).1
        refine ev_meth rfl rfl rfl rfl rfl ?_
        refine ev_str ?_
        refine ⟨_, _, mf_join, ty_str, ?_⟩
        refine evs_cons rfl ?_
        refine ev_compf txV (fun ts => !ts.isEmpty) (fun ts => V.str (Str.join (Str.ofString "; ") ts)) (ls.map fun ps => (kds ps).map wordK) R.hd (cl := []) rfl (by decide) rfl (by decide) (fun _ => rfl) (by rw [List.length_map]; exact Nat.le_trans hll (by decide)) ?_
        refine ev_local rfl rfl rfl rfl ?_
        refine ⟨_, _, EntV.refl, rfl, fun C D ts hts ys => ?_, ?_⟩
        · refine asg_name rfl rfl (ifs_one ?_)
          refine tst_cmp rfl ?_
          refine ev_local rfl rfl rfl rfl ?_
          refine ev_listf ?_
          refine evs_nil ?_
          refine ⟨by simp, ?_⟩
          refine op_ne_nilf (pys_map V.str PyData.str (fun _ => by simp [V.py]) ts) (tx_lay (F.tx ts hts)) (by show A.units + 1 < _; omega) ⟨_, rfl, ?_⟩
          refine ⟨by cases ts <;> rfl, ?_⟩
          split
          · refine ev_meth rfl rfl rfl rfl rfl ?_
            refine ev_str ?_
            refine ⟨_, _, mf_join, ty_str, ?_⟩
            refine evs_cons rfl ?_
            refine ev_local rfl rfl rfl rfl ?_
            refine evs_nil ?_
            refine cb_join_fl ?_ ⟨rfl, rfl⟩
            obtain ⟨ps, hps, rfl⟩ := List.mem_map.mp hts
            exact Nat.le_trans (headK_sum (hw ps hps)) (Nat.le_trans (Nat.mul_le_mul_left 1002 (hkl ps hps)) (by decide))
          · rfl
        · refine evs_nil ?_
          rw [show (((ls.map fun ps => (kds ps).map wordK).filter fun ts => !ts.isEmpty).map fun ts => V.str (Str.join (Str.ofString "; ") ts)) = (headsK (ls.map kds)).map V.str by rw [← joins_eq, List.map_map]; rfl]
          refine cb_join_fl (Nat.le_trans (joinK_sum fun ks hk => ?_) (Nat.le_trans (Nat.mul_le_mul_left 100202 (show (ls.map kds).length ≤ 100 by rw [List.length_map]; exact Nat.le_trans hll (by decide))) (by decide))) ⟨rfl, rfl⟩
          obtain ⟨ps, hps, rfl⟩ := List.mem_map.mp hk
          exact ⟨Nat.le_trans (hkl ps hps) (by decide), hw ps hps⟩
      · refine ite_pos (by cases e with | nil => exact absurd rfl he | cons _ _ => rfl) ?_
        refine ev_subs ?_
        refine ev_bcall (id := "min") rfl rfl ?_
        refine ev_builtin X.ok rfl rfl rfl rfl rfl X.min.1 X.min.2 ?_
        refine ⟨rfl, ?_⟩
        refine evs_cons rfl ?_
        refine ev_local rfl rfl rfl rfl ?_
        refine evs_nil ?_
        refine cb_mint (n := 3) R.hd (by show A.units + 1 < _; omega) (by simpa using he) (fun x hx => by obtain ⟨t, _, rfl⟩ := List.mem_map.mp hx; rfl) fun m hm hle => ?_
        obtain ⟨t, ht, rfl⟩ := List.mem_map.mp hm
        obtain ⟨h1, h2⟩ := F.yes t ht fun x hx hlt => by
          have := hle _ (List.mem_map_of_mem hx)
          rw [(lexI_tr x t).mpr hlt] at this; cases this
        have hv : v = .int (t.2.2 : Int) := by
          have h3 : t.2.2 = 0 ∨ t.2.2 = 1 := by first | lia | omega
          rcases h3 with h3 | h3 <;> rw [h3] at h1 ⊢ <;> cases htd with
          | said h => rw [h] at h1; cases h1
          | val h => rw [h] at h1; first | rfl | exact absurd h1 (by decide +kernel)
          | typ h => rw [h] at h1; first | rfl | exact absurd h1 (by decide +kernel)
        subst hv
        refine ev_int ?_
        refine sub_tup (j := 2) (fun _ _ => rfl) (by decide) (by decide) rfl rfl ?_
        exact ⟨rfl, rfl⟩
    · rintro st rfl
      refine exs_cons ?_
      refine ex_ret ?_
      refine ev_and ?_
      refine ev_cmp rfl ?_
      refine ev_local rfl rfl rfl rfl ?_
      refine ev_local rfl rfl rfl rfl ?_
      have hself : Op2 G A (lawenv L f cd).locals (compareOp .Eq) v v ⟨[((Str.ofString "lists"), lls ls), ((Str.ofString "parts"), .fl (tss.map txV)), ((Str.ofString "errors"), .fl (trV e)), ((Str.ofString "kept"), lls ls), ((Str.ofString "told"), v), ((Str.ofString "due"), v)], []⟩ fun w st₁ => w = .bool true ∧ st₁ = ⟨[((Str.ofString "lists"), lls ls), ((Str.ofString "parts"), .fl (tss.map txV)), ((Str.ofString "errors"), .fl (trV e)), ((Str.ofString "kept"), lls ls), ((Str.ofString "told"), v), ((Str.ofString "due"), v)], []⟩ := by
        cases htd with
        | said _ => exact op_eqs ⟨by simp, rfl⟩
        | val _ => exact op_eqi ⟨rfl, rfl⟩
        | typ _ => exact op_eqi ⟨rfl, rfl⟩
      refine op2_mono hself fun w st₁ hq => ?_
      obtain ⟨rfl, rfl⟩ := hq
      refine tru_bool ?_
      refine ite_pos rfl ?_
      refine ev_bool_one ?_
      refine ev_cmp rfl ?_
      refine ev_local rfl rfl rfl rfl ?_
      refine ev_local rfl rfl rfl rfl ?_
      exact op_eqsame (n := 2) (itss_pl fun ps hps => (F.ok ps hps).2) (by show A.units + 1 + 2 ≤ _; first | lia | omega) rfl
set_option maxHeartbeats 4000000 in
theorem law_body (X : LG G tokP escP cj tP fj) (R : Room A 8) (hfr : A.frames = some [lawenv L f cd]) (ns : List Int) (hn : ns.length ≤ 63) :
    Exs G A (lawenv L f cd) (fnBody PW 6) ⟨[((Str.ofString "script"), intsV ns)], []⟩ fun fl st' => fl = .ret (.bool true) := by
  have HH : Here A (lawenv L f cd) [] := ⟨hfr, rfl, (by show ScopeKind.function ≠ .module; decide)⟩
  refine exs_cons ?_
  refine ex_assign rfl rfl rfl ?_
  refine ev_list ?_
  refine evs_cons rfl (ev_list ?_)
  refine evs_cons rfl ?_
  refine ev_tuple ?_
  refine evs_cons rfl ?_
  refine ev_str ?_
  refine evs_cons rfl ?_
  refine ev_none ?_
  refine evs_nil ?_
  refine ⟨by simp, ?_⟩
  refine evs_nil ?_
  refine ⟨by simp, fun I hI => ?_⟩
  refine evs_nil ?_
  refine ⟨by simp, fun O hO => ?_⟩
  refine exs_cons ?_
  refine ex_assign rfl rfl rfl ?_
  refine ev_list ?_
  refine evs_cons rfl (ev_list ?_)
  refine evs_cons rfl ?_
  refine ev_str ?_
  refine evs_nil ?_
  refine ⟨by simp, fun J hJ => ?_⟩
  refine evs_nil ?_
  refine ⟨by simp, fun P hP => ?_⟩
  refine exs_cons ?_
  refine ex_assign rfl rfl rfl ?_
  refine ev_list ?_
  refine evs_nil ?_
  refine ⟨by simp, fun E hE => ?_⟩
  refine exs_cons ?_
  refine ex_for R.hd (fun _ => rfl) ?_
  refine ev_local rfl rfl rfl rfl ?_
  refine ⟨intsV ns, _, _, EntV.refl, rfl, ?_⟩
  refine ForT.ent (st₀ := mk3 O P E I J [] [(.tup [.str (Str.ofString "x"), .none], .good (Str.ofString "x"))] [] [] [(Str.ofString "x")]) (Ent.trans (ent_loc (l₀ := loc3 O P E) (.cons rfl (.cons rfl (.cons rfl .nil)))) (ent_perm (List.reverse_perm [(E, ([] : List V)), (P, [V.list J]), (J, [V.str (Str.ofString "x")]), (O, [V.list I]), (I, [V.tup [.str (Str.ofString "x"), .none]])]))) ?_
  refine law_loop X R ns hn _ _ ⟨_, _, rfl⟩ fun I J d l e pd pl h => ?_
  exact (law_tail X R HH h.fin).ent (frz3 fun ps hps => (h.ok ps hps).2)
end
end Mine

open PySem PySem.W PyProof.Rows
set_option Elab.async false
theorem Mine.lg_of {G : Mine.Gl} {tokP escP cj tP fj : Addr} (O : Mine.GlOk G) (h : Mine.GlOk G → Mine.LG G tokP escP cj tP fj) : Mine.LG G tokP escP cj tP fj := h O
theorem Mine.one_of {ws : List Value} (h : ws.length = 1) : ∃ w, ws = [w] := List.length_eq_one_iff.mp h
noncomputable def Mine.PostL (base : Heap) (os : OsState) (tabs : List Mine.Tab) (f : Flow) (s' : Shared) : Prop := f = .ret (.bool true) ∧ (∀ b o, base.get? b = some o → s'.heap.get? b = some o) ∧ s'.os = os ∧ s'.gens = #[] ∧ ∀ t ∈ tabs, ∃ ps, s'.heap.get? t.P = some (tabObj ps)
structure Mine.Imp (P Q : Flow → Shared → Prop) : Prop where
  run : ∀ f s', P f s' → Q f s'
theorem Mine.law_run6 {prog : Program} {w : World} {base : Heap} {os : OsState} {mg mb : Str → Option Value} {tabs : List Mine.Tab} {p : Program} {loose : List Str} {mean : ExcName → Option Value} {A : Around} {env : Env} {body : List Stmt} {st : Mine.St} {s : Shared} {Q : Flow → Shared → Prop} {E : Value → Shared → Prop}
    (T : Top p loose mean mg mb base) (S : Mine.Sim ⟨prog, w, base, os, mg, mb, tabs, []⟩ (fun _ => none) base.get? env.locals st s) (h : Mine.Exs ⟨prog, w, base, os, mg, mb, tabs, []⟩ A env body st fun fl st' => fl = .ret (.bool true))
    (hQ : Mine.Imp (Mine.PostL base os tabs) Q) : wpAny (model prog w) A (execs body env) Q E s :=
  wpAny_mono (Mine.law_go (G := ⟨prog, w, base, os, mg, mb, tabs, []⟩) S h) (fun f s' hq0 => hQ.run f s' hq0) fun _ _ x => x.elim
set_option maxRecDepth 100000 in
set_option maxHeartbeats 8000000 in
theorem PySem.Challenge.cw_dm0155_03_holds : PySem.Challenge.rw_dm0155_03.Holds := by
  (w_on; o_law; k_head; (case hw => w_witness2); w_strict (k_go0; (all_goals try k_fold)))
  rename Frag.In _ _ => X
  rename Fr _ _ _ _ => F
  rename Top _ _ _ _ _ _ => T
  rename IntsAre _ _ => hI
  rename News _ _ _ _ => N
  rename ¬ ((63 : Int) < _) => hlen
  rename _ = #[] => hg
  refine @Mine.law_run6 _ _ _ _ _ _ [⟨43, Mine.LP, Str.ofString "join_header_words" ++ Str.ofString ".<locals>." ++ Str.ofString "<lambda>"⟩] _ _ _ _ _ _ _ _ _ _ T (Mine.start_sim F rfl lifted hI hg rfl rfl (fun t ht => by
      simp only [List.mem_cons, List.mem_nil_iff, or_false] at ht
      subst ht
      exact N _ (.head _)))
    (Mine.law_body (tokP := 36) (escP := 41) (cj := 47) (tP := 43) (fj := 48) ?J (Mine.room_caller _) rfl _ ?hn) ?q
  case hn => first | lia | omega
  case J =>
    refine Mine.lg_of (Mine.glOk_of T (fun bm h => by have e := mg_of (n := Str.ofString "__builtins__") (v := .ref 4) X T.g (by kernel_rfl); cases e.symm.trans h; decide) (by
      intro t ht t' ht' e
      simp only [List.mem_cons, List.mem_nil_iff, or_false] at ht ht'
      rw [ht, ht'])) (fun O => ?_)
    exact {
      j := {
        ok := O
        tok := ⟨_, _, _, _, _, _, X 36 _ rfl, rfl, rfl, rfl, rfl, rfl, rfl, X 35 _ rfl, rfl, by decide +kernel⟩
        esc := ⟨_, _, _, _, _, _, X 41 _ rfl, rfl, rfl, rfl, rfl, rfl, rfl, X 40 _ rfl, rfl, by decide +kernel⟩
        gtok := mg_of X T.g (by kernel_rfl)
        gesc := mg_of X T.g (by kernel_rfl)
        cdh := codeHd
        tab := .head _ }
      gj := mg_of X T.g (by kernel_rfl)
      fj := ⟨⟨_, _, _, _, X 48 _ rfl, rfl, fun ws h => by obtain ⟨w, rfl⟩ := Mine.one_of h; rfl⟩, ⟨_, _, _, _, rfl, X _ _ rfl, rfl, rfl⟩, by decide, rfl, rfl, rfl, by decide⟩
      len := ⟨mg_none_of X T.g (by kernel_rfl), (T.builtins _ (by decide)).trans (by boot_fast)⟩
      min := ⟨mg_none_of X T.g (by kernel_rfl), (T.builtins _ (by decide)).trans (by boot_fast)⟩
      isi := ⟨mg_none_of X T.g (by kernel_rfl), (T.builtins _ (by decide)).trans (by boot_fast)⟩
      lst := ⟨mg_none_of X T.g (by kernel_rfl), (T.builtins _ (by decide)).trans (by boot_fast)⟩
      vE := ⟨mg_none_of X T.g (by kernel_rfl), (T.builtins _ (by decide)).trans (by boot_fast)⟩
      tE := ⟨mg_none_of X T.g (by kernel_rfl), (T.builtins _ (by decide)).trans (by boot_fast)⟩ }
  constructor
  intro f s' hp
  obtain ⟨hf, hk, hos, hgn, htb⟩ := hp
  subst hf
  obtain ⟨ps, hps⟩ := htb _ (.head _)
  exact ⟨⟨.inl ⟨.bool true, .bool true, [], rfl, (fun _ => rfl), .bool true, postW_of (X := (true == true)) rfl (w_eq_bool (w_res rfl) w_lit) rfl, unshared_nil⟩, hk, hos, hgn⟩, ⟨ps, hps⟩, trivial⟩
