import PyProof.Rows.All
import Wide.All
import OpenK.AllK
import Wide.FinOn
import KE.KNest
import KE.KLam
import KE.KxPercent
import PySem.Challenge.RW_dm0155_02
/-! part Fw1 -/
set_option maxRecDepth 100000
set_option Elab.async false
namespace Mine
open PySem PyProof.Rows

/-! token-free values -/
inductive V where
  | none
  | bool (b : Bool)
  | int (i : Int)
  | str (s : Str)
  | bytes (b : Array UInt8)
  | tup (xs : List V)
  | fl (xs : List V)
  | list (a : Addr)
  | raw (v : Value)
  | rng (a b c : Int)
  | mat (x : Str) (sp : List Int)

abbrev Zt := Addr → Option Obj
def Zle (Z Z' : Zt) : Prop := ∀ a o, Z a = some o → Z' a = some o
theorem Zle.refl {Z : Zt} : Zle Z Z := fun _ _ h => h
theorem Zle.trans {Z Z' Z'' : Zt} (h : Zle Z Z') (h' : Zle Z' Z'') : Zle Z Z'' := fun a o e => h' a o (h a o e)

def ZSeq (Z : Zt) (T : String) (a : Addr) (ws : List Value) : Prop :=
  ∃ o, Z a = some o ∧ o.cls = .type T ∧ ∃ n, o.data = .seq ws.toArray n
theorem ZSeq.mono {Z Z' : Zt} {T : String} {a : Addr} {ws : List Value} (h : ZSeq Z T a ws) (hZ : Zle Z Z') : ZSeq Z' T a ws :=
  let ⟨o, e, r⟩ := h; ⟨o, hZ _ _ e, r⟩

mutual
def VR (Z : Zt) : V → Value → Prop
  | .none, w => w = .none
  | .bool b, w => w = .bool b
  | .int i, w => ∃ t, w = .int i t
  | .str s, w => ∃ t, w = .str s t
  | .bytes b, w => ∃ t, w = .bytes b t
  | .tup xs, w => ∃ a ws, w = .ref a ∧ ZSeq Z "tuple" a ws ∧ VRs Z xs ws
  | .fl xs, w => ∃ a ws, w = .ref a ∧ ZSeq Z "list" a ws ∧ VRs Z xs ws
  | .list a, w => w = .ref a
  | .raw v, w => w = v
  | .rng a b c, w => ∃ r t u v, w = .ref r ∧ Z r = some { cls := .type "range", dict := none, data := .fields #[.int a t, .int b u, .int c v], slots := #[] }
  | .mat x sp, w => ∃ a b t pt ps lm li n, w = .ref a ∧ Z a = some { cls := .type "re.Match", dict := none, data := .fields #[.str x t, pt, ps, lm, li, .ref b], slots := #[] } ∧
      Z b = some { cls := .type "tuple", dict := none, data := .seq (sp.map rawInt).toArray n, slots := #[] }
def VRs (Z : Zt) : List V → List Value → Prop
  | [], ws => ws = []
  | x :: xs, ws => ∃ w ws', ws = w :: ws' ∧ VR Z x w ∧ VRs Z xs ws'
end

mutual
theorem VR.mono {Z Z' : Zt} (hZ : Zle Z Z') : ∀ (v : V) (w : Value), VR Z v w → VR Z' v w
  | .none, _, h | .bool _, _, h | .int _, _, h | .str _, _, h | .bytes _, _, h | .list _, _, h | .raw _, _, h => by
    unfold VR at h ⊢; exact h
  | .tup xs, w, h => by
    unfold VR at h ⊢
    obtain ⟨a, ws, e, hs, hr⟩ := h
    exact ⟨a, ws, e, hs.mono hZ, VRs.mono hZ xs ws hr⟩
  | .fl xs, w, h => by
    unfold VR at h ⊢
    obtain ⟨a, ws, e, hs, hr⟩ := h
    exact ⟨a, ws, e, hs.mono hZ, VRs.mono hZ xs ws hr⟩
  | .rng a b c, w, h => by
    unfold VR at h ⊢
    obtain ⟨r, t, u, v, e, hs⟩ := h
    exact ⟨r, t, u, v, e, hZ _ _ hs⟩
  | .mat x sp, w, h => by
    unfold VR at h ⊢
    obtain ⟨a, b, t, pt, ps, lm, li, n, e, h1, h2⟩ := h
    exact ⟨a, b, t, pt, ps, lm, li, n, e, hZ _ _ h1, hZ _ _ h2⟩
theorem VRs.mono {Z Z' : Zt} (hZ : Zle Z Z') : ∀ (xs : List V) (ws : List Value), VRs Z xs ws → VRs Z' xs ws
  | [], _, h => by unfold VRs at h ⊢; exact h
  | x :: xs, ws, h => by
    unfold VRs at h ⊢
    obtain ⟨w, ws', e, h1, h2⟩ := h
    exact ⟨w, ws', e, VR.mono hZ x w h1, VRs.mono hZ xs ws' h2⟩
end

theorem VRs.nil {Z : Zt} : VRs Z [] [] := by unfold VRs; rfl
theorem VRs.cons {Z : Zt} {x : V} {xs : List V} {w : Value} {ws : List Value} (h : VR Z x w) (h' : VRs Z xs ws) : VRs Z (x :: xs) (w :: ws) := by
  unfold VRs; exact ⟨w, ws, rfl, h, h'⟩
theorem VRs.of_nil {Z : Zt} {ws : List Value} (h : VRs Z [] ws) : ws = [] := by unfold VRs at h; exact h
theorem VRs.of_cons {Z : Zt} {x : V} {xs : List V} {ws : List Value} (h : VRs Z (x :: xs) ws) : ∃ w ws', ws = w :: ws' ∧ VR Z x w ∧ VRs Z xs ws' := by
  unfold VRs at h; exact h
theorem VRs.length {Z : Zt} : ∀ {xs : List V} {ws : List Value}, VRs Z xs ws → ws.length = xs.length
  | [], _, h => by rw [h.of_nil]; rfl
  | x :: xs, ws, h => by
    obtain ⟨w, ws', rfl, _, h2⟩ := h.of_cons
    simp [h2.length]
theorem VRs.append {Z : Zt} : ∀ {xs ys : List V} {ws us : List Value}, VRs Z xs ws → VRs Z ys us → VRs Z (xs ++ ys) (ws ++ us)
  | [], _, _, _, h, h' => by rw [h.of_nil]; exact h'
  | x :: xs, ys, ws, us, h, h' => by
    obtain ⟨w, ws', rfl, h1, h2⟩ := h.of_cons
    exact .cons h1 (h2.append h')
theorem VRs.get {Z : Zt} : ∀ {xs : List V} {ws : List Value} (_ : VRs Z xs ws) (i : Nat) {v : V}, xs[i]? = some v → ∃ w, ws[i]? = some w ∧ VR Z v w
  | [], _, _, i, v, e => by simp at e
  | x :: xs, ws, h, i, v, e => by
    obtain ⟨w, ws', rfl, h1, h2⟩ := h.of_cons
    cases i with
    | zero => simp at e; subst e; exact ⟨w, by simp, h1⟩
    | succ i => simp at e; obtain ⟨w', e', r⟩ := h2.get i e; exact ⟨w', by simpa using e', r⟩
theorem VRs.take {Z : Zt} : ∀ {xs : List V} {ws : List Value} (_ : VRs Z xs ws) (n : Nat), VRs Z (xs.take n) (ws.take n)
  | [], _, h, n => by rw [h.of_nil]; simp; exact .nil
  | x :: xs, ws, h, n => by
    obtain ⟨w, ws', rfl, h1, h2⟩ := h.of_cons
    cases n with
    | zero => simp; exact .nil
    | succ n => simp; exact .cons h1 (h2.take n)
theorem VRs.drop {Z : Zt} : ∀ {xs : List V} {ws : List Value} (_ : VRs Z xs ws) (n : Nat), VRs Z (xs.drop n) (ws.drop n)
  | [], _, h, n => by rw [h.of_nil]; simp; exact .nil
  | x :: xs, ws, h, n => by
    obtain ⟨w, ws', rfl, h1, h2⟩ := h.of_cons
    cases n with
    | zero => simpa using VRs.cons h1 h2
    | succ n => simpa using h2.drop n
theorem VRs.reverse {Z : Zt} : ∀ {xs : List V} {ws : List Value} (_ : VRs Z xs ws), VRs Z xs.reverse ws.reverse
  | [], _, h => by rw [h.of_nil]; exact .nil
  | x :: xs, ws, h => by
    obtain ⟨w, ws', rfl, h1, h2⟩ := h.of_cons
    simpa using h2.reverse.append (.cons h1 .nil)

/-! global data -/
structure Tab where
  P : Addr
  pos : Pos
  qual : Str

structure Gl where
  prog : Program
  w : World
  base : Heap
  os : OsState
  mg : Str → Option Value
  mb : Str → Option Value
  tabs : List Tab
  cells : List (Addr × V) := []

abbrev Gl.M (G : Gl) : Model := model G.prog G.w

structure St where
  loc : List (Str × V)
  ar : List (Addr × List V)

def LR (Z : Zt) : Option V → Option Value → Prop
  | none, _ => True
  | some v, some w => VR Z v w
  | some _, none => False

def TabOk (Z : Zt) (t : Tab) (h : Heap) : Prop :=
  ∃ ps, h.get? t.P = some (PySem.W.tabObj ps) ∧ (ps = #[] ∨ ∃ c' oc vs tk, ps = #[rawInt t.pos.line, rawInt t.pos.col, .ref c'] ∧ Z c' = some oc ∧ oc.data = .fields vs ∧ vs[1]? = some (.str t.qual tk))

structure Sim (G : Gl) (K Z : Zt) (L : Addr) (st : St) (s : Shared) : Prop where
  kk : ∀ b o, K b = some o → s.heap.get? b = some o
  zz : ∀ b o, Z b = some o → s.heap.get? b = some o
  kz : ∀ b o, K b = some o → Z b = none
  bz : ∀ b o, G.base.get? b = some o → Z b = some o
  ns : ∃ m, s.heap.Ns L m ∧ ∀ x, LR Z (st.loc.lookup x) (m x)
  kL : K L = none
  zL : Z L = none
  ar : ∀ p ∈ st.ar, K p.1 = none ∧ Z p.1 = none ∧ p.1 ≠ L ∧ ∃ ws n, s.heap.get? p.1 = some ⟨.type "list", none, .seq ws.toArray n, #[]⟩ ∧ VRs Z p.2 ws
  nd : (st.ar.map (·.1)).Nodup
  tb : ∀ t ∈ G.tabs, K t.P = none ∧ Z t.P = none ∧ t.P ≠ L ∧ (∀ p ∈ st.ar, p.1 ≠ t.P) ∧ TabOk Z t s.heap
  gens : s.gens = #[]
  os : s.os = G.os
  cl : ∀ p ∈ G.cells, ∃ o w, Z p.1 = some o ∧ o.data = .cell (some w) ∧ VR Z p.2 w

/-- an address that the relation speaks of -/
def Tracked (G : Gl) (K Z : Zt) (L : Addr) (st : St) (b : Addr) : Prop :=
  (∃ o, K b = some o) ∨ (∃ o, Z b = some o) ∨ b = L ∨ (∃ p ∈ st.ar, p.1 = b) ∨ (∃ t ∈ G.tabs, t.P = b)

theorem Sim.there {G : Gl} {K Z : Zt} {L : Addr} {st : St} {s : Shared} (S : Sim G K Z L st s) {b : Addr} (h : Tracked G K Z L st b) : ∃ o, s.heap.get? b = some o := by
  rcases h with ⟨o, h⟩ | ⟨o, h⟩ | rfl | ⟨p, hp, rfl⟩ | ⟨t, ht, rfl⟩
  · exact ⟨o, S.kk _ _ h⟩
  · exact ⟨o, S.zz _ _ h⟩
  · obtain ⟨m, ⟨o, _, _, e, _⟩, _⟩ := S.ns; exact ⟨o, e⟩
  · obtain ⟨_, _, _, ws, n, e, _⟩ := S.ar p hp; exact ⟨_, e⟩
  · obtain ⟨_, _, _, _, ps, e, _⟩ := S.tb t ht; exact ⟨_, e⟩

theorem Sim.fresh {G : Gl} {K Z : Zt} {L : Addr} {st : St} {s : Shared} (S : Sim G K Z L st s) : ¬ Tracked G K Z L st s.heap.objs.size := fun h => by
  obtain ⟨o, e⟩ := S.there h
  exact absurd (Heap.lt_size e) (Nat.lt_irrefl _)

/-- the heap may change at all that is not tracked -/
theorem Sim.heap {G : Gl} {K Z : Zt} {L : Addr} {st : St} {s : Shared} (S : Sim G K Z L st s) {h' : Heap} {tk : Nat} {dr : Drawn}
    (hk : ∀ b o, Tracked G K Z L st b → s.heap.get? b = some o → h'.get? b = some o) :
    Sim G K Z L st { s with heap := h', toks := tk, drawn := dr } where
  kk b o e := hk b o (.inl ⟨o, e⟩) (S.kk b o e)
  zz b o e := hk b o (.inr (.inl ⟨o, e⟩)) (S.zz b o e)
  kz := S.kz
  bz := S.bz
  ns := by
    obtain ⟨m, ⟨o, es, ep, e, r⟩, h2⟩ := S.ns
    exact ⟨m, ⟨o, es, ep, hk _ _ (.inr (.inr (.inl rfl))) e, r⟩, h2⟩
  kL := S.kL
  zL := S.zL
  ar p hp := by
    obtain ⟨h1, h2, h3, ws, n, e, r⟩ := S.ar p hp
    exact ⟨h1, h2, h3, ws, n, hk _ _ (.inr (.inr (.inr (.inl ⟨p, hp, rfl⟩)))) e, r⟩
  nd := S.nd
  tb t ht := by
    obtain ⟨h1, h2, h3, h4, ps, e, r⟩ := S.tb t ht
    exact ⟨h1, h2, h3, h4, ps, hk _ _ (.inr (.inr (.inr (.inr ⟨t, ht, rfl⟩)))) e, r⟩
  gens := S.gens
  os := S.os
  cl := S.cl

theorem Sim.push {G : Gl} {K Z : Zt} {L : Addr} {st : St} {s : Shared} (S : Sim G K Z L st s) (o : Obj) {tk : Nat} :
    Sim G K Z L st { s with heap := s.heap.push o, toks := tk } := S.heap fun _ _ _ e => Heap.get?_push_of_some o e

theorem Sim.toks {G : Gl} {K Z : Zt} {L : Addr} {st : St} {s : Shared} (S : Sim G K Z L st s) {tk : Nat} :
    Sim G K Z L st { s with toks := tk } := S.heap fun _ _ _ e => e

theorem Sim.ext {G : Gl} {K Z : Zt} {L : Addr} {st : St} {s : Shared} (S : Sim G K Z L st s) {a : Addr} {h' : Heap} {tk : Nat} (hx : Heap.ExtBut a s.heap h')
    (ha : ¬ Tracked G K Z L st a) : Sim G K Z L st { s with heap := h', toks := tk } := S.heap fun b o hb e => hx b o (fun q => ha (q ▸ hb)) e

theorem Sim.base {G : Gl} {K Z : Zt} {L : Addr} {st : St} {s : Shared} (S : Sim G K Z L st s) : ∀ b o, G.base.get? b = some o → s.heap.get? b = some o :=
  fun b o e => S.zz b o (S.bz b o e)

/-! triples -/
def Tri (G : Gl) (A : Around) (L : Addr) {α β : Type} (R : Zt → β → α → Prop) (t : Sem α) (st : St) (Q : β → St → Prop) : Prop :=
  ∀ K Z s, Sim G K Z L st s → wpAny G.M A t (fun w s' => ∃ Z' v st', Zle Z Z' ∧ Sim G K Z' L st' s' ∧ R Z' v w ∧ Q v st') (fun _ _ => False) s

section
variable {G : Gl} {A : Around} {L : Addr} {α β γ δ : Type} {st : St}

theorem Tri.mono {R : Zt → β → α → Prop} {t : Sem α} {Q Q' : β → St → Prop} (h : Tri G A L R t st Q) (hQ : ∀ v st', Q v st' → Q' v st') : Tri G A L R t st Q' :=
  fun K Z s S => wpAny_mono (h K Z s S) (fun _ _ ⟨Z', v, st', a, b, c, d⟩ => ⟨Z', v, st', a, b, c, hQ _ _ d⟩) fun _ _ x => x

theorem Tri.pure {R : Zt → β → α → Prop} {a : α} {Q : β → St → Prop} {v : β} (hR : ∀ Z, R Z v a) (h : Q v st) : Tri G A L R (pure a) st Q :=
  fun _ Z _ S => wpAny_pure ⟨Z, v, st, .refl, S, hR Z, h⟩

theorem Tri.bind {R : Zt → β → α → Prop} {R' : Zt → δ → γ → Prop} {t : Sem α} {f : α → Sem γ} {Q : δ → St → Prop}
    (h : Tri G A L R t st fun v st' => ∀ K Z w s, Sim G K Z L st' s → R Z v w →
      wpAny G.M A (f w) (fun w s' => ∃ Z' v st', Zle Z Z' ∧ Sim G K Z' L st' s' ∧ R' Z' v w ∧ Q v st') (fun _ _ => False) s) : Tri G A L R' (t >>= f) st Q :=
  fun K Z s S => wpAny_bind (wpAny_mono (h K Z s S) (fun w s' ⟨Z', v, st', a, b, c, d⟩ =>
    wpAny_mono (d K Z' w s' b c) (fun _ _ ⟨Z'', v', st'', a', r⟩ => ⟨Z'', v', st'', a.trans a', r⟩) fun _ _ x => x) fun _ _ x => x)

/-- one state says all that another one says -/
def Ent (G : Gl) (L : Addr) (st st₀ : St) : Prop := ∀ K Z s, Sim G K Z L st s → ∃ Z', Zle Z Z' ∧ Sim G K Z' L st₀ s
theorem Ent.refl : Ent G L st st := fun _ Z _ S => ⟨Z, .refl, S⟩
theorem Ent.trans {st₁ st₂ : St} (h : Ent G L st st₁) (h' : Ent G L st₁ st₂) : Ent G L st st₂ := fun K Z s S =>
  let ⟨Z', a, b⟩ := h K Z s S; let ⟨Z'', a', b'⟩ := h' K Z' s b; ⟨Z'', a.trans a', b'⟩
theorem Tri.ent {st₀ : St} {R : Zt → β → α → Prop} {t : Sem α} {Q : β → St → Prop} (he : Ent G L st st₀) (h : Tri G A L R t st₀ Q) : Tri G A L R t st Q := fun K Z s S =>
  let ⟨Z', a, b⟩ := he K Z s S
  wpAny_mono (h K Z' s b) (fun _ _ ⟨Z'', v, st', a', r⟩ => ⟨Z'', v, st', a.trans a', r⟩) fun _ _ x => x

/-- fewer locals, fewer lists -/
theorem Ent.less {st₀ : St} (hl : ∀ x v, st₀.loc.lookup x = some v → st.loc.lookup x = some v) (ha : ∀ p ∈ st₀.ar, p ∈ st.ar) (hn : (st₀.ar.map (·.1)).Nodup) : Ent G L st st₀ := fun K Z s S =>
  ⟨Z, .refl, { S with
    ns := by
      obtain ⟨m, h1, h2⟩ := S.ns
      refine ⟨m, h1, fun x => ?_⟩
      cases e : st₀.loc.lookup x with
      | none => trivial
      | some v => have := h2 x; rw [hl x v e] at this; exact this
    ar := fun p hp => S.ar p (ha p hp)
    nd := hn
    tb := fun t ht => let ⟨a, b, c, d, e⟩ := S.tb t ht; ⟨a, b, c, fun p hp => d p (ha p hp), e⟩ }⟩
end

/-! freezing -/
mutual
def V.fz (a : Addr) (xs : List V) : V → V
  | .list b => if b = a then .fl xs else .list b
  | .tup ys => .tup (V.fzs a xs ys)
  | .fl ys => .fl (V.fzs a xs ys)
  | .none => .none | .bool b => .bool b | .int i => .int i | .str s => .str s | .bytes b => .bytes b | .raw v => .raw v | .rng a b c => .rng a b c | .mat x sp => .mat x sp
def V.fzs (a : Addr) (xs : List V) : List V → List V
  | [] => []
  | y :: ys => V.fz a xs y :: V.fzs a xs ys
end
theorem V.fzs_eq (a : Addr) (xs ys : List V) : V.fzs a xs ys = ys.map (V.fz a xs) := by
  induction ys with
  | nil => simp [V.fzs]
  | cons y ys ih => simp [V.fzs, ih]

mutual
/-- no owned list within -/
def V.pur : V → Bool
  | .list _ => false
  | .tup ys => V.purs ys
  | .fl ys => V.purs ys
  | _ => true
def V.purs : List V → Bool
  | [] => true
  | y :: ys => V.pur y && V.purs ys
end
theorem V.purs_eq (ys : List V) : V.purs ys = ys.all V.pur := by
  induction ys with
  | nil => simp [V.purs]
  | cons y ys ih => simp [V.purs, ih]

mutual
theorem V.fz_pur (a : Addr) (xs : List V) : ∀ (v : V), v.pur = true → v.fz a xs = v
  | .list _, h => by simp [V.pur] at h
  | .tup ys, h => by simp only [V.pur] at h; simp only [V.fz, V.fzs_pur a xs ys h]
  | .fl ys, h => by simp only [V.pur] at h; simp only [V.fz, V.fzs_pur a xs ys h]
  | .none, _ | .bool _, _ | .int _, _ | .str _, _ | .bytes _, _ | .raw _, _ | .rng _ _ _, _ | .mat _ _, _ => by simp [V.fz]
theorem V.fzs_pur (a : Addr) (xs : List V) : ∀ (ys : List V), V.purs ys = true → V.fzs a xs ys = ys
  | [], _ => by simp [V.fzs]
  | y :: ys, h => by
    simp only [V.purs, Bool.and_eq_true] at h
    simp only [V.fzs, V.fz_pur a xs y h.1, V.fzs_pur a xs ys h.2]
end

mutual
theorem VR.fz {Z : Zt} {a : Addr} {xs : List V} {ws : List Value} (hz : ZSeq Z "list" a ws) (hx : VRs Z xs ws) : ∀ (v : V) (w : Value), VR Z v w → VR Z (v.fz a xs) w
  | .list b, w, h => by
    unfold VR at h
    simp only [V.fz]
    split
    · rename_i e; subst e; unfold VR; exact ⟨b, ws, h, hz, hx⟩
    · unfold VR; exact h
  | .tup ys, w, h => by
    unfold VR at h; obtain ⟨b, us, e, h1, h2⟩ := h
    simp only [V.fz]; unfold VR
    exact ⟨b, us, e, h1, VRs.fzs hz hx ys us h2⟩
  | .fl ys, w, h => by
    unfold VR at h; obtain ⟨b, us, e, h1, h2⟩ := h
    simp only [V.fz]; unfold VR
    exact ⟨b, us, e, h1, VRs.fzs hz hx ys us h2⟩
  | .none, _, h | .bool _, _, h | .int _, _, h | .str _, _, h | .bytes _, _, h | .raw _, _, h | .rng _ _ _, _, h | .mat _ _, _, h => by simp only [V.fz]; exact h
theorem VRs.fzs {Z : Zt} {a : Addr} {xs : List V} {ws : List Value} (hz : ZSeq Z "list" a ws) (hx : VRs Z xs ws) : ∀ (ys : List V) (us : List Value), VRs Z ys us → VRs Z (V.fzs a xs ys) us
  | [], us, h => by simp only [V.fzs]; exact h
  | y :: ys, us, h => by
    obtain ⟨w, us', rfl, h1, h2⟩ := h.of_cons
    simp only [V.fzs]
    exact .cons (VR.fz hz hx y w h1) (VRs.fzs hz hx ys us' h2)
end

def St.fz (st : St) (a : Addr) (xs : List V) : St :=
  ⟨st.loc.map fun p => (p.1, p.2.fz a xs), (st.ar.filter fun p => p.1 ≠ a).map fun p => (p.1, V.fzs a xs p.2)⟩

theorem lookup_mapV (f : V → V) (l : List (Str × V)) (x : Str) : (l.map fun p => (p.1, f p.2)).lookup x = (l.lookup x).map f := by
  induction l with
  | nil => rfl
  | cons p l ih =>
    obtain ⟨y, v⟩ := p
    simp only [List.map_cons, List.lookup_cons]
    cases x == y <;> simp [ih]

def Zset (Z : Zt) (a : Addr) (o : Obj) : Zt := fun b => if b = a then some o else Z b
theorem Zset.le {Z : Zt} {a : Addr} {o : Obj} (h : Z a = none) : Zle Z (Zset Z a o) := fun b o' e => by
  unfold Zset; split
  · rename_i q; subst q; rw [h] at e; cases e
  · exact e
theorem Zset.self {Z : Zt} {a : Addr} {o : Obj} : Zset Z a o a = some o := by unfold Zset; rw [if_pos rfl]
theorem Zset.ne {Z : Zt} {a b : Addr} {o : Obj} (h : b ≠ a) : Zset Z a o b = Z b := by unfold Zset; rw [if_neg h]

theorem TabOk.mono {Z Z' : Zt} {t : Tab} {h : Heap} (x : TabOk Z t h) (hZ : Zle Z Z') : TabOk Z' t h := by
  obtain ⟨ps, e, r⟩ := x
  refine ⟨ps, e, r.imp id fun ⟨c', oc, vs, tk, h1, h2, h3⟩ => ⟨c', oc, vs, tk, h1, hZ _ _ h2, h3⟩⟩

theorem LR.mono {Z Z' : Zt} (hZ : Zle Z Z') {v : Option V} {w : Option Value} (h : LR Z v w) : LR Z' v w := by
  cases v with
  | none => trivial
  | some v => cases w with
    | none => exact h
    | some w => exact VR.mono hZ v w h

/-- Z may take in an object of the heap that nothing else speaks of -/
theorem Sim.addZ {G : Gl} {K Z : Zt} {L : Addr} {st : St} {s : Shared} (S : Sim G K Z L st s) {a : Addr} {o : Obj} (ha : ¬ Tracked G K Z L st a) (e : s.heap.get? a = some o) :
    Zle Z (Zset Z a o) ∧ Sim G K (Zset Z a o) L st s := by
  have hZa : Z a = none := by
    cases q : Z a with
    | none => rfl
    | some o' => exact absurd (.inr (.inl ⟨o', q⟩)) ha
  have hle : Zle Z (Zset Z a o) := Zset.le hZa
  refine ⟨hle, ?_⟩
  have ne : ∀ b, Tracked G K Z L st b → b ≠ a := fun b hb q => ha (q ▸ hb)
  exact { S with
    zz := fun b o' e' => by
      unfold Zset at e'; split at e'
      · rename_i q; subst q; cases e'; exact e
      · exact S.zz b o' e'
    kz := fun b o' e' => by rw [Zset.ne (ne b (.inl ⟨o', e'⟩))]; exact S.kz b o' e'
    bz := fun b o' e' => hle _ _ (S.bz b o' e')
    ns := by obtain ⟨m, h1, h2⟩ := S.ns; exact ⟨m, h1, fun x => (h2 x).mono hle⟩
    zL := by rw [Zset.ne (ne L (.inr (.inr (.inl rfl))))]; exact S.zL
    cl := fun p hp => let ⟨o', w, h1, h2, h3⟩ := S.cl p hp; ⟨o', w, hle _ _ h1, h2, VR.mono hle _ _ h3⟩
    ar := fun p hp => by
      obtain ⟨h1, h2, h3, ws, n, h4, h5⟩ := S.ar p hp
      exact ⟨h1, by rw [Zset.ne (ne p.1 (.inr (.inr (.inr (.inl ⟨p, hp, rfl⟩)))))]; exact h2, h3, ws, n, h4, VRs.mono hle _ _ h5⟩
    tb := fun t ht => by
      obtain ⟨h1, h2, h3, h4, h5⟩ := S.tb t ht
      exact ⟨h1, by rw [Zset.ne (ne t.P (.inr (.inr (.inr (.inr ⟨t, ht, rfl⟩)))))]; exact h2, h3, h4, h5.mono hle⟩ }

theorem not_tracked_of_drop {G : Gl} {K Z : Zt} {L : Addr} {st : St} {s : Shared} (S : Sim G K Z L st s) {a : Addr} {xs : List V} (ha : (a, xs) ∈ st.ar) :
    ¬ Tracked G K Z L ⟨st.loc, st.ar.filter fun p => p.1 ≠ a⟩ a := by
  obtain ⟨h1, h2, h3, _⟩ := S.ar _ ha
  rintro (⟨o, h⟩ | ⟨o, h⟩ | h | ⟨p, hp, h⟩ | ⟨t, ht, h⟩)
  · rw [h1] at h; cases h
  · rw [h2] at h; cases h
  · exact h3 h
  · have := (List.mem_filter.mp hp).2; simp [h] at this
  · exact (S.tb t ht).2.2.2.1 _ ha h.symm

theorem nodup_filter_keys {l : List (Addr × List V)} (h : (l.map (·.1)).Nodup) (q : Addr × List V → Bool) : ((l.filter q).map (·.1)).Nodup :=
  h.sublist (List.Sublist.map _ List.filter_sublist)

/-- freezing, with a value that may speak of the list -/
theorem Sim.freeze {G : Gl} {K Z : Zt} {L : Addr} {st : St} {s : Shared} (S : Sim G K Z L st s) {a : Addr} {xs : List V} (ha : (a, xs) ∈ st.ar) :
    ∃ Z', Zle Z Z' ∧ Sim G K Z' L (st.fz a xs) s ∧ ∀ v w, VR Z v w → VR Z' (v.fz a xs) w := by
  obtain ⟨h1, h2, h3, ws, n, h4, h5⟩ := S.ar _ ha
  have S₁ : Sim G K Z L ⟨st.loc, st.ar.filter fun p => p.1 ≠ a⟩ s := { S with
    ar := fun p hp => S.ar p (List.mem_filter.mp hp).1
    nd := nodup_filter_keys S.nd _
    tb := fun t ht => let ⟨a, b, c, d, e⟩ := S.tb t ht; ⟨a, b, c, fun p hp => d p (List.mem_filter.mp hp).1, e⟩ }
  obtain ⟨hle, S₂⟩ := S₁.addZ (not_tracked_of_drop S ha) h4
  refine ⟨_, hle, ?_, fun v w h => ?_⟩
  · have hz : ZSeq (Zset Z a ⟨.type "list", none, .seq ws.toArray n, #[]⟩) "list" a ws := ⟨_, Zset.self, rfl, n, rfl⟩
    have hx := VRs.mono hle _ _ h5
    exact { S₂ with
      ns := by
        obtain ⟨m, g1, g2⟩ := S₂.ns
        refine ⟨m, g1, fun x => ?_⟩
        have := g2 x
        show LR _ ((st.loc.map fun p => (p.1, p.2.fz a xs)).lookup x) _
        rw [lookup_mapV]
        change LR _ (st.loc.lookup x) _ at this
        revert this
        cases st.loc.lookup x with
        | none => intro _; trivial
        | some v =>
          cases m x with
          | none => exact id
          | some w => exact VR.fz hz hx v w
      ar := fun p hp => by
        obtain ⟨q, hq, rfl⟩ := List.mem_map.mp hp
        obtain ⟨g1, g2, g3, us, k, g4, g5⟩ := S₂.ar q hq
        exact ⟨g1, g2, g3, us, k, g4, VRs.fzs hz hx _ _ g5⟩
      nd := by
        have := S₂.nd
        show (((st.ar.filter fun p => p.1 ≠ a).map fun p => (p.1, V.fzs a xs p.2)).map (·.1)).Nodup
        rw [List.map_map]; exact this
      tb := fun t ht => by
        obtain ⟨g1, g2, g3, g4, g5⟩ := S₂.tb t ht
        refine ⟨g1, g2, g3, fun p hp => ?_, g5⟩
        obtain ⟨q, hq, rfl⟩ := List.mem_map.mp hp
        exact g4 q hq }
  · exact VR.fz ⟨_, Zset.self, rfl, n, rfl⟩ (VRs.mono hle _ _ h5) v w (VR.mono hle v w h)

theorem Ent.freeze {G : Gl} {L : Addr} {st : St} {a : Addr} {xs : List V} (ha : (a, xs) ∈ st.ar) : Ent G L st (st.fz a xs) := fun _ _ _ S =>
  let ⟨Z', h1, h2, _⟩ := S.freeze ha; ⟨Z', h1, h2⟩

end Mine

/-! part Fw2 -/
set_option maxRecDepth 100000
set_option Elab.async false
set_option linter.unusedVariables false
namespace Mine
open PySem PyProof.Rows

/-! what a run ends in -/
def Post (G : Gl) (K Z : Zt) (L : Addr) {α β : Type} (R : Zt → β → α → Prop) (Q : β → St → Prop) : α → Shared → Prop :=
  fun w s' => ∃ Z' v st', Zle Z Z' ∧ Sim G K Z' L st' s' ∧ R Z' v w ∧ Q v st'
abbrev Nope : Value → Shared → Prop := fun _ _ => False

theorem Post.le {G : Gl} {K Z Z₁ : Zt} {L : Addr} {α β : Type} {R : Zt → β → α → Prop} {Q : β → St → Prop} {w : α} {s : Shared} (h : Post G K Z₁ L R Q w s) (hz : Zle Z Z₁) : Post G K Z L R Q w s :=
  let ⟨Z', v, st', a, r⟩ := h; ⟨Z', v, st', hz.trans a, r⟩
theorem Post.mk {G : Gl} {K Z : Zt} {L : Addr} {α β : Type} {R : Zt → β → α → Prop} {Q : β → St → Prop} {w : α} {s : Shared} {v : β} {st : St} (S : Sim G K Z L st s) (r : R Z v w) (q : Q v st) : Post G K Z L R Q w s :=
  ⟨Z, v, st, .refl, S, r, q⟩

section
variable {G : Gl} {A : Around} {L : Addr} {α β γ δ : Type} {st : St}
theorem Tri.use {R : Zt → β → α → Prop} {t : Sem α} {Q : β → St → Prop} (h : Tri G A L R t st Q) {K Z : Zt} {s : Shared} (S : Sim G K Z L st s) {P : α → Shared → Prop}
    (f : ∀ Z' v st' w s', Zle Z Z' → Sim G K Z' L st' s' → R Z' v w → Q v st' → P w s') : wpAny G.M A t P Nope s :=
  wpAny_mono (h K Z s S) (fun w s' ⟨Z', v, st', a, b, c, d⟩ => f Z' v st' w s' a b c d) fun _ _ x => x
theorem wpLe {K Z Z₁ : Zt} {R : Zt → β → α → Prop} {Q : β → St → Prop} {t : Sem α} {s : Shared} (hz : Zle Z Z₁) (h : wpAny G.M A t (Post G K Z₁ L R Q) Nope s) : wpAny G.M A t (Post G K Z L R Q) Nope s :=
  wpAny_mono h (fun _ _ p => p.le hz) fun _ _ x => x
end

def BR (_ : Zt) (b c : Bool) : Prop := c = b
def UR (_ : Zt) (_ _ : Unit) : Prop := True

inductive Fl where
  | next | brk | cont
  | ret (v : V)
def FR (Z : Zt) : Fl → Flow → Prop
  | .next, f => f = .next
  | .brk, f => f = .brk
  | .cont, f => f = .cont
  | .ret v, f => ∃ w, f = .ret w ∧ VR Z v w

/-- room for calls -/
structure Room (A : Around) (k : Nat) : Prop where
  hd : A.handled = none
  dp : A.depth + k < recursionLimit
  un : A.units + 20 * k + 40 < cLine
theorem Room.deeper {A : Around} {k : Nat} (r : Room A (k + 1)) (env : Env) : Room (A.deeper env) k :=
  ⟨r.hd, by have := r.dp; show A.depth + 1 + k < _; omega, by have := r.un; show A.units + 3 + 20 * k + 40 < _; omega⟩
theorem Room.less {A : Around} {k j : Nat} (r : Room A k) (h : j ≤ k) : Room A j :=
  ⟨r.hd, by have := r.dp; omega, by have := r.un; omega⟩

/-! the judgments -/
structure Ev (G : Gl) (A : Around) (env : Env) (e : Expr) (st : St) (Q : V → St → Prop) : Prop where
  run : Tri G A env.locals VR (eval e env) st Q
structure Tst (G : Gl) (A : Around) (env : Env) (e : Expr) (st : St) (Q : Bool → St → Prop) : Prop where
  run : Tri G A env.locals BR (isTrue e env (eval e env)) st Q
structure Evs (G : Gl) (A : Around) (env : Env) (es : List Expr) (st : St) (Q : List V → St → Prop) : Prop where
  run : ∀ pos, Tri G A env.locals VRs (spliced (backTo pos (starEach es env))) st Q
structure Exs (G : Gl) (A : Around) (env : Env) (ss : List Stmt) (st : St) (Q : Fl → St → Prop) : Prop where
  run : Tri G A env.locals FR (execs ss env) st Q
structure Ex (G : Gl) (A : Around) (env : Env) (x : Stmt) (st : St) (Q : Fl → St → Prop) : Prop where
  run : Tri G A env.locals FR (exec x env) st Q
/-- an assignment of a value -/
structure Asg (G : Gl) (A : Around) (env : Env) (t : Expr) (v : V) (st : St) (Q : St → Prop) : Prop where
  run : ∀ K Z w s, Sim G K Z env.locals st s → VR Z v w → wpAny G.M A (assign t env w) (Post G K Z env.locals UR fun _ => Q) Nope s
/-- an operation upon values -/
structure Op (G : Gl) (A : Around) (L : Addr) (f : List Value → Sem Value) (vs : List V) (st : St) (Q : V → St → Prop) : Prop where
  run : ∀ K Z ws s, Sim G K Z L st s → VRs Z vs ws → wpAny G.M A (f ws) (Post G K Z L VR Q) Nope s
def op2 (f : Value → Value → Sem Value) : List Value → Sem Value
  | [a, b] => f a b
  | _ => unsupported "op2"
def op1 (f : Value → Sem Value) : List Value → Sem Value
  | [a] => f a
  | _ => unsupported "op1"
structure Op1 (G : Gl) (A : Around) (L : Addr) (f : Value → Sem Value) (a : V) (st : St) (Q : V → St → Prop) : Prop where
  run : ∀ K Z w s, Sim G K Z L st s → VR Z a w → wpAny G.M A (f w) (Post G K Z L VR Q) Nope s
structure Op2 (G : Gl) (A : Around) (L : Addr) (f : Value → Value → Sem Value) (a b : V) (st : St) (Q : V → St → Prop) : Prop where
  run : ∀ K Z w u s, Sim G K Z L st s → VR Z a w → VR Z b u → wpAny G.M A (f w u) (Post G K Z L VR Q) Nope s
/-- truth of a value -/
structure Tru (G : Gl) (A : Around) (L : Addr) (a : V) (st : St) (Q : Bool → St → Prop) : Prop where
  run : ∀ K Z w s, Sim G K Z L st s → VR Z a w → wpAny G.M A (truthy w) (Post G K Z L BR Q) Nope s

section
variable {G : Gl} {A : Around} {env : Env} {st : St} {pos : Pos}

theorem Ev.mono {e : Expr} {Q Q' : V → St → Prop} (h : Ev G A env e st Q) (hQ : ∀ v st', Q v st' → Q' v st') : Ev G A env e st Q' := ⟨h.run.mono hQ⟩
theorem Exs.mono {ss : List Stmt} {Q Q' : Fl → St → Prop} (h : Exs G A env ss st Q) (hQ : ∀ v st', Q v st' → Q' v st') : Exs G A env ss st Q' := ⟨h.run.mono hQ⟩
theorem Ex.mono {x : Stmt} {Q Q' : Fl → St → Prop} (h : Ex G A env x st Q) (hQ : ∀ v st', Q v st' → Q' v st') : Ex G A env x st Q' := ⟨h.run.mono hQ⟩
theorem Exs.ent {ss : List Stmt} {st₀ : St} {Q : Fl → St → Prop} (he : Ent G env.locals st st₀) (h : Exs G A env ss st₀ Q) : Exs G A env ss st Q := ⟨h.run.ent he⟩
theorem Ex.ent {x : Stmt} {st₀ : St} {Q : Fl → St → Prop} (he : Ent G env.locals st st₀) (h : Ex G A env x st₀ Q) : Ex G A env x st Q := ⟨h.run.ent he⟩
theorem Ev.ent {e : Expr} {st₀ : St} {Q : V → St → Prop} (he : Ent G env.locals st st₀) (h : Ev G A env e st₀ Q) : Ev G A env e st Q := ⟨h.run.ent he⟩

/-! values -/
theorem vr_str {Z : Zt} {x : Str} {t : Tok} : VR Z (.str x) (.str x t) := by unfold VR; exact ⟨t, rfl⟩
theorem vr_int {Z : Zt} {x : Int} {t : Tok} : VR Z (.int x) (.int x t) := by unfold VR; exact ⟨t, rfl⟩
theorem vr_bytes {Z : Zt} {x : Array UInt8} {t : Tok} : VR Z (.bytes x) (.bytes x t) := by unfold VR; exact ⟨t, rfl⟩
theorem vr_bool {Z : Zt} {x : Bool} : VR Z (.bool x) (.bool x) := by unfold VR; rfl
theorem vr_none {Z : Zt} : VR Z .none .none := by unfold VR; rfl
theorem vr_list {Z : Zt} {a : Addr} : VR Z (.list a) (.ref a) := by unfold VR; rfl
theorem vr_raw {Z : Zt} {a : Value} : VR Z (.raw a) a := by unfold VR; rfl
theorem of_str {Z : Zt} {x : Str} {w : Value} (h : VR Z (.str x) w) : ∃ t, w = .str x t := by unfold VR at h; exact h
theorem of_int {Z : Zt} {x : Int} {w : Value} (h : VR Z (.int x) w) : ∃ t, w = .int x t := by unfold VR at h; exact h
theorem of_bytes {Z : Zt} {x : Array UInt8} {w : Value} (h : VR Z (.bytes x) w) : ∃ t, w = .bytes x t := by unfold VR at h; exact h
theorem of_bool {Z : Zt} {x : Bool} {w : Value} (h : VR Z (.bool x) w) : w = .bool x := by unfold VR at h; exact h
theorem of_none {Z : Zt} {w : Value} (h : VR Z .none w) : w = .none := by unfold VR at h; exact h
theorem of_list {Z : Zt} {a : Addr} {w : Value} (h : VR Z (.list a) w) : w = .ref a := by unfold VR at h; exact h
theorem of_raw {Z : Zt} {a w : Value} (h : VR Z (.raw a) w) : w = a := by unfold VR at h; exact h
theorem of_tup {Z : Zt} {xs : List V} {w : Value} (h : VR Z (.tup xs) w) : ∃ a ws, w = .ref a ∧ ZSeq Z "tuple" a ws ∧ VRs Z xs ws := by unfold VR at h; exact h
theorem of_fl {Z : Zt} {xs : List V} {w : Value} (h : VR Z (.fl xs) w) : ∃ a ws, w = .ref a ∧ ZSeq Z "list" a ws ∧ VRs Z xs ws := by unfold VR at h; exact h

/-! leaves -/
theorem ev_local {x : Str} {v : V} {Q : V → St → Prop} (hk : env.scope.kind = .function) (hl : env.kindOf x = some .local) (hd : (x == ("__debug__" : Str)) = false)
    (hv : st.loc.lookup x = some v) (h : Q v st) : Ev G A env (.Name x pos) st Q := ⟨fun K Z s S => by
  obtain ⟨m, hn, hm⟩ := S.ns
  have := hm x
  rw [hv] at this
  cases hw : m x with
  | none => rw [hw] at this; exact this.elim
  | some w => rw [hw] at this; exact wpAny_Name (wpAny_loadName_local hk hl hn hw (Post.mk S this h)) hd⟩

structure GlOk (G : Gl) : Prop where
  g : G.base.Ns mainGlobals G.mg
  b : G.base.Ns builtinsNs G.mb
  nolimit : G.base.NoLimit
  nodigits : ∃ mc, G.base.Ns cStatics mc ∧ mc "sys.int_max_str_digits" = none
  bm : ∃ bm ob, G.mg "__builtins__" = some (.ref bm) ∧ bm ≠ builtinsNs ∧ bm ≠ mainGlobals ∧ G.base.get? bm = some ob ∧ ob.cls = .type "module" ∧ ob.dict = some builtinsNs ∧ ob.data = .plain
  tabs : ∀ t ∈ G.tabs, ∀ t' ∈ G.tabs, t.P = t'.P → t = t'

theorem ev_global {x : Str} {v : Value} {Q : V → St → Prop} (O : GlOk G) (hk : env.scope.kind = .function) (hg : env.globals = mainGlobals) (hl : env.kindOf x = some .globalImplicit) (hd : (x == ("__debug__" : Str)) = false)
    (hv : G.mg x = some v) (h : Q (.raw v) st) : Ev G A env (.Name x pos) st Q := ⟨fun K Z s S =>
  Calls.Name_function_global hk hl (Calls.loadGlobal_global (by rw [hg]; exact O.g.keeps S.base) hv (Post.mk S vr_raw h)) hd⟩
theorem ev_builtin {x : Str} {v : Value} {Q : V → St → Prop} (O : GlOk G) (hk : env.scope.kind = .function) (hg : env.globals = mainGlobals) (hb : env.builtins = builtinsNs) (hl : env.kindOf x = some .globalImplicit)
    (hd : (x == ("__debug__" : Str)) = false) (hv : G.mg x = none) (hv' : G.mb x = some v) (h : Q (.raw v) st) : Ev G A env (.Name x pos) st Q := ⟨fun K Z s S =>
  Calls.Name_function_global hk hl (Calls.loadGlobal_builtin (by rw [hg]; exact O.g.keeps S.base) hv (by rw [hb]; exact O.b.keeps S.base) hv' (Post.mk S vr_raw h)) hd⟩

theorem ev_none {k : Nat} {Q : V → St → Prop} (h : Q .none st) : Ev G A env (.Constant .none k pos) st Q := ⟨fun K Z s S => Constant_none (Post.mk S vr_none h)⟩
theorem ev_bool {k : Nat} {b : Bool} {Q : V → St → Prop} (h : Q (.bool b) st) : Ev G A env (.Constant (.bool b) k pos) st Q := ⟨fun K Z s S => Constant_bool (Post.mk S vr_bool h)⟩
theorem ev_int {k : Nat} {i : Int} {Q : V → St → Prop} (h : Q (.int i) st) : Ev G A env (.Constant (.int i) k pos) st Q := ⟨fun K Z s S => wpAny_Constant_int (Post.mk S.toks vr_int h)⟩
theorem ev_str {k : Nat} {x : Str} {Q : V → St → Prop} (h : Q (.str x) st) : Ev G A env (.Constant (.str x) k pos) st Q := ⟨fun K Z s S => Calls.Constant_str (Post.mk S.toks vr_str h)⟩
theorem ev_bytes {k : Nat} {x : List UInt8} {Q : V → St → Prop} (h : Q (.bytes x.toArray) st) : Ev G A env (.Constant (.bytes x) k pos) st Q :=
  ⟨fun K Z s S _ _ _ => (show Post G K Z env.locals VR Q _ _ from Post.mk (s := { s with toks := s.toks + 1 }) S.toks vr_bytes h)⟩

/-! nodes -/
theorem ev_bin {l r : Expr} {op : Operator} {Q : V → St → Prop} (h : Ev G A env l st fun a st₁ => Ev G A env r st₁ fun b st₂ => Op2 G A env.locals (binaryOp op) a b st₂ Q) :
    Ev G A env (.BinOp l op r pos) st Q := ⟨fun K Z s S => wpAny_BinOp (h.run.use S fun Z₁ a st₁ w s₁ z₁ S₁ r₁ h₁ => h₁.run.use S₁ fun Z₂ b st₂ u s₂ z₂ S₂ r₂ h₂ =>
      wpLe (z₁.trans z₂) (h₂.run K Z₂ w u s₂ S₂ (VR.mono z₂ _ _ r₁) r₂))⟩
theorem ev_un {x : Expr} {op : UnaryOp} {Q : V → St → Prop} (h : Ev G A env x st fun a st₁ => Op1 G A env.locals (unaryOp op) a st₁ Q) :
    Ev G A env (.UnaryOp op x pos) st Q := ⟨fun K Z s S => UnaryOp_ (h.run.use S fun Z₁ a st₁ w s₁ z₁ S₁ r₁ h₁ => wpLe z₁ (h₁.run K Z₁ w s₁ S₁ r₁))⟩
theorem op_not {a : V} {L : Addr} {Q : V → St → Prop} (h : Tru G A L a st fun b st₁ => Q (.bool !b) st₁) : Op1 G A L (unaryOp .Not) a st Q :=
  ⟨fun K Z w s S r => not_of (wpAny_mono (h.run K Z w s S r) (fun c s' ⟨Z', b, st', z, S', e, q⟩ => by cases e; exact ⟨Z', _, st', z, S', vr_bool, q⟩) fun _ _ x => x)⟩
theorem ev_ite {t b o : Expr} {Q : V → St → Prop} (h : Tst G A env t st fun c st₁ => if c then Ev G A env b st₁ Q else Ev G A env o st₁ Q) :
    Ev G A env (.IfExp t b o pos) st Q := ⟨fun K Z s S => IfExp_ (h.run.use S fun Z₁ c st₁ w s₁ z₁ S₁ e h₁ => by
      cases e
      cases c
      · exact wpLe z₁ (h₁.run K Z₁ s₁ S₁)
      · exact wpLe z₁ (h₁.run K Z₁ s₁ S₁))⟩
theorem ev_cmp {l r : Expr} {op : CmpOp} {Q : V → St → Prop} (hm : behindInMarks op r = false) (h : Ev G A env l st fun a st₁ => Ev G A env r st₁ fun b st₂ => Op2 G A env.locals (compareOp op) a b st₂ Q) :
    Ev G A env (.Compare l [op] [r] pos) st Q := ⟨fun K Z s S => wpAny_Compare1 (h.run.use S fun Z₁ a st₁ w s₁ z₁ S₁ r₁ h₁ => h₁.run.use S₁ fun Z₂ b st₂ u s₂ z₂ S₂ r₂ h₂ =>
      wpLe (z₁.trans z₂) (h₂.run K Z₂ w u s₂ S₂ (VR.mono z₂ _ _ r₁) r₂)) hm⟩
theorem ev_and {a b : Expr} {rest : List Expr} {Q : V → St → Prop}
    (h : Ev G A env a st fun v st₁ => Tru G A env.locals v st₁ fun c st₂ => if c then Ev G A env (.BoolOp .And (b :: rest) pos) st₂ Q else Q v st₂) : Ev G A env (.BoolOp .And (a :: b :: rest) pos) st Q :=
  ⟨fun K Z s S => BoolOp_and (h.run.use S fun Z₁ v st₁ w s₁ z₁ S₁ r₁ h₁ => wpAny_mono (h₁.run K Z₁ w s₁ S₁ r₁) (fun c s₂ ⟨Z₂, b, st₂, z₂, S₂, e, q⟩ => by
    cases e
    cases c
    · exact (Post.mk S₂ (VR.mono z₂ _ _ r₁) q : Post G K Z₂ _ VR Q w s₂).le (z₁.trans z₂)
    · exact wpLe (z₁.trans z₂) (q.run K Z₂ s₂ S₂)) fun _ _ x => x)⟩
theorem ev_or {a b : Expr} {rest : List Expr} {Q : V → St → Prop}
    (h : Ev G A env a st fun v st₁ => Tru G A env.locals v st₁ fun c st₂ => if c then Q v st₂ else Ev G A env (.BoolOp .Or (b :: rest) pos) st₂ Q) : Ev G A env (.BoolOp .Or (a :: b :: rest) pos) st Q :=
  ⟨fun K Z s S => BoolOp_or (h.run.use S fun Z₁ v st₁ w s₁ z₁ S₁ r₁ h₁ => wpAny_mono (h₁.run K Z₁ w s₁ S₁ r₁) (fun c s₂ ⟨Z₂, b, st₂, z₂, S₂, e, q⟩ => by
    cases e
    cases c
    · exact wpLe (z₁.trans z₂) (q.run K Z₂ s₂ S₂)
    · exact (Post.mk S₂ (VR.mono z₂ _ _ r₁) q : Post G K Z₂ _ VR Q w s₂).le (z₁.trans z₂)) fun _ _ x => x)⟩
theorem ev_bool_one {a : Expr} {op : BoolOp} {Q : V → St → Prop} (h : Ev G A env a st Q) : Ev G A env (.BoolOp op [a] pos) st Q := ⟨fun K Z s S => BoolOp_one (h.run K Z s S)⟩

/-! tests -/
theorem tst_not {x : Expr} {Q : Bool → St → Prop} (h : Tst G A env x st fun b st₁ => Q (!b) st₁) : Tst G A env (.UnaryOp .Not x pos) st Q :=
  ⟨fun K Z s S => isTrue_not (h.run.use S fun Z₁ b st₁ c s₁ z₁ S₁ e q => by cases e; exact ⟨Z₁, _, st₁, z₁, S₁, rfl, q⟩)⟩
theorem tst_and_nil {Q : Bool → St → Prop} (h : Q true st) : Tst G A env (.BoolOp .And [] pos) st Q := ⟨fun K Z s S => isTrue_and_nil (Post.mk (R := BR) S rfl h)⟩
theorem tst_or_nil {Q : Bool → St → Prop} (h : Q false st) : Tst G A env (.BoolOp .Or [] pos) st Q := ⟨fun K Z s S => isTrue_or_nil (Post.mk (R := BR) S rfl h)⟩
theorem tst_and {x : Expr} {rest : List Expr} {Q : Bool → St → Prop} (h : Tst G A env x st fun b st₁ => if b then Tst G A env (.BoolOp .And rest pos) st₁ Q else Q false st₁) :
    Tst G A env (.BoolOp .And (x :: rest) pos) st Q := ⟨fun K Z s S => isTrue_and (h.run.use S fun Z₁ b st₁ c s₁ z₁ S₁ e q => by
      cases e
      cases b
      · exact ⟨Z₁, false, st₁, z₁, S₁, rfl, q⟩
      · exact wpLe z₁ (q.run K Z₁ s₁ S₁))⟩
theorem tst_or {x : Expr} {rest : List Expr} {Q : Bool → St → Prop} (h : Tst G A env x st fun b st₁ => if b then Q true st₁ else Tst G A env (.BoolOp .Or rest pos) st₁ Q) :
    Tst G A env (.BoolOp .Or (x :: rest) pos) st Q := ⟨fun K Z s S => isTrue_or (h.run.use S fun Z₁ b st₁ c s₁ z₁ S₁ e q => by
      cases e
      cases b
      · exact wpLe z₁ (q.run K Z₁ s₁ S₁)
      · exact ⟨Z₁, true, st₁, z₁, S₁, rfl, q⟩)⟩
theorem tst_cmp {l r : Expr} {op : CmpOp} {Q : Bool → St → Prop} (hm : behindInMarks op r = false)
    (h : Ev G A env l st fun a st₁ => Ev G A env r st₁ fun b st₂ => Op2 G A env.locals (compareOp op) a b st₂ fun v st₃ => ∃ c, v = .bool c ∧ Q c st₃) :
    Tst G A env (.Compare l [op] [r] pos) st Q := ⟨fun K Z s S => wpAny_isTrue_Compare1 (h.run.use S fun Z₁ a st₁ w s₁ z₁ S₁ r₁ h₁ => h₁.run.use S₁ fun Z₂ b st₂ u s₂ z₂ S₂ r₂ h₂ =>
      wpAny_mono (h₂.run K Z₂ w u s₂ S₂ (VR.mono z₂ _ _ r₁) r₂) (fun x s₃ ⟨Z₃, v, st₃, z₃, S₃, r₃, c, hv, q⟩ => by
        subst hv
        rw [of_bool r₃]
        exact wpAny_truthy_bool ⟨Z₃, c, st₃, (z₁.trans z₂).trans z₃, S₃, rfl, q⟩) fun _ _ x => x) hm⟩
theorem tst_plain {e : Expr} {Q : Bool → St → Prop} (he : ∀ whole, isTrue e env whole = (do let v ← whole; standAt e.pos; holding [v] (truthy v)))
    (h : Ev G A env e st fun v st₁ => Tru G A env.locals v st₁ Q) : Tst G A env e st Q :=
  ⟨fun K Z s S => isTrue_plain (h.run.use S fun Z₁ v st₁ w s₁ z₁ S₁ r₁ h₁ => wpLe z₁ (h₁.run K Z₁ w s₁ S₁ r₁)) (he _)⟩

/-! argument lists -/
theorem evs_nil {Q : List V → St → Prop} (h : Q [] st) : Evs G A env [] st Q := ⟨fun _ K Z s S => Calls.spliced_nil (Post.mk (R := VRs) S .nil h)⟩
theorem evs_cons {e : Expr} {es : List Expr} {Q : List V → St → Prop} (hs : starEach (e :: es) env = (false, eval e env) :: starEach es env)
    (h : Ev G A env e st fun v st₁ => Evs G A env es st₁ fun vs st₂ => Q (v :: vs) st₂) : Evs G A env (e :: es) st Q := ⟨fun p K Z s S => by
  rw [hs]
  exact Calls.spliced_cons (h.run.use S fun Z₁ v st₁ w s₁ z₁ S₁ r₁ h₁ => (h₁.run p).use S₁ fun Z₂ vs st₂ ws s₂ z₂ S₂ r₂ q =>
    ⟨Z₂, v :: vs, st₂, z₁.trans z₂, S₂, .cons (VR.mono z₂ _ _ r₁) r₂, q⟩)⟩

/-- displays -/
theorem Sim.newTup {K Z : Zt} {L : Addr} {s : Shared} (S : Sim G K Z L st s) {vs : List V} {ws : List Value} (r : VRs Z vs ws) :
    ∃ Z', Zle Z Z' ∧ Sim G K Z' L st { s with heap := s.heap.push { cls := .type "tuple", data := .seq ws.toArray } } ∧ VR Z' (.tup vs) (.ref s.heap.objs.size) := by
  have S' := S.push { cls := .type "tuple", data := .seq ws.toArray } (tk := s.toks)
  obtain ⟨z, S''⟩ := S'.addZ (a := s.heap.objs.size) (o := { cls := .type "tuple", data := .seq ws.toArray }) S.fresh (Heap.get?_push_size _ rfl)
  refine ⟨_, z, S'', ?_⟩
  unfold VR
  exact ⟨_, ws, rfl, ⟨_, Zset.self, rfl, 0, rfl⟩, VRs.mono z _ _ r⟩
theorem Sim.newList {K Z : Zt} {L : Addr} {s : Shared} (S : Sim G K Z L st s) {vs : List V} {ws : List Value} (r : VRs Z vs ws) :
    Sim G K Z L ⟨st.loc, (s.heap.objs.size, vs) :: st.ar⟩ { s with heap := s.heap.push { cls := .type "list", data := .seq ws.toArray } } := by
  have S' := S.push { cls := .type "list", data := .seq ws.toArray } (tk := s.toks)
  have hf := S.fresh
  exact { S' with
    ar := fun p hp => by
      rcases List.mem_cons.mp hp with rfl | hp
      · refine ⟨?_, ?_, fun q => hf (.inr (.inr (.inl q))), ws, 0, Heap.get?_push_size _ rfl, r⟩
        · cases q : K s.heap.objs.size with
          | none => rfl
          | some o => exact absurd (.inl ⟨o, q⟩) hf
        · cases q : Z s.heap.objs.size with
          | none => rfl
          | some o => exact absurd (.inr (.inl ⟨o, q⟩)) hf
      · exact S'.ar p hp
    nd := by
      show (s.heap.objs.size :: st.ar.map (·.1)).Nodup
      refine List.nodup_cons.mpr ⟨fun hm => ?_, S.nd⟩
      obtain ⟨p, hp, e⟩ := List.mem_map.mp hm
      exact hf (.inr (.inr (.inr (.inl ⟨p, hp, e⟩))))
    tb := fun t ht => by
      obtain ⟨h1, h2, h3, h4, h5⟩ := S'.tb t ht
      refine ⟨h1, h2, h3, fun p hp => ?_, h5⟩
      rcases List.mem_cons.mp hp with rfl | hp
      · exact fun q => hf (.inr (.inr (.inr (.inr ⟨t, ht, q.symm⟩))))
      · exact h4 p hp }

theorem ev_tuple {es : List Expr} {k : Nat} {Q : V → St → Prop} (h : Evs G A env es st fun vs st₁ => vs.length ≤ 16777216 ∧ Q (.tup vs) st₁) : Ev G A env (.Tuple es k pos) st Q :=
  ⟨fun K Z s S => Tuple_ ((h.run pos).use S fun Z₁ vs st₁ ws s₁ z₁ S₁ r₁ ⟨hl, q⟩ => by
    obtain ⟨Z₂, z₂, S₂, r₂⟩ := S₁.newTup r₁
    refine wpAny_newObj_type (show Post _ _ _ _ _ _ _ _ from ⟨Z₂, _, st₁, z₁.trans z₂, S₂, r₂, q⟩) ?_
    show ws.toArray.size ≤ sizeLine
    rw [List.size_toArray, r₁.length, sizeLine_eq]; exact hl)⟩
theorem ev_list {es : List Expr} {Q : V → St → Prop} (h : Evs G A env es st fun vs st₁ => vs.length ≤ 16777216 ∧ ∀ a, (∀ p ∈ st₁.ar, p.1 ≠ a) → Q (.list a) ⟨st₁.loc, (a, vs) :: st₁.ar⟩) : Ev G A env (.List es pos) st Q :=
  ⟨fun K Z s S => List_ ((h.run pos).use S fun Z₁ vs st₁ ws s₁ z₁ S₁ r₁ ⟨hl, q⟩ => by
    have S₂ := S₁.newList r₁
    refine wpAny_newObj_type (show Post _ _ _ _ _ _ _ _ from ⟨Z₁, _, _, z₁, S₂, vr_list, q _ ?_⟩) ?_
    · exact fun p hp e => S₁.fresh (.inr (.inr (.inr (.inl ⟨p, hp, e⟩))))
    · show ws.toArray.size ≤ sizeLine
      rw [List.size_toArray, r₁.length, sizeLine_eq]; exact hl)⟩

/-! statements -/
theorem exs_nil {Q : Fl → St → Prop} (h : Q .next st) : Exs G A env [] st Q := ⟨fun K Z s S => wpAny_execs_nil (Post.mk (R := FR) (v := Fl.next) S rfl h)⟩
theorem exs_cons {x : Stmt} {rest : List Stmt} {Q : Fl → St → Prop} (h : Ex G A env x st fun f st₁ => match f with | .next => Exs G A env rest st₁ Q | f => Q f st₁) : Exs G A env (x :: rest) st Q :=
  ⟨fun K Z s S => wpAny_execs_cons (h.run.use S fun Z₁ f st₁ fl s₁ z₁ S₁ r₁ h₁ => by
    cases f with
    | next => cases r₁; exact wpLe z₁ (h₁.run K Z₁ s₁ S₁)
    | brk => cases r₁; exact ⟨Z₁, .brk, st₁, z₁, S₁, rfl, h₁⟩
    | cont => cases r₁; exact ⟨Z₁, .cont, st₁, z₁, S₁, rfl, h₁⟩
    | ret v => obtain ⟨w, rfl, r⟩ := r₁; exact ⟨Z₁, .ret v, st₁, z₁, S₁, ⟨w, rfl, r⟩, h₁⟩)⟩
theorem ex_ret {e : Expr} {Q : Fl → St → Prop} (h : Ev G A env e st fun v st₁ => Q (.ret v) st₁) : Ex G A env (.Return (some e) pos) st Q :=
  ⟨fun K Z s S => wpAny_Return_some (h.run.use S fun Z₁ v st₁ w s₁ z₁ S₁ r₁ q => ⟨Z₁, .ret v, st₁, z₁, S₁, ⟨w, rfl, r₁⟩, q⟩)⟩
theorem ex_if {t : Expr} {b o : List Stmt} {Q : Fl → St → Prop} (h : Tst G A env t st fun c st₁ => if c then Exs G A env b st₁ Q else Exs G A env o st₁ Q) : Ex G A env (.If t b o pos) st Q :=
  ⟨fun K Z s S => wpAny_If (h.run.use S fun Z₁ c st₁ w s₁ z₁ S₁ e h₁ => by
    cases e
    cases c
    · exact wpLe z₁ (h₁.run K Z₁ s₁ S₁)
    · exact wpLe z₁ (h₁.run K Z₁ s₁ S₁))⟩

def setL (x : Str) (v : V) : List (Str × V) → List (Str × V)
  | [] => [(x, v)]
  | (y, u) :: r => if y == x then (x, v) :: r else (y, u) :: setL x v r
theorem lookup_setL {x : Str} {v : V} : ∀ (l : List (Str × V)) (y : Str), (setL x v l).lookup y = if y = x then some v else l.lookup y
  | [], y => by
    simp only [setL, List.lookup_cons, List.lookup_nil]
    by_cases h : y = x
    · subst h; simp
    · have : (y == x) = false := by simpa using h
      simp [this, h]
  | (z, u) :: r, y => by
    simp only [setL]
    by_cases hz : z = x
    · subst hz
      simp only [beq_self_eq_true, if_true, List.lookup_cons]
      by_cases h : y = z
      · subst h; simp
      · have : (y == z) = false := by simpa using h
        simp [this, h]
    · have hz' : (z == x) = false := by simpa using hz
      simp only [hz', Bool.false_eq_true, if_false, List.lookup_cons, lookup_setL r y]
      by_cases h : y = z
      · subst h; simp [hz]
      · have : (y == z) = false := by simpa using h
        simp [this]
def St.set (st : St) (x : Str) (v : V) : St := ⟨setL x v st.loc, st.ar⟩

theorem Sim.store {K Z : Zt} {s : Shared} {x : Str} {v : V} {w : Value} (S : Sim G K Z env.locals st s) (r : VR Z v w) {P : Unit → Shared → Prop}
    (hk : env.scope.kind = .function) (hl : env.kindOf x = some .local) (h : ∀ s', Sim G K Z env.locals (st.set x v) s' → P () s') : wpAny G.M A (storeName env x w) P Nope s := by
  obtain ⟨m, hn, hm⟩ := S.ns
  refine wpAny_storeName_local hl hn (fun h' hn' hs => h _ ?_) (by rw [hk]; rfl)
  have hne : ∀ b, (∃ o, K b = some o) ∨ (∃ o, Z b = some o) ∨ (∃ p ∈ st.ar, p.1 = b) ∨ (∃ t ∈ G.tabs, t.P = b) → b ≠ env.locals := by
    rintro b (⟨o, e⟩ | ⟨o, e⟩ | ⟨p, hp, e⟩ | ⟨t, ht, e⟩) q
    · rw [q, S.kL] at e; cases e
    · rw [q, S.zL] at e; cases e
    · exact (S.ar p hp).2.2.1 (e.trans q)
    · exact (S.tb t ht).2.2.1 (e.trans q)
  exact {
    kk := fun b o e => (hs.2 b (hne b (.inl ⟨o, e⟩))).trans (S.kk b o e)
    zz := fun b o e => (hs.2 b (hne b (.inr (.inl ⟨o, e⟩)))).trans (S.zz b o e)
    kz := S.kz
    bz := S.bz
    ns := ⟨_, hn', fun y => by
      show LR Z ((setL x v st.loc).lookup y) _
      rw [lookup_setL]
      by_cases h : y = x
      · subst h; simp only [if_true]; exact r
      · simp only [h, if_false]; exact hm y⟩
    kL := S.kL
    zL := S.zL
    ar := fun p hp => by
      obtain ⟨h1, h2, h3, ws, n, e, r⟩ := S.ar p hp
      exact ⟨h1, h2, h3, ws, n, (hs.2 p.1 (hne p.1 (.inr (.inr (.inl ⟨p, hp, rfl⟩))))).trans e, r⟩
    nd := S.nd
    tb := fun t ht => by
      obtain ⟨h1, h2, h3, h4, ps, e, r⟩ := S.tb t ht
      exact ⟨h1, h2, h3, h4, ps, (hs.2 t.P (hne t.P (.inr (.inr (.inr ⟨t, ht, rfl⟩))))).trans e, r⟩
    gens := S.gens
    os := S.os
    cl := S.cl }

theorem asg_name {x : Str} {v : V} {Q : St → Prop} (hk : env.scope.kind = .function) (hl : env.kindOf x = some .local) (h : Q (st.set x v)) : Asg G A env (.Name x pos) v st Q :=
  ⟨fun K Z w s S r => wpAny_assign_Name (S.store r hk hl fun s' S' => ⟨Z, (), _, .refl, S', trivial, h⟩)⟩
theorem ex_assign {x : Str} {e : Expr} {p' : Pos} {Q : Fl → St → Prop} (hk : env.scope.kind = .function) (hl : env.kindOf x = some .local)
    (hs : swapsWith e (some (.Name x p')) pos.line env = pure false) (h : Ev G A env e st fun v st₁ => Q .next (st₁.set x v)) : Ex G A env (.Assign [.Name x p'] e pos) st Q :=
  ⟨fun K Z s S => wpAny_Assign_Name (h.run.use S fun Z₁ v st₁ w s₁ z₁ S₁ r₁ q => S₁.store r₁ hk hl fun s' S' => ⟨Z₁, .next, _, z₁, S', rfl, q⟩) hs⟩
theorem ex_assign_tup {es : List Expr} {k : Nat} {e : Expr} {p' : Pos} {Q : Fl → St → Prop} (hs : swapsWithSole [.Tuple es k p'] e pos.line env = pure false) (hw : swappedStores [.Tuple es k p'] e env = pure none)
    (h : Ev G A env e st fun v st₁ => Asg G A env (.Tuple es k p') v st₁ fun st₂ => Q .next st₂) : Ex G A env (.Assign [.Tuple es k p'] e pos) st Q :=
  ⟨fun K Z s S => Assign_Tuple (h.run.use S fun Z₁ v st₁ w s₁ z₁ S₁ r₁ h₁ => wpAny_mono (h₁.run K Z₁ w s₁ S₁ r₁) (fun _ s' ⟨Z₂, _, st₂, z₂, S₂, _, q⟩ => ⟨Z₂, .next, st₂, z₁.trans z₂, S₂, rfl, q⟩) fun _ _ x => x) hs hw⟩
end

end Mine

/-! part Fw3 -/
set_option maxRecDepth 100000
set_option Elab.async false
set_option linter.unusedVariables false
namespace Mine
open PySem PyProof.Rows

section
variable {G : Gl} {A : Around} {L : Addr} {st : St} {K Z : Zt} {s : Shared}

/-- K may take in an object of the heap that nothing else speaks of, and let it go again -/
theorem Sim.addK (S : Sim G K Z L st s) {a : Addr} {o : Obj} (ha : ¬ Tracked G K Z L st a) (e : s.heap.get? a = some o) : Sim G (Zset K a o) Z L st s := by
  have ne : ∀ b, Tracked G K Z L st b → b ≠ a := fun b hb q => ha (q ▸ hb)
  have hZa : Z a = none := by
    cases q : Z a with
    | none => rfl
    | some o' => exact absurd (.inr (.inl ⟨o', q⟩)) ha
  exact { S with
    kk := fun b o' e' => by
      unfold Zset at e'; split at e'
      · rename_i q; subst q; cases e'; exact e
      · exact S.kk b o' e'
    kz := fun b o' e' => by
      unfold Zset at e'; split at e'
      · rename_i q; subst q; exact hZa
      · exact S.kz b o' e'
    kL := by rw [Zset.ne (ne L (.inr (.inr (.inl rfl))))]; exact S.kL
    ar := fun p hp => by
      obtain ⟨h1, h2⟩ := S.ar p hp
      exact ⟨by rw [Zset.ne (ne p.1 (.inr (.inr (.inr (.inl ⟨p, hp, rfl⟩)))))]; exact h1, h2⟩
    tb := fun t ht => by
      obtain ⟨h1, h2⟩ := S.tb t ht
      exact ⟨by rw [Zset.ne (ne t.P (.inr (.inr (.inr (.inr ⟨t, ht, rfl⟩)))))]; exact h1, h2⟩ }

theorem Sim.lessK {K' : Zt} (S : Sim G K Z L st s) (h : Zle K' K) : Sim G K' Z L st s :=
  have nn : ∀ b, K b = none → K' b = none := fun b e => by
    cases q : K' b with
    | none => rfl
    | some o => rw [h b o q] at e; cases e
  { S with
    kk := fun b o e => S.kk b o (h b o e)
    kz := fun b o e => S.kz b o (h b o e)
    kL := nn _ S.kL
    ar := fun p hp => let ⟨h1, h2⟩ := S.ar p hp; ⟨nn _ h1, h2⟩
    tb := fun t ht => let ⟨h1, h2⟩ := S.tb t ht; ⟨nn _ h1, h2⟩ }

theorem Zset.le' {K : Zt} {a : Addr} {o : Obj} (h : K a = none) : Zle K (Zset K a o) := Zset.le h

/-- an address that K alone holds is not tracked once K has let it go -/
theorem not_tracked_dropK {a : Addr} {o : Obj} (S : Sim G (Zset K a o) Z L st s) (hK : K a = none) : ¬ Tracked G K Z L st a := by
  have e : Zset K a o a = some o := Zset.self
  rintro (⟨o', h⟩ | ⟨o', h⟩ | h | ⟨p, hp, h⟩ | ⟨t, ht, h⟩)
  · rw [hK] at h; cases h
  · rw [S.kz a o e] at h; cases h
  · subst h; rw [S.kL] at e; cases e
  · have := (S.ar p hp).1; rw [h, e] at this; cases this
  · have := (S.tb t ht).1; rw [h, e] at this; cases this
end

def rngItems (a b c : Int) : List V := (List.range (Builtin.Range.rangeSize a b c).toNat).map fun (i : Nat) => .int (a + (i : Int) * c)

def iterItems : V → Option (List V)
  | .fl xs => some xs
  | .tup xs => some xs
  | .str x => some (x.cps.toList.map fun c => .str ⟨#[c]⟩)
  | .rng a b c => if Builtin.Range.small a b c then some (rngItems a b c) else none
  | _ => none

def iterTypes : List String := ["list_iterator", "tuple_iterator", "str_ascii_iterator", "str_iterator", "range_iterator"]

structure Itr (G : Gl) (A : Around) (Z : Zt) (it : Addr) (xs : List V) (P : Nat → Obj → Prop) : Prop where
  next : ∀ {i : Nat} {v : V}, xs[i]? = some v → ∀ (s : Shared) (o : Obj) (Q : Option Value → Shared → Prop), (∀ b o, Z b = some o → s.heap.get? b = some o) → s.heap.get? it = some o → P i o →
    (∀ w h' tk o', VR Z v w → h'.get? it = some o' → P (i + 1) o' → Heap.SameBut it s.heap h' → Q (some w) { s with heap := h', toks := tk }) → wpAny G.M A (pyNext (.ref it)) Q Nope s
  done : ∀ (s : Shared) (o : Obj) (Q : Option Value → Shared → Prop), (∀ b o, Z b = some o → s.heap.get? b = some o) → s.heap.get? it = some o → P xs.length o →
    (∀ h', Heap.ExtBut it s.heap h' → Q none { s with heap := h' }) → wpAny G.M A (pyNext (.ref it)) Q Nope s
  kind : ∀ i o, P i o → ∃ T vs, T ∈ iterTypes ∧ o.cls = .type T ∧ o.data = .fields vs
  self : ∀ i o (s : Shared) (Q : Value → Shared → Prop), s.heap.get? it = some o → P i o → Q (.ref it) s → wpAny G.M A (pyIter (.ref it)) Q Nope s

theorem Itr.mono {G : Gl} {A : Around} {Z Z' : Zt} {it : Addr} {xs : List V} {P : Nat → Obj → Prop} (I : Itr G A Z it xs P) (h : Zle Z Z') : Itr G A Z' it xs P where
  next e s o Q hz ho hp hQ := I.next e s o Q (fun b o q => hz b o (h b o q)) ho hp fun w h' tk o' r => hQ w h' tk o' (VR.mono h _ _ r)
  done s o Q hz := I.done s o Q fun b o q => hz b o (h b o q)
  kind := I.kind
  self := I.self

theorem zseq_list {Z : Zt} {a : Addr} {ws : List Value} {h : Heap} (x : ZSeq Z "list" a ws) (hz : ∀ b o, Z b = some o → h.get? b = some o) : h.IsList a ws.toArray :=
  let ⟨o, e, hc, n, hd⟩ := x; ⟨o, hz _ _ e, hc, n, hd⟩
theorem zseq_tuple {Z : Zt} {a : Addr} {ws : List Value} {h : Heap} (x : ZSeq Z "tuple" a ws) (hz : ∀ b o, Z b = some o → h.get? b = some o) : h.IsTuple a ws.toArray :=
  let ⟨o, e, hc, n, hd⟩ := x; ⟨o, hz _ _ e, hc, n, hd⟩
theorem zseq_tup {Z : Zt} {a : Addr} {ws : List Value} {h : Heap} (x : ZSeq Z "tuple" a ws) (hz : ∀ b o, Z b = some o → h.get? b = some o) : IsTup h a ws.toArray :=
  let ⟨o, e, hc, n, hd⟩ := x; ⟨o, hz _ _ e, hc, n, hd⟩

theorem Itr.list {G : Gl} {A : Around} {Z : Zt} {it l : Addr} {xs : List V} {ws : List Value} (hh : A.handled = none) (hz : ZSeq Z "list" l ws) (r : VRs Z xs ws) (hne : l ≠ it) :
    Itr G A Z it xs fun i o => o.cls = .type "list_iterator" ∧ o.data = .fields #[.ref l, .int i 0] where
  next {i v} e s o Q hs ho hp hQ := by
    obtain ⟨w, hw, hr⟩ := r.get i e
    exact wpAny_pyNext_list_item (x := w) ⟨o, ho, hp⟩ (zseq_list hz hs) (by simpa using hw) fun h' ⟨o', e', hp'⟩ hsb => hQ w h' s.toks o' hr e' hp' hsb
  done s o Q hs ho hp hQ := wpAny_pyNext_list_end hh ⟨o, ho, hp⟩ (zseq_list hz hs) (by rw [List.getElem?_toArray, List.getElem?_eq_none]; rw [r.length]; exact Nat.le_refl _) fun h' hx => hQ h' hx
  kind i o hp := ⟨_, _, by decide, hp.1, hp.2⟩
  self i o s Q ho hp h := wpAny_pyIter_listiter ⟨o, ho, hp⟩ h

theorem Itr.tuple {G : Gl} {A : Around} {Z : Zt} {it l : Addr} {xs : List V} {ws : List Value} (hh : A.handled = none) (hz : ZSeq Z "tuple" l ws) (r : VRs Z xs ws) (hne : l ≠ it) :
    Itr G A Z it xs fun i o => o.cls = .type "tuple_iterator" ∧ o.data = .fields #[.ref l, .int i 0] where
  next {i v} e s o Q hs ho hp hQ := by
    obtain ⟨w, hw, hr⟩ := r.get i e
    exact wpAny_pyNext_tuple_item (x := w) ⟨o, ho, hp⟩ (zseq_tuple hz hs) (by simpa using hw) fun h' ⟨o', e', hp'⟩ hsb => hQ w h' s.toks o' hr e' hp' hsb
  done s o Q hs ho hp hQ := wpAny_pyNext_tuple_end hh ⟨o, ho, hp⟩ (zseq_tuple hz hs) (by rw [List.getElem?_toArray, List.getElem?_eq_none]; rw [r.length]; exact Nat.le_refl _) fun h' hx => hQ h' hx
  kind i o hp := ⟨_, _, by decide, hp.1, hp.2⟩
  self i o s Q ho hp h := wpAny_pyIter_tupleiter ⟨o, ho, hp⟩ h

theorem Itr.strA {G : Gl} {A : Around} {Z : Zt} {it : Addr} {x : Str} {t : Tok} (hh : A.handled = none) :
    Itr G A Z it (x.cps.toList.map fun c => V.str ⟨#[c]⟩) fun i o => o.cls = .type "str_ascii_iterator" ∧ o.data = .fields #[.str x t, .int i 0] where
  next {i v} e s o Q hs ho hp hQ := by
    rw [List.getElem?_map, Array.getElem?_toList] at e
    obtain ⟨c, hc, rfl⟩ := Option.map_eq_some_iff.mp e
    exact wpAny_pyNext_ascii_item ⟨o, ho, hp⟩ hc fun h' ⟨o', e', hp'⟩ hsb => hQ _ h' _ o' vr_str e' hp' hsb
  done s o Q hs ho hp hQ := wpAny_pyNext_ascii_end hh ⟨o, ho, hp⟩ (by rw [Array.getElem?_eq_none]; simp) fun h' hx => hQ h' hx
  kind i o hp := ⟨_, _, by decide, hp.1, hp.2⟩
  self i o s Q ho hp h := wpAny_pyIter_striter_ascii ⟨o, ho, hp⟩ h

theorem Itr.strW {G : Gl} {A : Around} {Z : Zt} {it : Addr} {x : Str} {t : Tok} (hh : A.handled = none) :
    Itr G A Z it (x.cps.toList.map fun c => V.str ⟨#[c]⟩) fun i o => o.cls = .type "str_iterator" ∧ o.data = .fields #[.str x t, .int i 0] where
  next {i v} e s o Q hs ho hp hQ := by
    rw [List.getElem?_map, Array.getElem?_toList] at e
    obtain ⟨c, hc, rfl⟩ := Option.map_eq_some_iff.mp e
    exact wpAny_pyNext_wide_item ⟨o, ho, hp⟩ hc fun h' ⟨o', e', hp'⟩ hsb => hQ _ h' _ o' vr_str e' hp' hsb
  done s o Q hs ho hp hQ := wpAny_pyNext_wide_end hh ⟨o, ho, hp⟩ (by rw [Array.getElem?_eq_none]; simp) fun h' hx => hQ h' hx
  kind i o hp := ⟨_, _, by decide, hp.1, hp.2⟩
  self i o s Q ho hp h := wpAny_pyIter_striter_wide ⟨o, ho, hp⟩ h

theorem rangeSize_nonneg (a b c : Int) : 0 ≤ Builtin.Range.rangeSize a b c := by
  unfold Builtin.Range.rangeSize
  split
  · split
    · have : 0 ≤ (b - a - 1) / c := Int.ediv_nonneg (by omega) (by omega)
      omega
    · omega
  · split
    · by_cases h : c = 0
      · subst h; simp
      · have : 0 ≤ (a - b - 1) / (-c) := Int.ediv_nonneg (by omega) (by omega)
        omega
    · omega

theorem Itr.rng {G : Gl} {A : Around} {Z : Zt} {it : Addr} {a b c : Int} (hh : A.handled = none) :
    Itr G A Z it (rngItems a b c) fun i o => o = { cls := .type "range_iterator", dict := none, data := .fields #[rawInt (a + (i : Int) * c), rawInt (Builtin.Range.rangeSize a b c - i), rawInt c], slots := #[] } where
  next {i v} e s o Q hs ho hp hQ := by
    subst hp
    unfold rngItems at e
    rw [List.getElem?_map] at e
    obtain ⟨j, hj, rfl⟩ := Option.map_eq_some_iff.mp e
    obtain ⟨hlt, rfl⟩ := List.getElem?_eq_some_iff.mp hj
    rw [List.length_range] at hlt
    rw [List.getElem_range] at hQ
    refine wpAny_pyNext_range_item ho (by omega) fun h' e' hsb => hQ _ h' _ _ vr_int e' ?_ hsb
    have e1 : a + ((i + 1 : Nat) : Int) * c = a + (i : Int) * c + c := by
      have : ((i + 1 : Nat) : Int) * c = (i : Int) * c + c := by rw [show ((i + 1 : Nat) : Int) = (i : Int) + 1 from rfl, Int.add_mul, Int.one_mul]
      omega
    have e2 : Builtin.Range.rangeSize a b c - ((i + 1 : Nat) : Int) = Builtin.Range.rangeSize a b c - (i : Int) - 1 := by omega
    rw [e1, e2]
  done s o Q hs ho hp hQ := by
    subst hp
    have := rangeSize_nonneg a b c
    refine wpAny_pyNext_range_end hh ho ?_ fun h' hx => hQ h' hx
    simp only [rngItems, List.length_map, List.length_range]; omega
  kind i o hp := by subst hp; exact ⟨"range_iterator", _, by decide, rfl, rfl⟩
  self i o s Q ho hp h := by subst hp; exact wpAny_pyIter_rangeiter ho h

section
variable {G : Gl} {A : Around} {L : Addr} {st : St} {K Z : Zt} {s : Shared}
theorem of_rng {Z : Zt} {a b c : Int} {w : Value} (h : VR Z (.rng a b c) w) : ∃ r t u v, w = .ref r ∧ Z r = some { cls := .type "range", dict := none, data := .fields #[.int a t, .int b u, .int c v], slots := #[] } := by unfold VR at h; exact h

theorem pyIter_use (S : Sim G K Z L st s) (hh : A.handled = none) {v : V} {w : Value} {xs : List V} (r : VR Z v w) (hx : iterItems v = some xs) {Q : Value → Shared → Prop}
    (h : ∀ P o, o.isFreed = false → Itr G A Z s.heap.objs.size xs P → P 0 o → Q (.ref s.heap.objs.size) { s with heap := s.heap.push o }) : wpAny G.M A (pyIter w) Q Nope s := by
  cases v with
  | fl ys =>
    cases hx
    obtain ⟨a, ws, rfl, hz, hr⟩ := of_fl r
    have hl := zseq_list hz S.zz
    exact wpAny_pyIter_list hl (h _ _ rfl (Itr.list hh hz hr (by obtain ⟨o, e, _⟩ := hl; exact Nat.ne_of_lt (Heap.lt_size e))) ⟨rfl, rfl⟩)
  | tup ys =>
    cases hx
    obtain ⟨a, ws, rfl, hz, hr⟩ := of_tup r
    have hl := zseq_tuple hz S.zz
    exact wpAny_pyIter_tuple hl (h _ _ rfl (Itr.tuple hh hz hr (by obtain ⟨o, e, _⟩ := hl; exact Nat.ne_of_lt (Heap.lt_size e))) ⟨rfl, rfl⟩)
  | str x =>
    cases hx
    obtain ⟨t, rfl⟩ := of_str r
    cases ha : x.cps.all (· < 128) with
    | true => exact wpAny_pyIter_ascii ha (h _ _ rfl (Itr.strA (t := t) hh) ⟨rfl, rfl⟩)
    | false => exact wpAny_pyIter_wide ha (h _ _ rfl (Itr.strW (t := t) hh) ⟨rfl, rfl⟩)
  | rng a b c =>
    simp only [iterItems] at hx
    split at hx
    · rename_i hs
      cases hx
      obtain ⟨q, t, u, z, rfl, e⟩ := of_rng r
      refine wpAny_pyIter_range (S.zz _ _ e) hs (h _ _ rfl (Itr.rng hh) ?_)
      simp
    · cases hx
  | _ => cases hx

theorem letOwned_ok {target : Expr} {it : Addr} {o : Obj} {T : String} {vs : Array Value} {v : Value} {Q : Unit → Shared → Prop} (ho : s.heap.get? it = some o) (hT : T ∈ iterTypes) (hc : o.cls = .type T) (hd : o.data = .fields vs)
    (h : Q () s) : wpAny G.M A (letOwnedTupleGo target (.ref it) v) Q Nope s := by
  have key : wpAny G.M A (match (Value.ref it, v) with
      | (.ref r, .ref a) => do
        let o ← load r
        match o.cls, o.data with
        | .type n, .fields vs =>
          if ["enumerate", "zip", "dict_itemiterator", "dict_reverseitemiterator", "odict_iterator", "itertools.zip_longest", "itertools.pairwise"].contains n && vs[0]? == some (rawInt a) then do
            rule "for.unpacks-the-owned-tuple"
            updateField r 0 .none
          else pure ()
        | _, _ => pure ()
      | _ => pure ()) Q Nope s := by
    cases v with
    | ref a =>
      refine wpAny_bind (wpAny_load ho ?_)
      rw [hc, hd]
      have : (["enumerate", "zip", "dict_itemiterator", "dict_reverseitemiterator", "odict_iterator", "itertools.zip_longest", "itertools.pairwise"].contains T) = false := by
        simp only [iterTypes, List.mem_cons, List.mem_nil_iff, or_false] at hT
        rcases hT with rfl | rfl | rfl | rfl | rfl <;> decide
      simp only [this, Bool.false_and, Bool.false_eq_true, if_false]
      exact wpAny_pure h
    | _ => exact wpAny_pure h
  unfold letOwnedTupleGo
  split
  · exact key
  · exact key
  · exact wpAny_pure h
end
end Mine

/-! part Fw4 -/
set_option maxRecDepth 100000
set_option Elab.async false
set_option linter.unusedVariables false
namespace Mine
open PySem PyProof.Rows

/-- a value and a state say all that others say -/
def EntV (G : Gl) (L : Addr) (v : V) (st : St) (v' : V) (st' : St) : Prop :=
  ∀ K Z w s, Sim G K Z L st s → VR Z v w → ∃ Z', Zle Z Z' ∧ Sim G K Z' L st' s ∧ VR Z' v' w
theorem EntV.refl {G : Gl} {L : Addr} {v : V} {st : St} : EntV G L v st v st := fun _ Z _ _ S r => ⟨Z, .refl, S, r⟩
theorem EntV.trans {G : Gl} {L : Addr} {v v' v'' : V} {st st' st'' : St} (h : EntV G L v st v' st') (h' : EntV G L v' st' v'' st'') : EntV G L v st v'' st'' := fun K Z w s S r =>
  let ⟨Z', a, b, c⟩ := h K Z w s S r; let ⟨Z'', a', b', c'⟩ := h' K Z' w s b c; ⟨Z'', a.trans a', b', c'⟩
theorem EntV.freeze {G : Gl} {L : Addr} {v : V} {st : St} {a : Addr} {xs : List V} (ha : (a, xs) ∈ st.ar) : EntV G L v st (v.fz a xs) (st.fz a xs) := fun K Z w s S r =>
  let ⟨Z', h1, h2, h3⟩ := S.freeze ha; ⟨Z', h1, h2, h3 v w r⟩
theorem EntV.of {G : Gl} {L : Addr} {v : V} {st st' : St} (h : Ent G L st st') : EntV G L v st v st' := fun K Z w s S r =>
  let ⟨Z', a, b⟩ := h K Z s S; ⟨Z', a, b, VR.mono a v w r⟩

section
variable {prog : Program} {w : World} {A : Around} {s : Shared} {env : Env}
theorem codeAny_forTurn {R : Result → Shared → Prop} {target it body orelse}
    (h : wpAny (model prog w) A (pyNext it) (fun r s₁ => match r with
      | none => wpAny (model prog w) A (execs orelse env) (fun f s₃ => R (.ok f) s₃) Nope s₁
      | some v => wpAny (model prog w) A (letOwnedTupleGo target it v) (fun _ s₁' =>
          wpAny (model prog w) A (assign target env v) (fun _ s₂ => wpAny (model prog w) A (execs body env) (fun f s₃ => match f with
            | .next | .cont => codeAny (model prog w) A (.forLoop target it body orelse env) R s₃
            | .brk => R (.ok .next) s₃
            | .ret v => R (.ok (.ret v)) s₃) Nope s₂) Nope s₁') Nope s₁) Nope s) :
    codeAny (model prog w) A (.forLoop target it body orelse env) R s := by
  refine codeAny_of_tree ?_
  show wpAny _ (A.under (.forLoop target it body orelse env)) ((forTurn target it body orelse env).onRaise (fun x => do noteFrame x env; theTreesLotGoes x)) _ _ s
  rw [Around.under_of_weight (c := .forLoop target it body orelse env) rfl rfl]
  refine wpAny_onRaise (wpAny_mono (E := Nope) ?_ (fun _ _ q => q) fun _ _ x => x.elim)
  simp only [forTurn]
  refine wpAny_bind (wpAny_standAt (wpAny_bind (wpAny_onRaise (wpAny_mono h (fun r s₁ h₁ => ?_) fun _ _ h' => h'.elim))))
  cases r with
  | none => exact wpAny_pure ⟨rfl, codeAny_block (wpAny_mono h₁ (fun _ _ q => q) fun _ _ x => x.elim)⟩
  | some v =>
    refine wpAny_bind (wpAny_mono h₁ (fun _ s₁' h₁' => ?_) fun _ _ h' => h')
    refine wpAny_bind (wpAny_mono h₁' (fun _ s₂ h₂ => wpAny_bind (wpAny_mono h₂ (fun f s₃ h₃ => ?_) fun _ _ h' => h')) fun _ _ h' => h')
    cases f with
    | next => exact wpAny_pure ⟨rfl, h₃⟩
    | cont => exact wpAny_pure ⟨rfl, h₃⟩
    | brk => exact wpAny_pure h₃
    | ret v => exact wpAny_pure h₃

theorem codeAny_whileTurn {R : Result → Shared → Prop} {test body orelse}
    (h : wpAny (model prog w) A (isTrue test env (eval test env)) (fun b s₂ =>
        if b then wpAny (model prog w) A (execs body env) (fun f s₃ => match f with
            | .next | .cont => codeAny (model prog w) A (.whileLoop test body orelse env) R s₃
            | .brk => R (.ok .next) s₃
            | .ret v => R (.ok (.ret v)) s₃) Nope s₂
        else wpAny (model prog w) A (execs orelse env) (fun f s₃ => R (.ok f) s₃) Nope s₂) Nope s) :
    codeAny (model prog w) A (.whileLoop test body orelse env) R s := by
  refine codeAny_of_tree ?_
  show wpAny _ (A.under (.whileLoop test body orelse env)) ((whileTurn test body orelse env).onRaise (fun x => do noteFrame x env; theTreesLotGoes x)) _ _ s
  rw [Around.under_of_weight (c := .whileLoop test body orelse env) rfl rfl]
  refine wpAny_onRaise (wpAny_mono (E := Nope) ?_ (fun _ _ q => q) fun _ _ x => x.elim)
  simp only [whileTurn]
  refine wpAny_bind (wpAny_mono h (fun b s₂ h₂ => ?_) fun _ _ h' => h')
  cases b with
  | false =>
    simp only [Bool.false_eq_true, if_false] at h₂ ⊢
    exact wpAny_bind (wpAny_mono h₂ (fun f s₃ h₃ => wpAny_pure h₃) fun _ _ h' => h')
  | true =>
    simp only [if_true] at h₂ ⊢
    refine wpAny_bind (wpAny_mono h₂ (fun f s₃ h₃ => ?_) fun _ _ h' => h')
    cases f with
    | next => exact wpAny_pure ⟨rfl, h₃⟩
    | cont => exact wpAny_pure ⟨rfl, h₃⟩
    | brk => exact wpAny_pure h₃
    | ret v => exact wpAny_pure h₃
end

def OkR (P : Flow → Shared → Prop) : Result → Shared → Prop
  | .ok f, s => P f s
  | .error _, _ => False

/-- a for over the items that are left -/
structure ForT (G : Gl) (A : Around) (env : Env) (t : Expr) (body orelse : List Stmt) (xs : List V) (st : St) (Q : Fl → St → Prop) : Prop where
  run : ∀ K Z s it done P o, Itr G A Z it (done ++ xs) P → Sim G K Z env.locals st s → s.heap.get? it = some o → P done.length o → ¬ Tracked G K Z env.locals st it →
    codeAny G.M A (.forLoop t (.ref it) body orelse env) (OkR (Post G K Z env.locals FR Q)) s
structure WhT (G : Gl) (A : Around) (env : Env) (t : Expr) (body orelse : List Stmt) (st : St) (Q : Fl → St → Prop) : Prop where
  run : ∀ K Z s, Sim G K Z env.locals st s → codeAny G.M A (.whileLoop t body orelse env) (OkR (Post G K Z env.locals FR Q)) s

section
variable {G : Gl} {A : Around} {env : Env} {st : St} {t : Expr} {body orelse : List Stmt} {Q : Fl → St → Prop} {pos : Pos}

theorem ForT.ent {xs : List V} {st₀ : St} (he : Ent G env.locals st st₀) (h : ForT G A env t body orelse xs st₀ Q) : ForT G A env t body orelse xs st Q :=
  ⟨fun K Z s it done P o I S ho hp ht => by
    -- keep the iterator while the state is changed
    have hK : K it = none := by
      cases q : K it with
      | none => rfl
      | some o' => exact absurd (.inl ⟨o', q⟩) ht
    have S₁ := S.addK ht ho
    obtain ⟨Z', z, S'⟩ := he _ _ _ S₁
    have ht' := not_tracked_dropK S' hK
    exact codeAny_mono (h.run K Z' s it done P o (I.mono z) (S'.lessK (Zset.le' hK)) ho hp ht') fun r s' hr => by
      cases r with
      | ok f => exact Post.le hr z
      | error x => exact hr⟩

theorem for_nil (h : Exs G A env orelse st Q) : ForT G A env t body orelse [] st Q :=
  ⟨fun K Z s it done P o I S ho hp ht => by
    refine codeAny_forTurn (I.done s o _ S.zz ho (by simpa using hp) fun h' hx => ?_)
    exact h.run K Z _ (S.ext hx ht)⟩

theorem for_cons {x : V} {xs : List V} (h : Asg G A env t x st fun st₁ => Exs G A env body st₁ fun f st₂ => match f with
    | .next | .cont => ForT G A env t body orelse xs st₂ Q
    | .brk => Q .next st₂
    | .ret v => Q (.ret v) st₂) : ForT G A env t body orelse (x :: xs) st Q :=
  ⟨fun K Z s it done P o I S ho hp ht => by
    have hK : K it = none := by
      cases q : K it with
      | none => rfl
      | some o' => exact absurd (.inl ⟨o', q⟩) ht
    refine codeAny_forTurn (I.next (i := done.length) (v := x) (by simp) s o _ S.zz ho hp fun w h' tk o' r ho' hp' hsb => ?_)
    have S₁ : Sim G K Z env.locals st { s with heap := h', toks := tk } := S.ext hsb.extBut ht
    obtain ⟨T, vs, hT, hc, hd⟩ := I.kind _ _ hp'
    refine letOwned_ok ho' hT hc hd ?_
    refine wpAny_mono (h.run _ Z w _ (S₁.addK ht ho') r) (fun _ s₂ ⟨Z₂, _, st₂, z₂, S₂, _, h₂⟩ => ?_) fun _ _ x => x
    refine wpAny_mono (h₂.run _ Z₂ s₂ S₂) (fun f s₃ ⟨Z₃, fl, st₃, z₃, S₃, r₃, h₃⟩ => ?_) fun _ _ x => x
    have z := z₂.trans z₃
    have S₄ := S₃.lessK (Zset.le' (o := o') hK)
    have ht₃ := not_tracked_dropK S₃ hK
    have again : ForT G A env t body orelse xs st₃ Q → codeAny G.M A (.forLoop t (.ref it) body orelse env) (OkR (Post G K Z env.locals FR Q)) s₃ := fun hf => by
      refine codeAny_mono (hf.run K Z₃ s₃ it (done ++ [x]) P o' (by rw [List.append_assoc]; exact I.mono z) S₄ (S₃.kk _ _ Zset.self) (by simpa using hp') ht₃) fun r s' hr => ?_
      cases r with
      | ok f => exact Post.le hr z
      | error x => exact hr
    cases fl with
    | next => cases r₃; exact again h₃
    | cont => cases r₃; exact again h₃
    | brk => cases r₃; exact ⟨Z₃, .next, st₃, z, S₄, rfl, h₃⟩
    | ret v => obtain ⟨u, rfl, hu⟩ := r₃; exact ⟨Z₃, .ret v, st₃, z, S₄, ⟨u, rfl, hu⟩, h₃⟩⟩

theorem ex_for {iter : Expr} (hA : A.handled = none) (hs : ∀ x, foldedSetIterable iter env x = pure x)
    (h : Ev G A env iter st fun v st₁ => ∃ v' st₂ xs, EntV G env.locals v st₁ v' st₂ ∧ iterItems v' = some xs ∧ ForT G A env t body orelse xs st₂ Q) : Ex G A env (.For t iter body orelse pos) st Q :=
  ⟨fun K Z s S => wpAny_For (h.run.use S fun Z₁ v st₁ w s₁ z₁ S₁ r₁ ⟨v', st₂, xs, he, hx, hf⟩ => by
    obtain ⟨Z₂, z₂, S₂, r₂⟩ := he K Z₁ w s₁ S₁ r₁
    refine pyIter_use S₂ hA r₂ hx fun P o ho I hp => ?_
    have := hf.run K Z₂ _ s₁.heap.objs.size [] P o I (S₂.push o (tk := s₁.toks)) (Heap.get?_push_size _ ho) hp S₂.fresh
    refine codeAny_mono this fun r s' hr => ?_
    cases r with
    | ok f => exact Post.le hr (z₁.trans z₂)
    | error x => exact hr.elim) hs⟩

theorem wh_step (h : Tst G A env t st fun b st₁ => if b then Exs G A env body st₁ (fun f st₂ => match f with
      | .next | .cont => WhT G A env t body orelse st₂ Q
      | .brk => Q .next st₂
      | .ret v => Q (.ret v) st₂) else Exs G A env orelse st₁ Q) : WhT G A env t body orelse st Q :=
  ⟨fun K Z s S => codeAny_whileTurn (h.run.use S fun Z₁ b st₁ c s₁ z₁ S₁ e h₁ => by
    cases e
    cases b
    · exact wpAny_mono (h₁.run K Z₁ s₁ S₁) (fun f s₂ p => Post.le p z₁) fun _ _ x => x
    · refine wpAny_mono (h₁.run K Z₁ s₁ S₁) (fun f s₃ ⟨Z₃, fl, st₃, z₃, S₃, r₃, h₃⟩ => ?_) fun _ _ x => x
      have z := z₁.trans z₃
      have again : WhT G A env t body orelse st₃ Q → codeAny G.M A (.whileLoop t body orelse env) (OkR (Post G K Z env.locals FR Q)) s₃ := fun hf =>
        codeAny_mono (hf.run K Z₃ s₃ S₃) fun r s' hr => by
          cases r with
          | ok f => exact Post.le hr z
          | error x => exact hr
      cases fl with
      | next => cases r₃; exact again h₃
      | cont => cases r₃; exact again h₃
      | brk => cases r₃; exact ⟨Z₃, .next, st₃, z, S₃, rfl, h₃⟩
      | ret v => obtain ⟨u, rfl, hu⟩ := r₃; exact ⟨Z₃, .ret v, st₃, z, S₃, ⟨u, rfl, hu⟩, h₃⟩)⟩
theorem WhT.ent {st₀ : St} (he : Ent G env.locals st st₀) (h : WhT G A env t body orelse st₀ Q) : WhT G A env t body orelse st Q :=
  ⟨fun K Z s S => let ⟨Z', z, S'⟩ := he K Z s S; codeAny_mono (h.run K Z' s S') fun r s' hr => by
    cases r with
    | ok f => exact Post.le hr z
    | error x => exact hr⟩
theorem ex_while (h : WhT G A env t body orelse st Q) : Ex G A env (.While t body orelse pos) st Q :=
  ⟨fun K Z s S => wpAny_While (codeAny_mono (h.run K Z s S) fun r s' hr => by
    cases r with
    | ok f => exact hr
    | error x => exact hr.elim)⟩
end
end Mine

/-! part Fw5 -/
set_option maxRecDepth 100000
set_option Elab.async false
set_option linter.unusedVariables false
namespace Mine
open PySem PyProof.Rows

section
variable {G : Gl} {A : Around} {L : Addr} {st : St} {K Z : Zt} {s : Shared}

theorem draw_use {it : Addr} {P : Nat → Obj → Prop} : ∀ (xs done rest : List V) (s : Shared) (o : Obj) (Q : List Value → Shared → Prop), Itr G A Z it (done ++ (xs ++ rest)) P → Sim G K Z L st s → s.heap.get? it = some o → P done.length o → ¬ Tracked G K Z L st it →
    (∀ ws h' tk o', VRs Z xs ws → h'.get? it = some o' → P (done.length + xs.length) o' → Heap.SameBut it s.heap h' → Q ws { s with heap := h', toks := tk }) → wpAny G.M A (draw (.ref it) xs.length) Q Nope s
  | [], done, rest, s, o, Q, I, S, ho, hp, ht, hQ => by
    show wpAny _ _ (pure []) Q _ s
    exact wpAny_pure (hQ [] s.heap s.toks o .nil ho hp (.refl ..))
  | x :: xs, done, rest, s, o, Q, I, S, ho, hp, ht, hQ => by
    show wpAny _ _ (pyNext (.ref it) >>= _) Q _ s
    refine wpAny_bind (I.next (i := done.length) (v := x) (by simp) s o _ S.zz ho hp fun w h' tk o' r ho' hp' hsb => ?_)
    have S₁ : Sim G K Z L st { s with heap := h', toks := tk } := S.ext hsb.extBut ht
    refine wpAny_bind (wpAny_holding (draw_use xs (done ++ [x]) rest _ o' _ (by simpa using I) S₁ ho' (by simpa using hp') ht fun ws h'' tk' o'' r' ho'' hp'' hsb' => ?_))
    refine wpAny_pure (hQ (w :: ws) h'' tk' o'' (.cons r r') ho'' ?_ (hsb.trans hsb'))
    have : (done ++ [x]).length + xs.length = done.length + (x :: xs).length := by simp only [List.length_append, List.length_cons, List.length_nil]; omega
    rw [← this]; exact hp''

theorem iterable_use (S : Sim G K Z L st s) {v : V} {w : Value} {xs : List V} (r : VR Z v w) (hx : iterItems v = some xs) (hr : ∀ a b c, v ≠ .rng a b c) {Q : Bool → Shared → Prop} (h : Q false s) : wpAny G.M A (notIterableAtAll w) Q Nope s := by
  have go : ∀ {T : String} {id : String}, s.TypeIs w T → typeLookup (.type T) "__iter__" = pure (some (.builtin id)) → wpAny G.M A (notIterableAtAll w) Q Nope s := fun hT hl => by
    unfold notIterableAtAll
    exact wpAny_bind (wpAny_specialOf hT hl (wpAny_pure h))
  cases v with
  | fl ys => obtain ⟨a, ws, rfl, hz, _⟩ := of_fl r; exact go (zseq_list hz S.zz).typeIs slot_list_iter.lookup
  | tup ys => obtain ⟨a, ws, rfl, hz, _⟩ := of_tup r; exact go (zseq_tuple hz S.zz).typeIs F.slot_tuple_iter.lookup
  | str x => obtain ⟨t, rfl⟩ := of_str r; exact go (typeIs_str s x t) F.slot_str_iter.lookup
  | rng a b c => exact absurd rfl (hr a b c)
  | _ => cases hx

theorem unpack_use (S : Sim G K Z L st s) (hA : A.handled = none) {v : V} {w : Value} {xs : List V} (r : VR Z v w) (hx : iterItems v = some xs) (hr : ∀ a b c, v ≠ .rng a b c) {Q : List Value → Shared → Prop}
    (h : ∀ ws s', VRs Z xs ws → Sim G K Z L st s' → Q ws s') : wpAny G.M A (unpackItems w xs.length none) Q Nope s := by
  unfold unpackItems
  refine wpAny_bind (iterable_use S r hx hr ?_)
  simp only [Bool.false_eq_true, if_false]
  refine wpAny_bind (wpAny_holding (pyIter_use S hA r hx fun P o ho I hp => ?_))
  have S₁ := S.push o (tk := s.toks)
  have ht := S.fresh
  refine wpAny_bind (wpAny_holding (draw_use xs [] [] _ o _ (by simpa using I) S₁ (Heap.get?_push_size _ ho) hp ht fun ws h' tk o' r' ho' hp' hsb => ?_))
  have S₂ : Sim G K Z L st { s with heap := h', toks := tk } := S₁.ext hsb.extBut ht
  rw [if_neg (by rw [r'.length]; exact Nat.lt_irrefl _)]
  refine wpAny_bind (wpAny_holding (I.done _ o' _ S₂.zz ho' (by simpa using hp') fun h'' hx'' => ?_))
  simp only [Option.isSome_none, Bool.false_eq_true, if_false]
  exact wpAny_pure (h ws _ r' (S₂.ext hx'' ht))
end

/-- targets, one after the other -/
structure Asgs (G : Gl) (A : Around) (env : Env) (ts : List Expr) (vs : List V) (st : St) (Q : St → Prop) : Prop where
  run : ∀ K Z ws s, Sim G K Z env.locals st s → VRs Z vs ws → wpAny G.M A (assignInOrder ((assignEach ts env).map (·.2)) ws) (Post G K Z env.locals UR fun _ => Q) Nope s

section
variable {G : Gl} {A : Around} {env : Env} {st : St} {pos : Pos} {Q : St → Prop}
theorem asgs_nil (h : Q st) : Asgs G A env [] [] st Q := ⟨fun K Z ws s S r => by
  rw [r.of_nil]
  show wpAny _ _ (pure ()) _ _ s
  exact wpAny_pure ⟨Z, (), st, .refl, S, trivial, h⟩⟩
theorem asgs_cons {t : Expr} {ts : List Expr} {v : V} {vs : List V} (ha : assignEach (t :: ts) env = (false, assign t env) :: assignEach ts env) (h : Asg G A env t v st fun st₁ => Asgs G A env ts vs st₁ Q) : Asgs G A env (t :: ts) (v :: vs) st Q :=
  ⟨fun K Z ws s S r => by
    obtain ⟨w, ws', rfl, r₁, r₂⟩ := r.of_cons
    rw [ha]
    show wpAny _ _ (holding ws' (assign t env w) >>= fun _ => assignInOrder ((assignEach ts env).map (·.2)) ws') _ _ s
    refine wpAny_bind (wpAny_holding (wpAny_mono (h.run K Z w s S r₁) (fun _ s₁ ⟨Z₁, _, st₁, z₁, S₁, _, h₁⟩ => ?_) fun _ _ x => x))
    exact wpLe z₁ (h₁.run K Z₁ ws' s₁ S₁ (VRs.mono z₁ _ _ r₂))⟩
theorem asg_tuple {ts : List Expr} {k : Nat} {v : V} {xs : List V} (hA : A.handled = none) (hx : iterItems v = some xs) (hr : ∀ a b c, v ≠ .rng a b c) (hl : (assignEach ts env).length = xs.length) (hst : (assignEach ts env).findIdx? (·.1) = none)
    (h : Asgs G A env ts xs st Q) : Asg G A env (.Tuple ts k pos) v st Q := ⟨fun K Z w s S r => by
  show wpAny _ _ (standAt pos >>= fun _ => unpack w (assignEach ts env)) _ _ s
  refine wpAny_bind (wpAny_standAt ?_)
  unfold unpack
  rw [hl, hst]
  exact wpAny_bind (wpAny_holding (unpack_use S hA r hx hr fun ws s' r' S' => h.run K Z ws s' S' r'))⟩
end
end Mine

/-! part Fw6 -/
set_option maxRecDepth 100000
set_option Elab.async false
set_option linter.unusedVariables false
namespace Mine
open PySem PyProof.Rows

section
variable {G : Gl} {A : Around} {L : Addr} {st : St} {K Z : Zt} {s : Shared}

/-- hide some lists while another part runs -/
def Khide (K : Zt) (h : Heap) (ar : List (Addr × List V)) : Zt := fun b => if ar.any (·.1 == b) then h.get? b else K b
theorem Khide.mem {K : Zt} {h : Heap} {ar : List (Addr × List V)} {p : Addr × List V} (hp : p ∈ ar) : Khide K h ar p.1 = h.get? p.1 := by
  unfold Khide; rw [if_pos]; exact List.any_eq_true.mpr ⟨p, hp, beq_self_eq_true _⟩
theorem Khide.not {K : Zt} {h : Heap} {ar : List (Addr × List V)} {b : Addr} (hb : ∀ p ∈ ar, p.1 ≠ b) : Khide K h ar b = K b := by
  unfold Khide; rw [if_neg]
  intro q
  obtain ⟨p, hp, e⟩ := List.any_eq_true.mp q
  exact hb p hp (by simpa using e)

theorem Sim.hide {loc : List (Str × V)} {ar₁ ar₂ : List (Addr × List V)} (S : Sim G K Z L ⟨loc, ar₁ ++ ar₂⟩ s) : Sim G (Khide K s.heap ar₂) Z L ⟨loc, ar₁⟩ s := by
  have hn : ∀ p ∈ ar₁, ∀ q ∈ ar₂, q.1 ≠ p.1 := fun p hp q hq e => by
    have := S.nd
    simp only [List.map_append] at this
    exact (List.nodup_append.mp this).2.2 p.1 (List.mem_map_of_mem hp) q.1 (List.mem_map_of_mem hq) e.symm
  have h2 : ∀ q ∈ ar₂, q ∈ ar₁ ++ ar₂ := fun q hq => List.mem_append_right _ hq
  have h1 : ∀ q ∈ ar₁, q ∈ ar₁ ++ ar₂ := fun q hq => List.mem_append_left _ hq
  have some2 : ∀ q ∈ ar₂, ∃ o, s.heap.get? q.1 = some o := fun q hq => by obtain ⟨_, _, _, ws, n, e, _⟩ := S.ar q (h2 q hq); exact ⟨_, e⟩
  exact { S with
    kk := fun b o e => by
      unfold Khide at e; split at e
      · exact e
      · exact S.kk b o e
    kz := fun b o e => by
      unfold Khide at e; split at e
      · rename_i q; obtain ⟨p, hp, e'⟩ := List.any_eq_true.mp q
        rw [← (show p.1 = b by simpa using e')]; exact (S.ar p (h2 p hp)).2.1
      · exact S.kz b o e
    kL := by rw [Khide.not fun p hp => (S.ar p (h2 p hp)).2.2.1]; exact S.kL
    ar := fun p hp => by
      obtain ⟨g1, g2⟩ := S.ar p (h1 p hp)
      exact ⟨by rw [Khide.not fun q hq => hn p hp q hq]; exact g1, g2⟩
    nd := by have := S.nd; simp only [List.map_append] at this; exact (List.nodup_append.mp this).1
    tb := fun t ht => by
      obtain ⟨g1, g2, g3, g4, g5⟩ := S.tb t ht
      exact ⟨by rw [Khide.not fun q hq => g4 q (h2 q hq)]; exact g1, g2, g3, fun p hp => g4 p (h1 p hp), g5⟩ }

theorem Sim.unhide {loc loc' : List (Str × V)} {ar₁ ar₂ ar₁' : List (Addr × List V)} {Z' : Zt} {s' : Shared} {L' : Addr} (S : Sim G K Z L ⟨loc, ar₁ ++ ar₂⟩ s) (z : Zle Z Z')
    (S' : Sim G (Khide K s.heap ar₂) Z' L' ⟨loc', ar₁'⟩ s') (hK : K L' = none) : Sim G K Z' L' ⟨loc', ar₁' ++ ar₂⟩ s' := by
  have h2 : ∀ q ∈ ar₂, q ∈ ar₁ ++ ar₂ := fun q hq => List.mem_append_right _ hq
  have kn : ∀ b, Khide K s.heap ar₂ b = none → (∀ p ∈ ar₂, p.1 ≠ b) := fun b e p hp q => by
    obtain ⟨_, _, _, ws, n, e', _⟩ := S.ar p (h2 p hp)
    rw [← q, Khide.mem hp, e'] at e; cases e
  have kle : ∀ b o, K b = some o → Khide K s.heap ar₂ b = some o := fun b o e => by
    rw [Khide.not fun p hp q => by rw [← q, (S.ar p (h2 p hp)).1] at e; cases e]; exact e
  have knone : ∀ b, Khide K s.heap ar₂ b = none → K b = none := fun b e => by
    cases q : K b with
    | none => rfl
    | some o => rw [kle b o q] at e; cases e
  exact { S' with
    kk := fun b o e => S'.kk b o (kle b o e)
    kz := fun b o e => S'.kz b o (kle b o e)
    kL := knone _ S'.kL
    ar := fun p hp => by
      rcases List.mem_append.mp hp with hp | hp
      · obtain ⟨g1, g2⟩ := S'.ar p hp; exact ⟨knone _ g1, g2⟩
      · obtain ⟨g1, g2, g3, ws, n, g4, g5⟩ := S.ar p (h2 p hp)
        have hk : Khide K s.heap ar₂ p.1 = some ⟨.type "list", none, .seq ws.toArray n, #[]⟩ := by rw [Khide.mem hp]; exact g4
        exact ⟨g1, S'.kz _ _ hk, (fun q => by have := S'.kL; rw [← q, hk] at this; cases this), ws, n, S'.kk _ _ hk, VRs.mono z _ _ g5⟩
    nd := by
      have := S.nd
      simp only [List.map_append] at this ⊢
      refine List.nodup_append.mpr ⟨S'.nd, (List.nodup_append.mp this).2.1, fun x hx y hy e => ?_⟩
      obtain ⟨p, hp, rfl⟩ := List.mem_map.mp hx
      obtain ⟨q, hq, rfl⟩ := List.mem_map.mp hy
      exact kn _ (S'.ar p hp).1 q hq e.symm
    tb := fun t ht => by
      obtain ⟨g1, g2, g3, g4, g5⟩ := S'.tb t ht
      refine ⟨knone _ g1, g2, g3, fun p hp => ?_, g5⟩
      rcases List.mem_append.mp hp with hp | hp
      · exact g4 p hp
      · exact kn _ g1 p hp }

/-- another frame runs: the old one is kept -/
theorem Sim.enter {loc binds : List (Str × V)} {ar : List (Addr × List V)} {oL : Obj} {L' : Addr} {h' : Heap} {tk : Nat} {m' : Str → Option Value} (S : Sim G K Z L ⟨loc, ar⟩ s) (hL : s.heap.get? L = some oL)
    (hk : ∀ b o, s.heap.get? b = some o → h'.get? b = some o) (hf : s.heap.get? L' = none) (hn : h'.Ns L' m') (hm : ∀ x, LR Z (binds.lookup x) (m' x)) :
    Sim G (Zset K L oL) Z L' ⟨binds, ar⟩ { s with heap := h', toks := tk } := by
  have ne : ∀ b o, s.heap.get? b = some o → b ≠ L' := fun b o e q => by rw [q, hf] at e; cases e
  have hLL : L ≠ L' := ne L oL hL
  exact {
    kk := fun b o e => by
      unfold Zset at e; split at e
      · rename_i q; subst q; cases e; exact hk _ _ hL
      · exact hk _ _ (S.kk b o e)
    zz := fun b o e => hk _ _ (S.zz b o e)
    kz := fun b o e => by
      unfold Zset at e; split at e
      · rename_i q; subst q; exact S.zL
      · exact S.kz b o e
    bz := S.bz
    ns := ⟨m', hn, hm⟩
    kL := by
      rw [Zset.ne (Ne.symm hLL)]
      cases q : K L' with
      | none => rfl
      | some o => exact absurd (S.kk _ _ q) (by rw [hf]; nofun)
    zL := by
      cases q : Z L' with
      | none => rfl
      | some o => exact absurd (S.zz _ _ q) (by rw [hf]; nofun)
    ar := fun p hp => by
      obtain ⟨g1, g2, g3, ws, n, g4, g5⟩ := S.ar p hp
      exact ⟨by rw [Zset.ne g3]; exact g1, g2, ne _ _ g4, ws, n, hk _ _ g4, g5⟩
    nd := S.nd
    tb := fun t ht => by
      obtain ⟨g1, g2, g3, g4, ps, g5, g6⟩ := S.tb t ht
      exact ⟨by rw [Zset.ne g3]; exact g1, g2, ne _ _ g5, g4, ps, hk _ _ g5, g6⟩
    gens := S.gens
    os := S.os
    cl := S.cl }
theorem Sim.leave {loc binds : List (Str × V)} {ar ar' : List (Addr × List V)} {oL : Obj} {L' : Addr} {Z' : Zt} {s' : Shared} (S : Sim G K Z L ⟨loc, ar⟩ s) (hL : s.heap.get? L = some oL) (z : Zle Z Z')
    (S' : Sim G (Zset K L oL) Z' L' ⟨binds, ar'⟩ s') : Sim G K Z' L ⟨loc, ar'⟩ s' := by
  have e : Zset K L oL L = some oL := Zset.self
  have hle : Zle K (Zset K L oL) := Zset.le S.kL
  have knone : ∀ b, Zset K L oL b = none → K b = none ∧ b ≠ L := fun b h => ⟨(by
    cases q : K b with
    | none => rfl
    | some o => rw [hle b o q] at h; cases h), fun q => by rw [q, e] at h; cases h⟩
  exact { S' with
    kk := fun b o h => S'.kk b o (hle b o h)
    kz := fun b o h => S'.kz b o (hle b o h)
    ns := by
      obtain ⟨m, ⟨o, es, ep, g1, g2⟩, hm⟩ := S.ns
      rw [hL] at g1; cases g1
      exact ⟨m, ⟨oL, es, ep, S'.kk _ _ e, g2⟩, fun x => (hm x).mono z⟩
    kL := S.kL
    zL := S'.kz _ _ e
    ar := fun p hp => by
      obtain ⟨g1, g2, g3, g4⟩ := S'.ar p hp
      exact ⟨(knone _ g1).1, g2, (knone _ g1).2, g4⟩
    tb := fun t ht => by
      obtain ⟨g1, g2, g3, g4⟩ := S'.tb t ht
      exact ⟨(knone _ g1).1, g2, (knone _ g1).2, g4⟩ }
end

/-- a call of a def: its value and the lists that it leaves -/
structure Calls (G : Gl) (A : Around) (f : Addr) (vs : List V) (ar : List (Addr × List V)) (Q : V → List (Addr × List V) → Prop) : Prop where
  run : ∀ K Z ws s L loc, Sim G K Z L ⟨loc, ar⟩ s → VRs Z vs ws → wpAny G.M A (call (.ref f) ws) (Post G K Z L VR fun v st' => st'.loc = loc ∧ Q v st'.ar) Nope s

/-- a plain def of the text -/
structure Fn (G : Gl) (f : Addr) (name : Str) (ps : List Str) (body : List Stmt) (scope : Scope) (cd : Value) : Prop where
  obj : ∃ o params pm doc, G.base.get? f = some o ∧ o.data = .func (PySem.Calls.docDef name params body scope pm cd doc) ∧ (∀ ws, ws.length = ps.length → bindArgs (PySem.Calls.docDef name params body scope pm cd doc) ⟨ws, []⟩ = pure (ps.zip ws))
  code : G.base.CodeRec cd name
  loc : ∀ x ∈ ps, scope.names.lookup x = some .local
  co : scope.isCoroutine = false
  gen : scope.isGenerator = false
  kind : scope.kind = .function
  cell : ∀ x ∈ scope.names, x.2 ≠ .cell

def retOf : Fl → V
  | .ret v => v
  | _ => .none

theorem lookup_zip_rev {Z : Zt} : ∀ {ps : List Str} {vs : List V} {ws : List Value}, VRs Z vs ws → ∀ x, LR Z ((ps.zip vs).reverse.lookup x) ((ps.zip ws).reverse.lookup x) := by
  intro ps vs ws r x
  have key : ∀ (ps : List Str) (vs : List V) (ws : List Value) (accV : List (Str × V)) (accW : List (Str × Value)), VRs Z vs ws → LR Z (accV.lookup x) (accW.lookup x) →
      LR Z (((ps.zip vs).reverse ++ accV).lookup x) (((ps.zip ws).reverse ++ accW).lookup x) := by
    intro ps
    induction ps with
    | nil => intro vs ws aV aW r h; simpa using h
    | cons p ps ih =>
      intro vs ws aV aW r h
      cases vs with
      | nil => rw [r.of_nil]; simpa using h
      | cons v vs =>
        obtain ⟨w, ws', rfl, r1, r2⟩ := r.of_cons
        simp only [List.zip_cons_cons, List.reverse_cons, List.append_assoc, List.cons_append, List.nil_append]
        refine ih vs ws' ((p, v) :: aV) ((p, w) :: aW) r2 ?_
        simp only [List.lookup_cons]
        cases x == p
        · exact h
        · exact r1
  simpa using key ps vs ws [] [] r trivial

section
variable {G : Gl} {A : Around}
theorem fn_call {f : Addr} {name : Str} {ps : List Str} {body : List Stmt} {scope : Scope} {cd : Value} {vs : List V} {ar : List (Addr × List V)} {Q : V → List (Addr × List V) → Prop}
    (O : GlOk G) (Fu : Fn G f name ps body scope cd) (hroom : A.depth < recursionLimit) (hl : vs.length = ps.length)
    (h : ∀ L', Exs G (A.deeper (envOf name scope L' f cd)) (envOf name scope L' f cd) body ⟨(ps.zip vs).reverse, ar⟩ fun fl st' => Q (retOf fl) st'.ar) : Calls G A f vs ar Q :=
  ⟨fun K Z ws s L loc S r => by
    obtain ⟨o, params, pm, doc, ho, hd, hb⟩ := Fu.obj
    obtain ⟨m, ⟨oL, es, ep, hL, hns⟩, hm⟩ := S.ns
    refine wpAny_call (call_plain_ret hroom (S.base _ _ ho) hd (O.nolimit.keeps S.base) (Fu.code.keeps S.base) (hb ws (by rw [r.length, hl])) (fun x hx => Fu.loc _ (List.of_mem_zip (a := x.1) (b := x.2) hx).1) (fun h₁ F => ?_) Fu.co Fu.gen Fu.kind Fu.cell)
    have S₁ := S.enter (tk := s.toks + (ps.zip ws).length) hL F.keep (Heap.get?_none_of_le (Nat.le_refl _)) F.ns (lookup_zip_rev (ps := ps) r)
    refine wpAny_mono ((h s.heap.objs.size).run _ Z _ S₁) (fun fl s' ⟨Z', fv, st', z, S', rf, q⟩ => ?_) fun _ _ x => x
    have S'' := S.leave hL z S'
    cases fv with
    | next => cases rf; exact ⟨Z', .none, _, z, S'', vr_none, rfl, q⟩
    | brk => cases rf; exact ⟨Z', .none, _, z, S'', vr_none, rfl, q⟩
    | cont => cases rf; exact ⟨Z', .none, _, z, S'', vr_none, rfl, q⟩
    | ret v => obtain ⟨w, rfl, rv⟩ := rf; exact ⟨Z', v, _, z, S'', rv, rfl, q⟩⟩

theorem Calls.mono {f : Addr} {vs : List V} {ar : List (Addr × List V)} {Q Q' : V → List (Addr × List V) → Prop} (h : Calls G A f vs ar Q) (hQ : ∀ v ar', Q v ar' → Q' v ar') : Calls G A f vs ar Q' :=
  ⟨fun K Z ws s L loc S r => wpAny_mono (h.run K Z ws s L loc S r) (fun _ _ ⟨Z', v, st', a, b, c, d, e⟩ => ⟨Z', v, st', a, b, c, d, hQ _ _ e⟩) fun _ _ x => x⟩
/-- the lists that a call does not touch -/
theorem Calls.frame {f : Addr} {vs : List V} {ar ar₂ : List (Addr × List V)} {Q : V → List (Addr × List V) → Prop} (h : Calls G A f vs ar Q) : Calls G A f vs (ar ++ ar₂) fun v ar' => ∃ ar₁, ar' = ar₁ ++ ar₂ ∧ Q v ar₁ :=
  ⟨fun K Z ws s L loc S r => wpAny_mono (h.run _ Z ws s L loc S.hide r) (fun w s' ⟨Z', v, st', z, S', rv, hl, q⟩ => by
    obtain ⟨loc', ar'⟩ := st'
    cases hl
    exact ⟨Z', v, ⟨_, ar' ++ ar₂⟩, z, S.unhide z S' S.kL, rv, rfl, ar', rfl, q⟩) fun _ _ x => x⟩

variable {env : Env} {st : St} {pos : Pos} {Q : V → St → Prop}
theorem ev_call {x : Str} {p : Pos} {es : List Expr} {e : Expr} {f : Addr} (hn : ∃ o fd, G.base.get? f = some o ∧ o.data = .func fd) (hp : (backTo pos (starEach (e :: es) env)).any (·.1) = false) (hs : starEach (e :: es) env = (false, eval e env) :: starEach es env)
    (h : Ev G A env (.Name x p) st fun v st₁ => v = .raw (.ref f) ∧ Evs G A env (e :: es) st₁ fun vs st₂ => Calls G A f vs [] fun v ar => Q v ⟨st₂.loc, ar ++ st₂.ar⟩) : Ev G A env (.Call (.Name x p) (e :: es) [] pos) st Q :=
  ⟨fun K Z s S => by
    show wpAny _ _ (eval (.Name x p) env >>= fun fv => callWith pos fv [] (backTo pos (starEach (e :: es) env)) []) _ _ s
    refine wpAny_bind (h.run.use S fun Z₁ v st₁ w s₁ z₁ S₁ r₁ ⟨hv, h₁⟩ => ?_)
    subst hv
    rw [of_raw r₁]
    obtain ⟨o, fd, ho, hd⟩ := hn
    have h2 := (h₁.run pos).use (P := fun vs s' => (s'.heap.get? f = some o ∧ o.data = .func fd) ∧ wpAny G.M A (call (.ref f) ([] ++ vs) []) (Post G K Z env.locals VR Q) Nope s') S₁ fun Z₂ vs st₂ ws s₂ z₂ S₂ r₂ hc => by
      refine ⟨⟨S₂.base _ _ ho, hd⟩, ?_⟩
      obtain ⟨loc₂, ar₂⟩ := st₂
      refine wpAny_mono ((hc.frame (ar₂ := ar₂)).run K Z₂ ws s₂ env.locals loc₂ S₂ r₂) (fun w s' ⟨Z', v, st', z, S', rv, hl, ar₁, ha, q⟩ => ?_) fun _ _ x => x
      obtain ⟨loc', ar'⟩ := st'
      cases hl; cases ha
      exact ⟨Z', v, _, (z₁.trans z₂).trans z, S', rv, q⟩
    refine PySem.Calls.callWith_function (o := o) (fd := fd) ?_
    rw [hs] at h2 ⊢
    exact PySem.Calls.evalArgs_plain h2⟩
end
end Mine

/-! part ReF -/
set_option maxRecDepth 100000
set_option Elab.async false
namespace Mine
open PySem
theorem owner_pat : Manifest.owners.lookup (String.ofList ['n', 'r', 'e', 't', 't', 'a', 'P', '.', 'e', 'r'].reverse) = some Manifest.sig_re_Pattern := by kernel_rfl
theorem owner_mat : Manifest.owners.lookup (String.ofList ['h', 'c', 't', 'a', 'M', '.', 'e', 'r'].reverse) = some Manifest.sig_re_Match := by kernel_rfl
theorem pa_pat : PlainAttrs "re.Pattern" :=
  ⟨⟨"object.__getattribute__", by rw [typeLookup_type, builtinLookup_eq_fast]; kernel_rfl, by decide +kernel⟩, by rw [typeLookup_type, builtinLookup_eq_fast]; kernel_rfl⟩
theorem pa_mat : PlainAttrs "re.Match" :=
  ⟨⟨"object.__getattribute__", by rw [typeLookup_type, builtinLookup_eq_fast]; kernel_rfl, by decide +kernel⟩, by rw [typeLookup_type, builtinLookup_eq_fast]; kernel_rfl⟩
theorem slot_pat_fullmatch : Slot "re.Pattern" "fullmatch" "re.Pattern.fullmatch" :=
  .of (owner := "re.Pattern") (n := "fullmatch") (by rw [typeLookup_type, builtinLookup_eq_fast]; kernel_rfl) (by decide +kernel) (by decide +kernel) (by decide +kernel)
    (by first | exact .inl (by decide +kernel) | exact .inr (by decide +kernel)) (by rw [isSubtype_type]; kernel_rfl)
theorem type_pat_fullmatch : typeOf (.builtin "re.Pattern.fullmatch") = pure (.type "method_descriptor") := by show builtinType _ = _; rw [builtinType_eq_fast]; kernel_rfl
theorem entry_pat_fullmatch : entryFor table "re.Pattern.fullmatch" = some Builtin.«re.Pattern.fullmatch» := entryFor_of_tree (by kernel_rfl)
theorem args_pat_fullmatch (a b : Value) : argsOk "re.Pattern.fullmatch" ⟨[a, b], []⟩ := by
  unfold argsOk; rw [signature?_of (id := "re.Pattern.fullmatch") (n := ['h', 'c', 't', 'a', 'm', 'l', 'l', 'u', 'f']) (o := ['n', 'r', 'e', 't', 't', 'a', 'P', '.', 'e', 'r']) (by kernel_rfl) owner_pat]; kernel_rfl
theorem slot_pat_search : Slot "re.Pattern" "search" "re.Pattern.search" :=
  .of (owner := "re.Pattern") (n := "search") (by rw [typeLookup_type, builtinLookup_eq_fast]; kernel_rfl) (by decide +kernel) (by decide +kernel) (by decide +kernel)
    (by first | exact .inl (by decide +kernel) | exact .inr (by decide +kernel)) (by rw [isSubtype_type]; kernel_rfl)
theorem type_pat_search : typeOf (.builtin "re.Pattern.search") = pure (.type "method_descriptor") := by show builtinType _ = _; rw [builtinType_eq_fast]; kernel_rfl
theorem entry_pat_search : entryFor table "re.Pattern.search" = some Builtin.«re.Pattern.search» := entryFor_of_tree (by kernel_rfl)
theorem args_pat_search (a b : Value) : argsOk "re.Pattern.search" ⟨[a, b], []⟩ := by
  unfold argsOk; rw [signature?_of (id := "re.Pattern.search") (n := ['h', 'c', 'r', 'a', 'e', 's']) (o := ['n', 'r', 'e', 't', 't', 'a', 'P', '.', 'e', 'r']) (by kernel_rfl) owner_pat]; kernel_rfl
theorem slot_pat_sub : Slot "re.Pattern" "sub" "re.Pattern.sub" :=
  .of (owner := "re.Pattern") (n := "sub") (by rw [typeLookup_type, builtinLookup_eq_fast]; kernel_rfl) (by decide +kernel) (by decide +kernel) (by decide +kernel)
    (by first | exact .inl (by decide +kernel) | exact .inr (by decide +kernel)) (by rw [isSubtype_type]; kernel_rfl)
theorem type_pat_sub : typeOf (.builtin "re.Pattern.sub") = pure (.type "method_descriptor") := by show builtinType _ = _; rw [builtinType_eq_fast]; kernel_rfl
theorem entry_pat_sub : entryFor table "re.Pattern.sub" = some Builtin.«re.Pattern.sub» := entryFor_of_tree (by kernel_rfl)
theorem args_pat_sub (a b c : Value) : argsOk "re.Pattern.sub" ⟨[a, b, c], []⟩ := by
  unfold argsOk; rw [signature?_of (id := "re.Pattern.sub") (n := ['b', 'u', 's']) (o := ['n', 'r', 'e', 't', 't', 'a', 'P', '.', 'e', 'r']) (by kernel_rfl) owner_pat]; kernel_rfl
theorem slot_pat_subn : Slot "re.Pattern" "subn" "re.Pattern.subn" :=
  .of (owner := "re.Pattern") (n := "subn") (by rw [typeLookup_type, builtinLookup_eq_fast]; kernel_rfl) (by decide +kernel) (by decide +kernel) (by decide +kernel)
    (by first | exact .inl (by decide +kernel) | exact .inr (by decide +kernel)) (by rw [isSubtype_type]; kernel_rfl)
theorem type_pat_subn : typeOf (.builtin "re.Pattern.subn") = pure (.type "method_descriptor") := by show builtinType _ = _; rw [builtinType_eq_fast]; kernel_rfl
theorem entry_pat_subn : entryFor table "re.Pattern.subn" = some Builtin.«re.Pattern.subn» := entryFor_of_tree (by kernel_rfl)
theorem args_pat_subn (a b c : Value) : argsOk "re.Pattern.subn" ⟨[a, b, c], []⟩ := by
  unfold argsOk; rw [signature?_of (id := "re.Pattern.subn") (n := ['n', 'b', 'u', 's']) (o := ['n', 'r', 'e', 't', 't', 'a', 'P', '.', 'e', 'r']) (by kernel_rfl) owner_pat]; kernel_rfl
theorem slot_mat_group : Slot "re.Match" "group" "re.Match.group" :=
  .of (owner := "re.Match") (n := "group") (by rw [typeLookup_type, builtinLookup_eq_fast]; kernel_rfl) (by decide +kernel) (by decide +kernel) (by decide +kernel)
    (by first | exact .inl (by decide +kernel) | exact .inr (by decide +kernel)) (by rw [isSubtype_type]; kernel_rfl)
theorem type_mat_group : typeOf (.builtin "re.Match.group") = pure (.type "method_descriptor") := by show builtinType _ = _; rw [builtinType_eq_fast]; kernel_rfl
theorem entry_mat_group : entryFor table "re.Match.group" = some Builtin.«re.Match.group» := entryFor_of_tree (by kernel_rfl)
theorem args_mat_group (a b : Value) : argsOk "re.Match.group" ⟨[a, b], []⟩ := by
  unfold argsOk; rw [signature?_of (id := "re.Match.group") (n := ['p', 'u', 'o', 'r', 'g']) (o := ['h', 'c', 't', 'a', 'M', '.', 'e', 'r']) (by kernel_rfl) owner_mat]; kernel_rfl
theorem slot_mat_span : Slot "re.Match" "span" "re.Match.span" :=
  .of (owner := "re.Match") (n := "span") (by rw [typeLookup_type, builtinLookup_eq_fast]; kernel_rfl) (by decide +kernel) (by decide +kernel) (by decide +kernel)
    (by first | exact .inl (by decide +kernel) | exact .inr (by decide +kernel)) (by rw [isSubtype_type]; kernel_rfl)
theorem type_mat_span : typeOf (.builtin "re.Match.span") = pure (.type "method_descriptor") := by show builtinType _ = _; rw [builtinType_eq_fast]; kernel_rfl
theorem entry_mat_span : entryFor table "re.Match.span" = some Builtin.«re.Match.span» := entryFor_of_tree (by kernel_rfl)
theorem args_mat_span (a b : Value) : argsOk "re.Match.span" ⟨[a, b], []⟩ := by
  unfold argsOk; rw [signature?_of (id := "re.Match.span") (n := ['n', 'a', 'p', 's']) (o := ['h', 'c', 't', 'a', 'M', '.', 'e', 'r']) (by kernel_rfl) owner_mat]; kernel_rfl
end Mine

/-! part Sre1 -/
set_option maxRecDepth 100000
set_option Elab.async false
set_option linter.unusedVariables false
namespace Mine
open PySem PySem.Sre

/-! the machine's steps -/
def Steps (m m' : M) (n : Nat) : Prop := M.runFor n m = m'

theorem runFor_add (a b : Nat) (m : M) : M.runFor (a + b) m = M.runFor b (M.runFor a m) := by
  induction a generalizing m with
  | zero => simp [M.runFor]
  | succ a ih =>
    rw [Nat.succ_add]
    show (if m.outcome.isSome then m else M.runFor (a + b) m.step) = _
    cases h : m.outcome.isSome with
    | true =>
      simp only [if_true]
      have h1 : M.runFor (a + 1) m = m := by show (if m.outcome.isSome then m else _) = m; rw [h]; rfl
      rw [h1]
      cases b with
      | zero => rfl
      | succ b => show m = (if m.outcome.isSome then m else _); rw [h]; rfl
    | false =>
      simp only [Bool.false_eq_true, if_false]
      rw [ih]
      have h1 : M.runFor (a + 1) m = M.runFor a m.step := by show (if m.outcome.isSome then m else _) = _; rw [h]; rfl
      rw [h1]

theorem runFor_done {m : M} (h : m.outcome.isSome = true) : ∀ n, M.runFor n m = m
  | 0 => rfl
  | n + 1 => by show (if m.outcome.isSome then m else _) = m; rw [h]; rfl

/-- m comes to m' in n steps at the most -/
def Reach (m m' : M) (n : Nat) : Prop := ∃ k, k ≤ n ∧ M.runFor k m = m'
theorem Reach.refl {m : M} {n : Nat} : Reach m m n := ⟨0, Nat.zero_le _, rfl⟩
theorem Reach.trans {m m' m'' : M} {a b : Nat} (h : Reach m m' a) (h' : Reach m' m'' b) : Reach m m'' (a + b) :=
  let ⟨k, hk, e⟩ := h; let ⟨j, hj, e'⟩ := h'; ⟨k + j, by omega, by rw [runFor_add, e, e']⟩
theorem Reach.le {m m' : M} {a b : Nat} (h : Reach m m' a) (hab : a ≤ b) : Reach m m' b := let ⟨k, hk, e⟩ := h; ⟨k, by omega, e⟩
theorem Reach.step {m m' : M} {n : Nat} (ho : m.outcome = none) (h : Reach m.step m' n) : Reach m m' (n + 1) :=
  let ⟨k, hk, e⟩ := h; ⟨k + 1, by omega, by show (if m.outcome.isSome then m else M.runFor k m.step) = m'; rw [ho]; exact e⟩
theorem Reach.one {m m' : M} (ho : m.outcome = none) (h : m.step = m') : Reach m m' 1 := Reach.step (n := 0) ho (h ▸ .refl)

open PySem.Builtin.Re

section
variable {M' : Model} {A : Around} {E : Value → Shared → Prop} {s : Shared}

theorem reDrive_ends : ∀ (t : Nat) (m m' : M) (n : Nat) (Q : Sre.M → Shared → Prop), Reach m m' n → m'.outcome.isSome = true → n < 4 * t → Q m' s → wpAny M' A (reDrive t m) Q E s
  | 0, _, _, _, _, _, _, hn, _ => by omega
  | t + 1, m, m', n, Q, h, ho, hn, hQ => by
    obtain ⟨k, hk, e⟩ := h
    show wpAny M' A (if (m.runFor reTurnSteps).outcome.isSome then pure (m.runFor reTurnSteps) else (do rule "sre.turn"; reDrive t (m.runFor reTurnSteps))) Q E s
    by_cases hle : k ≤ 4
    · have e4 : m.runFor reTurnSteps = m' := by
        show m.runFor 4 = m'
        rw [show 4 = k + (4 - k) by omega, runFor_add, e, runFor_done ho]
      rw [e4, if_pos ho]
      exact wpAny_pure hQ
    · have hr : Reach (m.runFor reTurnSteps) m' (n - 4) := ⟨k - 4, by omega, by
        have := runFor_add 4 (k - 4) m
        rw [show 4 + (k - 4) = k by omega, e] at this
        exact this.symm⟩
      cases hb : (m.runFor reTurnSteps).outcome.isSome with
      | true =>
        have : m.runFor reTurnSteps = m' := by
          obtain ⟨j, _, e'⟩ := hr
          rw [← e', runFor_done hb]
        rw [this] at hb ⊢
        simp only [if_true]
        exact wpAny_pure hQ
      | false =>
        simp only [Bool.false_eq_true, if_false]
        exact wpAny_bind (wpAny_rule (reDrive_ends t _ m' (n - 4) Q hr ho (by omega) hQ))

theorem wpAny_forIn_rules {α : Type} (l : List α) (f : α → PUnit → Sem (ForInStep PUnit)) {Q : PUnit → Shared → Prop} (hf : ∀ x u, (∃ t, f x u = (do rule t; pure (.yield ⟨⟩))) ∨ f x u = pure (.yield ⟨⟩)) (h : Q ⟨⟩ s) : wpAny M' A (forIn l PUnit.unit f) Q E s := by
  refine wpAny_forIn_list f (fun _ _ s' => s' = s) Q (fun x rest b s' e => ?_) (fun b s' e => by subst e; exact h) l _ rfl
  subst e
  rcases hf x b with ⟨t, e⟩ | e
  · rw [e]; exact wpAny_bind (wpAny_rule (wpAny_pure rfl))
  · rw [e]; exact wpAny_pure rfl

theorem reRun_matched {m m' : M} {n : Nat} {Q : Option Sre.M → Shared → Prop} (h : Reach m m' n) (ho : m'.outcome = some .matched) (hn : n < 2 ^ 65) (hQ : Q (some m') s) : wpAny M' A (reRunToEnd m) Q E s := by
  unfold reRunToEnd
  refine wpAny_bind (reDrive_ends (2 ^ 64) m m' n _ h (by rw [ho]; rfl) (by omega) ?_)
  refine wpAny_bind (wpAny_forIn_rules _ _ (fun x u => ?_) ?_)
  · by_cases hb : m'.seen.has x = true
    · left; exact ⟨_, by rw [if_pos hb]⟩
    · right; rw [if_neg hb]
  · rw [ho]; exact wpAny_pure hQ
theorem reRun_failed {m m' : M} {n : Nat} {Q : Option Sre.M → Shared → Prop} (h : Reach m m' n) (ho : m'.outcome = some .failed) (hn : n < 2 ^ 65) (hQ : Q none s) : wpAny M' A (reRunToEnd m) Q E s := by
  unfold reRunToEnd
  refine wpAny_bind (reDrive_ends (2 ^ 64) m m' n _ h (by rw [ho]; rfl) (by omega) ?_)
  refine wpAny_bind (wpAny_forIn_rules _ _ (fun x u => ?_) ?_)
  · by_cases hb : m'.seen.has x = true
    · left; exact ⟨_, by rw [if_pos hb]⟩
    · right; rw [if_neg hb]
  · rw [ho]; exact wpAny_pure hQ
end

/-! configurations: a state without what was seen -/
structure ME where
  code : Array Nat
  text : Array Nat
  lastStart : Nat
  whole : Bool

structure C where
  pc : Nat
  pos : Nat
  handed : Nat
  start : Nat
  must : Bool := false
  outer : Bool := true
  marks : Array (Option Nat) := #[]
  lastmark : Int := -1
  lastindex : Int := -1
  loops : Array Loop := #[]
  inner : Option Nat := none
  frames : List Sre.Frame := []

def wt : List Sre.Frame → Nat
  | [] => 0
  | f :: r => 1 + f.kept.marks.size + wt r

def mk (e : ME) (c : C) (sn : Seen) (a : Option Bool) : M :=
  { code := e.code, text := e.text, lim := e.text.size, start := c.start, lastStart := e.lastStart, wholeText := e.whole, mustAdvance := c.must, pc := c.pc, pos := c.pos, handed := c.handed,
    outermost := c.outer, marks := c.marks, lastmark := c.lastmark, lastindex := c.lastindex, loops := c.loops, inner := c.inner, frames := c.frames, weight := wt c.frames, answer := a, seen := sn, outcome := none }

def R (e : ME) (c : C) (a : Option Bool) (c' : C) (a' : Option Bool) (n : Nat) : Prop := ∀ sn, ∃ sn', Reach (mk e c sn a) (mk e c' sn' a') n
theorem R.refl {e : ME} {c : C} {a : Option Bool} {n : Nat} : R e c a c a n := fun sn => ⟨sn, .refl⟩
theorem R.trans {e : ME} {c c' c'' : C} {a a' a'' : Option Bool} {n k : Nat} (h : R e c a c' a' n) (h' : R e c' a' c'' a'' k) : R e c a c'' a'' (n + k) := fun sn =>
  let ⟨s1, r1⟩ := h sn; let ⟨s2, r2⟩ := h' s1; ⟨s2, r1.trans r2⟩
theorem R.le {e : ME} {c c' : C} {a a' : Option Bool} {n k : Nat} (h : R e c a c' a' n) (hk : n ≤ k) : R e c a c' a' k := fun sn => let ⟨s1, r1⟩ := h sn; ⟨s1, r1.le hk⟩
theorem R.one {e : ME} {c c' : C} {a a' : Option Bool} (h : ∀ sn, ∃ sn', (mk e c sn a).step = mk e c' sn' a') : R e c a c' a' 1 := fun sn => let ⟨s1, r1⟩ := h sn; ⟨s1, .one rfl r1⟩

section
variable {e : ME} {c : C}

theorem step_exec {sn : Seen} (hpc : c.pc < e.code.size) : (mk e c sn none).step = (mk e c sn none).exec := by
  unfold M.step
  simp only [mk, Option.isSome_none, Bool.false_eq_true, if_false, hpc, if_true]

theorem step_back {sn : Seen} {f : Sre.Frame} {fs : List Sre.Frame} {yes : Bool} (hf : c.frames = f :: fs) :
    (mk e c sn (some yes)).step = M.resume (mk e { c with frames := fs, pc := f.pc, pos := f.pos, outer := f.outermost } sn none) f yes := by
  unfold M.step
  simp only [mk, Option.isSome_none, Bool.false_eq_true, if_false, hf, wt]
  congr 2
  omega

/-- the item at i takes the signs that p tells -/
def Acc (code : Array Nat) (i : Nat) (p : Nat → Bool) : Prop := ∀ ch sn, ∃ sn', accepts code i ch sn = .ok (p ch, sn')

theorem run_ok {code text : Array Nat} {i : Nat} {p : Nat → Bool} (h : Acc code i p) : ∀ (rem : List Nat) (pre : List Nat) (found : Nat) (sn : Seen), text.toList = pre ++ rem →
    ∃ sn', Sre.run code text i rem.length pre.length found sn = .ok (found + (rem.takeWhile p).length, sn')
  | [], pre, found, sn, _ => ⟨sn, by simp [Sre.run]⟩
  | x :: rem, pre, found, sn, e => by
    have hx : text.getD pre.length 0 = x := by
      rw [Array.getD_eq_getD_getElem?, ← Array.getElem?_toList, e]; simp
    obtain ⟨s1, h1⟩ := h x sn
    show ∃ sn', (do let (yes, seen) ← accepts code i (text.getD pre.length 0) sn; if yes then Sre.run code text i rem.length (pre.length + 1) (found + 1) seen else pure (found, seen)) = _
    rw [hx, h1]
    cases hp : p x with
    | true =>
      obtain ⟨s2, h2⟩ := run_ok (text := text) h rem (pre ++ [x]) (found + 1) s1 (by simp [e])
      refine ⟨s2, ?_⟩
      rw [List.takeWhile_cons_of_pos hp]
      show (if true = true then Sre.run code text i rem.length (pre.length + 1) (found + 1) s1 else Pure.pure (found, s1)) = _
      rw [if_pos rfl, show pre.length + 1 = (pre ++ [x]).length by simp, h2]
      congr 2
      simp only [List.length_cons]; omega
    | false =>
      refine ⟨s1, ?_⟩
      rw [List.takeWhile_cons_of_neg (by rw [hp]; exact Bool.false_ne_true)]
      show (if false = true then Sre.run code text i rem.length (pre.length + 1) (found + 1) s1 else Pure.pure (found, s1)) = _
      rw [if_neg Bool.false_ne_true]; rfl
end
end Mine

/-! part Sre2 -/
set_option maxRecDepth 100000
set_option Elab.async false
set_option linter.unusedVariables false
namespace Mine
open PySem PySem.Sre

section
variable {e : ME} {c : C}

theorem r_mark {i : Nat} (hpc : c.pc < e.code.size) (h0 : e.code.getD c.pc 0 = 17) (h1 : e.code.getD (c.pc + 1) 0 = i) (hi : (i : Int) ≤ c.lastmark + 1) :
    R e c none { c with marks := c.marks.setIfInBounds i (some c.pos), lastmark := max c.lastmark i, lastindex := if i % 2 == 1 then ((i / 2 + 1 : Nat) : Int) else c.lastindex, pc := c.pc + 2 } none 1 := .one fun sn => by
  refine ⟨sn.add 17, ?_⟩
  rw [step_exec hpc]
  unfold M.exec
  simp only [M.word, mk, Nat.add_zero, h0, show ops[17]? = some Op.MARK from rfl, M.mark, h1, hi, if_true]

theorem r_success_no (hpc : c.pc < e.code.size) (h0 : e.code.getD c.pc 0 = 1) (hw : (c.outer && ((e.whole && c.pos != e.text.size) || (c.must && c.pos == c.start))) = true) : R e c none c (some false) 1 := .one fun sn => by
  refine ⟨sn.add 1, ?_⟩
  rw [step_exec hpc]
  unfold M.exec
  simp only [M.word, mk, Nat.add_zero, h0, show ops[1]? = some Op.SUCCESS from rfl, hw, if_true, M.say]
theorem r_success {c : C} (hpc : c.pc < e.code.size) (h0 : e.code.getD c.pc 0 = 1) (hw : (c.outer && ((e.whole && c.pos != e.text.size) || (c.must && c.pos == c.start))) = false) : R e c none { c with handed := c.pos } (some true) 1 := .one fun sn => by
  refine ⟨sn.add 1, ?_⟩
  rw [step_exec hpc]
  unfold M.exec
  simp only [M.word, mk, Nat.add_zero, h0, show ops[1]? = some Op.SUCCESS from rfl, hw, Bool.false_eq_true, if_false, M.say]

/-- a single item -/
theorem r_item_end (hpc : c.pc < e.code.size) (h0 : e.code.getD c.pc 0 = 13 ∨ e.code.getD c.pc 0 = 16 ∨ e.code.getD c.pc 0 = 2) (hl : e.text.size ≤ c.pos) : R e c none c (some false) 1 := .one fun sn => by
  refine ⟨sn.add (e.code.getD c.pc 0), ?_⟩
  rw [step_exec hpc]
  unfold M.exec
  rcases h0 with h0 | h0 | h0
  · simp only [M.word, mk, Nat.add_zero, h0, show ops[13]? = some Op.IN from rfl, ge_iff_le, hl, if_true, M.say]
  · simp only [M.word, mk, Nat.add_zero, h0, show ops[16]? = some Op.LITERAL from rfl, ge_iff_le, hl, if_true, M.say]
  · simp only [M.word, mk, Nat.add_zero, h0, show ops[2]? = some Op.ANY from rfl, ge_iff_le, hl, if_true, M.say]
theorem r_item_no {p : Nat → Bool} (hpc : c.pc < e.code.size) (h0 : e.code.getD c.pc 0 = 13 ∨ e.code.getD c.pc 0 = 16 ∨ e.code.getD c.pc 0 = 2) (hl : c.pos < e.text.size) (ha : Acc e.code c.pc p) (hp : p (e.text.getD c.pos 0) = false) :
    R e c none c (some false) 1 := .one fun sn => by
  obtain ⟨s1, h1⟩ := ha (e.text.getD c.pos 0) (sn.add (e.code.getD c.pc 0))
  refine ⟨s1, ?_⟩
  rw [step_exec hpc]
  unfold M.exec
  rw [hp] at h1
  have hl' : ¬ (e.text.size ≤ c.pos) := by omega
  rcases h0 with h0 | h0 | h0
  · rw [h0] at h1; simp only [M.word, mk, Nat.add_zero, h0, show ops[13]? = some Op.IN from rfl, ge_iff_le, hl', if_false, h1, M.say]
  · rw [h0] at h1; simp only [M.word, mk, Nat.add_zero, h0, show ops[16]? = some Op.LITERAL from rfl, ge_iff_le, hl', if_false, h1, M.say]
  · rw [h0] at h1; simp only [M.word, mk, Nat.add_zero, h0, show ops[2]? = some Op.ANY from rfl, ge_iff_le, hl', if_false, h1, M.say]
theorem r_item {p : Nat → Bool} {wd : Nat} (hpc : c.pc < e.code.size) (h0 : e.code.getD c.pc 0 = 13 ∨ e.code.getD c.pc 0 = 16 ∨ e.code.getD c.pc 0 = 2) (hl : c.pos < e.text.size) (ha : Acc e.code c.pc p) (hp : p (e.text.getD c.pos 0) = true)
    (hw : itemWidth e.code c.pc = wd) : R e c none { c with pc := c.pc + wd, pos := c.pos + 1 } none 1 := .one fun sn => by
  obtain ⟨s1, h1⟩ := ha (e.text.getD c.pos 0) (sn.add (e.code.getD c.pc 0))
  refine ⟨s1, ?_⟩
  rw [step_exec hpc]
  unfold M.exec
  rw [hp] at h1
  have hl' : ¬ (e.text.size ≤ c.pos) := by omega
  rcases h0 with h0 | h0 | h0
  · rw [h0] at h1; simp only [M.word, mk, Nat.add_zero, h0, show ops[13]? = some Op.IN from rfl, ge_iff_le, hl', if_false, h1, hw]
  · rw [h0] at h1; simp only [M.word, mk, Nat.add_zero, h0, show ops[16]? = some Op.LITERAL from rfl, ge_iff_le, hl', if_false, h1, hw]
  · rw [h0] at h1; simp only [M.word, mk, Nat.add_zero, h0, show ops[2]? = some Op.ANY from rfl, ge_iff_le, hl', if_false, h1, hw]

theorem r_at_yes (hpc : c.pc < e.code.size) (h0 : e.code.getD c.pc 0 = 6) (h1 : e.code.getD (c.pc + 1) 0 = 0) (hp : c.pos = 0) : R e c none { c with pc := c.pc + 2 } none 1 := .one fun sn => by
  refine ⟨(sn.add 6).add 43, ?_⟩
  rw [step_exec hpc]
  unfold M.exec
  simp only [M.word, mk, Nat.add_zero, h0, show ops[6]? = some Op.AT from rfl, M.isAt, h1, hp, beq_self_eq_true, if_true]
theorem r_at_no (hpc : c.pc < e.code.size) (h0 : e.code.getD c.pc 0 = 6) (h1 : e.code.getD (c.pc + 1) 0 = 0) (hp : c.pos ≠ 0) : R e c none c (some false) 1 := .one fun sn => by
  refine ⟨(sn.add 6).add 43, ?_⟩
  rw [step_exec hpc]
  unfold M.exec
  have : (c.pos == 0) = false := by simpa using hp
  simp only [M.word, mk, Nat.add_zero, h0, show ops[6]? = some Op.AT from rfl, M.isAt, h1, this, Bool.false_eq_true, if_false, M.say]

def keepOf (c : C) (whole : Bool) : Sre.Kept := { lastmark := c.lastmark, lastindex := c.lastindex, whole, marks := if whole then c.marks.extract 0 (c.lastmark + 1).toNat else #[] }
def putBackC (c : C) (k : Sre.Kept) : C := { c with lastmark := k.lastmark, lastindex := k.lastindex, marks := if k.whole then k.marks ++ c.marks.extract k.marks.size c.marks.size else c.marks }
def pushC (c : C) (f : Sre.Frame) (target «from» : Nat) (outer : Bool) : C := { c with frames := f :: c.frames, pc := target, pos := «from», handed := «from», outer }

theorem attempt_eq {sn : Seen} {f : Sre.Frame} {target «from» : Nat} {outer : Bool} (hw : wt (f :: c.frames) ≤ 16777216) : (mk e c sn none).attempt f target «from» outer = mk e (pushC c f target «from» outer) sn none := by
  have h : ¬ (wt c.frames + 1 + f.kept.marks.size > 16777216) := by simp only [wt] at hw; omega
  unfold M.attempt
  simp only [mk, h, if_false, pushC, wt]
  congr 1
  omega

theorem r_repeat {p : Nat → Bool} {least skip : Nat} {pre rem : List Nat} (hpc : c.pc < e.code.size) (h0 : e.code.getD c.pc 0 = 24) (h1 : e.code.getD (c.pc + 1) 0 = skip) (h2 : e.code.getD (c.pc + 2) 0 = least) (h3 : e.code.getD (c.pc + 3) 0 = 4294967295)
    (ha : Acc e.code (c.pc + 4) p) (ht : e.text.toList = pre ++ rem) (hp : c.pos = pre.length) (hs : e.text.size ≤ 16777216) (hn : least ≤ (rem.takeWhile p).length) (hw : wt c.frames + 1 + c.marks.size ≤ 16777216) :
    R e c none (pushC { c with pos := c.pos + (rem.takeWhile p).length } { wait := .giveBack, pc := c.pc, pos := c.pos + (rem.takeWhile p).length, outermost := c.outer, count := ((rem.takeWhile p).length : Int), kept := keepOf c c.inner.isSome } (c.pc + 1 + skip) (c.pos + (rem.takeWhile p).length) c.outer) none 1 := .one fun sn => by
  have hsz : e.text.size = pre.length + rem.length := by rw [← Array.length_toList, ht]; simp
  have htk : (rem.takeWhile p).length ≤ rem.length := (List.takeWhile_sublist _).length_le
  obtain ⟨s1, hr⟩ := run_ok (text := e.text) ha rem pre 0 ((sn.add 24).add (e.code.getD (c.pc + 4) 0)) ht
  refine ⟨s1, ?_⟩
  rw [step_exec hpc]
  unfold M.exec
  have e1 : ¬ ((least : Int) > ((e.text.size : Nat) : Int) - (c.pos : Int)) := by omega
  have e2 : min 4294967295 (((e.text.size : Nat) : Int) - (c.pos : Int)).toNat = rem.length := by omega
  have e3 : ¬ ((rem.takeWhile p).length < least) := by omega
  simp only [M.word, mk, Nat.add_zero, h0, show ops[24]? = some Op.REPEAT_ONE from rfl, h2, h3, e1, if_false, e2, Bool.false_eq_true]
  rw [hp, hr]
  simp only [Nat.zero_add, e3, if_false]
  unfold M.afterRun
  have hk : (keepOf c c.inner.isSome).marks.size ≤ c.marks.size := by
    unfold keepOf; dsimp only; split
    · rw [Array.size_extract]; omega
    · simp
  have := attempt_eq (e := e) (c := { c with pos := pre.length + (rem.takeWhile p).length }) (sn := s1) (f := { wait := .giveBack, pc := c.pc, pos := pre.length + (rem.takeWhile p).length, outermost := c.outer, count := ((rem.takeWhile p).length : Int), kept := keepOf c c.inner.isSome })
    (target := c.pc + 1 + skip) («from» := pre.length + (rem.takeWhile p).length) (outer := c.outer) (by simp only [wt]; omega)
  refine Eq.trans ?_ this
  simp only [mk, M.frame, M.word, h1, M.keep, keepOf]

theorem r_repeat_no {p : Nat → Bool} {least : Nat} {pre rem : List Nat} (hpc : c.pc < e.code.size) (h0 : e.code.getD c.pc 0 = 24) (h2 : e.code.getD (c.pc + 2) 0 = least) (h3 : e.code.getD (c.pc + 3) 0 = 4294967295)
    (ha : Acc e.code (c.pc + 4) p) (ht : e.text.toList = pre ++ rem) (hp : c.pos = pre.length) (hs : e.text.size ≤ 16777216) (hn : (rem.takeWhile p).length < least) : R e c none c (some false) 1 := .one fun sn => by
  have hsz : e.text.size = pre.length + rem.length := by rw [← Array.length_toList, ht]; simp
  by_cases hroom : (least : Int) > ((e.text.size : Nat) : Int) - (c.pos : Int)
  · refine ⟨sn.add 24, ?_⟩
    rw [step_exec hpc]
    unfold M.exec
    simp only [M.word, mk, Nat.add_zero, h0, show ops[24]? = some Op.REPEAT_ONE from rfl, h2, hroom, if_true, M.say]
  · obtain ⟨s1, hr⟩ := run_ok (text := e.text) ha rem pre 0 ((sn.add 24).add (e.code.getD (c.pc + 4) 0)) ht
    refine ⟨s1, ?_⟩
    rw [step_exec hpc]
    unfold M.exec
    have e2 : min 4294967295 (((e.text.size : Nat) : Int) - (c.pos : Int)).toNat = rem.length := by omega
    simp only [M.word, mk, Nat.add_zero, h0, show ops[24]? = some Op.REPEAT_ONE from rfl, h2, h3, hroom, if_false, e2, Bool.false_eq_true]
    rw [hp, hr]
    simp only [Nat.zero_add, hn, if_true, M.say]

/-! answers handed back -/
variable {f : Sre.Frame} {fs : List Sre.Frame}
def popC (c : C) (f : Sre.Frame) (fs : List Sre.Frame) : C := { c with frames := fs, pc := f.pc, pos := f.pos, outer := f.outermost }

theorem b_give_yes (hf : c.frames = f :: fs) (hw : f.wait = .giveBack) : R e c (some true) (popC c f fs) (some true) 1 := .one fun sn => by
  refine ⟨sn, ?_⟩
  rw [step_back hf]
  unfold M.resume
  simp only [hw, if_true, mk, M.say, popC]
theorem b_give_end {least : Nat} (hf : c.frames = f :: fs) (hw : f.wait = .giveBack) (h2 : e.code.getD (f.pc + 2) 0 = least) (hc : f.count - 1 < least) : R e c (some false) (putBackC (popC c f fs) f.kept) (some false) 1 := .one fun sn => by
  refine ⟨sn, ?_⟩
  rw [step_back hf]
  unfold M.resume
  simp only [hw, Bool.false_eq_true, if_false, mk, M.word, h2, hc, if_true, M.say, M.putBack, putBackC, popC]
theorem b_give {least skip : Nat} (hf : c.frames = f :: fs) (hw : f.wait = .giveBack) (h1 : e.code.getD (f.pc + 1) 0 = skip) (h2 : e.code.getD (f.pc + 2) 0 = least) (hc : ¬ (f.count - 1 < least)) (hwt : wt c.frames ≤ 16777216) :
    R e c (some false) (pushC { putBackC (popC c f fs) f.kept with pos := f.pos - 1 } { wait := .giveBack, pc := f.pc, pos := f.pos - 1, outermost := f.outermost, count := f.count - 1, kept := f.kept } (f.pc + 1 + skip) (f.pos - 1) f.outermost) none 1 := .one fun sn => by
  refine ⟨sn, ?_⟩
  rw [step_back hf]
  unfold M.resume
  have := attempt_eq (e := e) (c := { putBackC (popC c f fs) f.kept with pos := f.pos - 1 }) (sn := sn) (f := { wait := .giveBack, pc := f.pc, pos := f.pos - 1, outermost := f.outermost, count := f.count - 1, kept := f.kept })
    (target := f.pc + 1 + skip) («from» := f.pos - 1) (outer := f.outermost) (by rw [hf] at hwt; simp only [wt, putBackC, popC] at hwt ⊢; omega)
  rw [← this]
  simp only [hw, Bool.false_eq_true, if_false, mk, M.word, h2, hc, M.afterRun, M.frame, h1, M.putBack, putBackC, popC]

theorem b_start_yes (hf : c.frames = f :: fs) (hw : f.wait = .nextStart) : R e c (some true) (popC c f fs) (some true) 1 := .one fun sn => by
  refine ⟨sn, ?_⟩
  rw [step_back hf]
  unfold M.resume
  simp only [hw, if_true, mk, M.say, popC]
theorem b_start_end (hf : c.frames = f :: fs) (hw : f.wait = .nextStart) (hl : ¬ (f.pos < e.lastStart)) : R e c (some false) (popC c f fs) (some false) 1 := .one fun sn => by
  refine ⟨sn, ?_⟩
  rw [step_back hf]
  unfold M.resume
  simp only [hw, Bool.false_eq_true, if_false, mk, hl, M.say, popC]
def startC (c : C) (s : Nat) (first : Bool) : C := pushC { c with start := s, pos := s, lastmark := -1, lastindex := -1 } { wait := .nextStart, pc := c.pc, pos := s, outermost := first } c.pc s first
/-- without a first set -/
def NoFirst (code : Array Nat) : Prop := ∀ m : M, m.code = code → m.hasFirstSet = false
theorem attemptFrom_no {m : M} (h : m.hasFirstSet = false) (s : Nat) (first : Bool) : m.attemptFrom s first = m.attemptAt s first := by
  unfold M.attemptFrom; simp [h]
theorem b_start (hf : c.frames = f :: fs) (hw : f.wait = .nextStart) (hl : f.pos < e.lastStart) (hn : NoFirst e.code) (hwt : wt fs + 1 ≤ 16777216) :
    R e c (some false) (startC { popC c f fs with must := false } (f.pos + 1) false) none 1 := .one fun sn => by
  refine ⟨sn, ?_⟩
  rw [step_back hf]
  unfold M.resume
  have := attempt_eq (e := e) (c := { popC c f fs with must := false, start := f.pos + 1, pos := f.pos + 1, lastmark := -1, lastindex := -1 }) (sn := sn) (f := { wait := .nextStart, pc := f.pc, pos := f.pos + 1, outermost := false })
    (target := f.pc) («from» := f.pos + 1) (outer := false) (by simp only [wt, popC]; simpa [Nat.add_comm] using hwt)
  refine Eq.trans ?_ this
  simp only [hw, Bool.false_eq_true, if_false, mk, hl, if_true]
  rw [attemptFrom_no (hn _ rfl)]
  simp only [M.attemptAt, popC]
end

theorem fin_step {e : ME} {c : C} {sn : Seen} {yes : Bool} (hf : c.frames = []) : (mk e c sn (some yes)).step = { mk e c sn (some yes) with outcome := some (if yes then .matched else .failed) } := by
  unfold M.step
  simp only [mk, Option.isSome_none, Bool.false_eq_true, if_false, hf]

/-- a search or a match from m comes to an end -/
theorem fin_reach {e : ME} {c c' : C} {a : Option Bool} {yes : Bool} {n : Nat} (h : R e c a c' (some yes) n) (hf : c'.frames = []) (sn : Seen) :
    ∃ sn', Reach (mk e c sn a) { mk e c' sn' (some yes) with outcome := some (if yes then .matched else .failed) } (n + 1) :=
  let ⟨s1, r1⟩ := h sn; ⟨s1, r1.trans (.one rfl (fin_step hf))⟩
end Mine

/-! part Sre3 -/
set_option maxRecDepth 100000
set_option Elab.async false
set_option linter.unusedVariables false
namespace Mine
open PySem PySem.Sre

def tokCode : Array Nat := #[14, 4, 0, 1, 4294967295, 24, 16, 1, 4294967295, 13, 11, 9, 0, 67071226, 3355443198, 1476395007, 0, 0, 0, 0, 0, 1, 1]

/-- the 77 signs of a token -/
def isTok (c : Nat) : Bool := c == 33 || (35 ≤ c && c ≤ 39) || c == 42 || c == 43 || c == 45 || c == 46 || (48 ≤ c && c ≤ 57) || (65 ≤ c && c ≤ 90) || (94 ≤ c && c ≤ 122) || c == 124 || c == 126

theorem tok_bits : ∀ c, c < 256 → (tokCode.getD (11 + (1 + c / 32)) 0).testBit (c % 32) = isTok c := by decide +kernel
theorem tok_big {c : Nat} (h : ¬ c < 256) : isTok c = false := by
  unfold isTok
  simp only [Bool.or_eq_false_iff, Bool.and_eq_false_iff, beq_eq_false_iff_ne, decide_eq_false_iff_not]
  omega

theorem acc_tok : Acc tokCode 9 isTok := fun ch sn => by
  by_cases h : (decide (ch < 256) && (tokCode.getD (11 + (1 + ch / 32)) 0).testBit (ch % 32)) = true
  · refine ⟨sn.add 9, ?_⟩
    have : isTok ch = true := by
      simp only [Bool.and_eq_true, decide_eq_true_eq] at h
      rw [← tok_bits ch h.1]; exact h.2
    rw [this]
    show Sre.inSet tokCode ch (22 + 1) 11 true sn = _
    rw [Sre.inSet]
    show (if (decide (ch < 256) && (tokCode.getD (11 + (1 + ch / 32)) 0).testBit (ch % 32)) = true then Except.ok (true, sn.add 9) else Sre.inSet tokCode ch 22 20 true (sn.add 9)) = _
    rw [if_pos h]
  · refine ⟨(sn.add 9).add 0, ?_⟩
    have : isTok ch = false := by
      by_cases h2 : ch < 256
      · simp only [h2, decide_true, Bool.true_and, tok_bits ch h2] at h; simpa using h
      · exact tok_big h2
    rw [this]
    show Sre.inSet tokCode ch (22 + 1) 11 true sn = _
    rw [Sre.inSet]
    show (if (decide (ch < 256) && (tokCode.getD (11 + (1 + ch / 32)) 0).testBit (ch % 32)) = true then Except.ok (true, sn.add 9) else Sre.inSet tokCode ch 22 20 true (sn.add 9)) = _
    rw [if_neg h]
    rfl

theorem takeWhile_all {p : Nat → Bool} : ∀ (l : List Nat), (l.takeWhile p).length = l.length ↔ l.all p = true
  | [] => by simp
  | x :: l => by
    cases hp : p x with
    | true => rw [List.takeWhile_cons_of_pos hp]; simp [hp, takeWhile_all l]
    | false => rw [List.takeWhile_cons_of_neg (by rw [hp]; exact Bool.false_ne_true)]; simp [hp]

def tokS (k : Nat) : C := { pc := 22, pos := k, handed := k, start := 0, frames := [{ wait := .giveBack, pc := 5, pos := k, outermost := true, count := (k : Int), kept := {} }] }
theorem tok_back {t : Array Nat} : ∀ k, 1 ≤ k → k < t.size → ∃ c, c.frames = [] ∧ R ⟨tokCode, t, 0, true⟩ (tokS k) none c (some false) (2 * k)
  | 0, h, _ => by omega
  | 1, _, hk => by
    refine ⟨_, ?_, (r_success_no (c := tokS 1) (by show (22 : Nat) < 23; omega) rfl ?_).trans (b_give_end (least := 1) (c := tokS 1) rfl rfl rfl (by decide))⟩
    · rfl
    · have : ((1 : Nat) != t.size) = true := by simp; omega
      simp [tokS, this]
  | k + 2, _, hk => by
    obtain ⟨c, hc, hr⟩ := tok_back (t := t) (k + 1) (by omega) (by omega)
    refine ⟨c, hc, ?_⟩
    have h1 := r_success_no (e := ⟨tokCode, t, 0, true⟩) (c := tokS (k + 2)) (by show (22 : Nat) < 23; omega) rfl (by
      have : ((k + 2 : Nat) != t.size) = true := by simp; omega
      simp [tokS, this])
    have h2 := b_give (e := ⟨tokCode, t, 0, true⟩) (least := 1) (skip := 16) (c := tokS (k + 2)) rfl rfl rfl rfl (by show ¬ (((k + 2 : Nat) : Int) - 1 < 1); omega) (by show wt _ ≤ _; simp [tokS, wt])
    have h3 : R ⟨tokCode, t, 0, true⟩ (tokS (k + 2)) none (tokS (k + 1)) none 2 := by
      have := h1.trans h2
      refine cast ?_ this
      congr 1
      simp only [pushC, putBackC, popC, tokS]
      congr 2
      show _ = _
      congr 1
      omega
    exact (h3.trans hr).le (by omega)

theorem forMatch_tok (t : Array Nat) (h : t.size ≠ 0) : ∃ sn, forMatch tokCode t 0 0 t.size true false = mk ⟨tokCode, t, 0, true⟩ { pc := 5, pos := 0, handed := 0, start := 0 } sn none := by
  refine ⟨({} : Seen).add 14, ?_⟩
  show (if (((1 : Nat) != 0) && decide ((0 : Nat) ≤ t.size) && decide (t.size - 0 < 1)) = true then _ else _) = _
  rw [if_neg]
  · rfl
  · intro q; simp only [Bool.and_eq_true, decide_eq_true_eq] at q; omega
theorem forMatch_tok0 (t : Array Nat) (h : t.size = 0) : ∃ sn, forMatch tokCode t 0 0 t.size true false = mk ⟨tokCode, t, 0, true⟩ { pc := 5, pos := 0, handed := 0, start := 0 } sn (some false) := by
  refine ⟨({} : Seen).add 14, ?_⟩
  show (if (((1 : Nat) != 0) && decide ((0 : Nat) ≤ t.size) && decide (t.size - 0 < 1)) = true then _ else _) = _
  rw [if_pos]
  · rfl
  · simp only [Bool.and_eq_true, decide_eq_true_eq]; exact ⟨⟨rfl, by omega⟩, by omega⟩

def tokB (t : Array Nat) : Bool := t.size != 0 && t.toList.all isTok

theorem tok_full (t : Array Nat) (ht : t.size ≤ 16777216) : ∃ m' n, Reach (forMatch tokCode t 0 0 t.size true false) m' n ∧ n < 2 ^ 65 ∧ m'.outcome = some (if tokB t then .matched else .failed) ∧ (tokB t = true → m'.lastmark = -1 ∧ m'.lastindex = -1) := by
  by_cases h0 : t.size = 0
  · obtain ⟨sn, e⟩ := forMatch_tok0 t h0
    rw [e]
    obtain ⟨s1, r⟩ := fin_reach (e := ⟨tokCode, t, 0, true⟩) (c := { pc := 5, pos := 0, handed := 0, start := 0 }) (n := 0) (yes := false) R.refl rfl sn
    have hb : tokB t = false := by simp [tokB, h0]
    exact ⟨_, _, r, by decide, by rw [hb], fun q => by rw [hb] at q; cases q⟩
  · obtain ⟨sn, e⟩ := forMatch_tok t h0
    rw [e]
    have hlen : t.toList.length = t.size := Array.length_toList
    by_cases hn : 1 ≤ (t.toList.takeWhile isTok).length
    · have hle : (t.toList.takeWhile isTok).length ≤ t.toList.length := (List.takeWhile_sublist _).length_le
      have h1 := r_repeat (e := ⟨tokCode, t, 0, true⟩) (c := { pc := 5, pos := 0, handed := 0, start := 0 }) (p := isTok) (least := 1) (skip := 16) (pre := []) (rem := t.toList) (by show (5 : Nat) < 23; omega) rfl rfl rfl rfl acc_tok rfl rfl ht hn (by decide)
      have h2 : R ⟨tokCode, t, 0, true⟩ { pc := 5, pos := 0, handed := 0, start := 0 } none (tokS (t.toList.takeWhile isTok).length) none 1 := by
        refine cast ?_ h1
        congr 1
        simp only [pushC, tokS, keepOf, Nat.zero_add]
        rfl
      by_cases hall : (t.toList.takeWhile isTok).length = t.size
      · have h3 := r_success (e := ⟨tokCode, t, 0, true⟩) (c := tokS (t.toList.takeWhile isTok).length) (by show (22 : Nat) < 23; omega) rfl (by simp [tokS, hall])
        have h4 := b_give_yes (e := ⟨tokCode, t, 0, true⟩) (c := { tokS (t.toList.takeWhile isTok).length with handed := (tokS (t.toList.takeWhile isTok).length).pos }) rfl rfl
        obtain ⟨s1, r⟩ := fin_reach ((h2.trans h3).trans h4) rfl sn
        have hb : tokB t = true := by
          simp only [tokB, Bool.and_eq_true, bne_iff_ne, ne_eq, h0, not_false_iff, true_and]
          exact (takeWhile_all _).mp (by rw [hall, hlen])
        exact ⟨_, _, r, by decide, by rw [hb], fun _ => ⟨rfl, rfl⟩⟩
      · obtain ⟨c, hc, hr⟩ := tok_back (t := t) (t.toList.takeWhile isTok).length hn (by omega)
        obtain ⟨s1, r⟩ := fin_reach (h2.trans hr) hc sn
        have hb : tokB t = false := by
          cases q : tokB t with
          | false => rfl
          | true =>
            simp only [tokB, Bool.and_eq_true] at q
            exact absurd ((takeWhile_all _).mpr q.2) (by rw [hlen]; exact hall)
        exact ⟨_, _, r, by omega, by rw [hb], fun q => by rw [hb] at q; cases q⟩
    · have h1 := r_repeat_no (e := ⟨tokCode, t, 0, true⟩) (c := { pc := 5, pos := 0, handed := 0, start := 0 }) (p := isTok) (least := 1) (pre := []) (rem := t.toList) (by show (5 : Nat) < 23; omega) rfl rfl rfl acc_tok rfl rfl ht (by omega)
      obtain ⟨s1, r⟩ := fin_reach h1 rfl sn
      have hb : tokB t = false := by
        cases q : tokB t with
        | false => rfl
        | true =>
          simp only [tokB, Bool.and_eq_true] at q
          have := (takeWhile_all _).mpr q.2
          omega
      exact ⟨_, _, r, by decide, by rw [hb], fun q => by rw [hb] at q; cases q⟩
end Mine

/-! part Sre4 -/
set_option maxRecDepth 100000
set_option Elab.async false
set_option linter.unusedVariables false
namespace Mine
open PySem PySem.Sre

def escCode : Array Nat := #[14, 9, 4, 1, 1, 16, 34, 16, 92, 0, 17, 0, 13, 6, 16, 34, 16, 92, 0, 17, 1, 1]
def isEsc (c : Nat) : Bool := c == 34 || c == 92

theorem esc_set (i : Nat) (hi : i = 5 ∨ i = 14) (ch : Nat) (sn : Seen) : ∃ sn', Sre.inSet escCode ch 22 i true sn = .ok (isEsc ch, sn') := by
  have h1 : ops[(16 : Nat)]? = some Op.LITERAL := rfl
  have h2 : ops[(0 : Nat)]? = some Op.FAILURE := rfl
  unfold isEsc
  by_cases ha : ch = 34
  · subst ha
    refine ⟨sn.add 16, ?_⟩
    rcases hi with rfl | rfl <;> rfl
  · have ha' : (ch == 34) = false := by simpa using ha
    by_cases hb : ch = 92
    · subst hb
      refine ⟨(sn.add 16).add 16, ?_⟩
      rcases hi with rfl | rfl <;> rfl
    · have hb' : (ch == 92) = false := by simpa using hb
      refine ⟨((sn.add 16).add 16).add 0, ?_⟩
      rcases hi with rfl | rfl
      · rw [Sre.inSet]
        show (if (ch == 34) = true then _ else Sre.inSet escCode ch 21 7 true (sn.add 16)) = _
        rw [ha', if_neg Bool.false_ne_true, Sre.inSet]
        show (if (ch == 92) = true then _ else Sre.inSet escCode ch 20 9 true ((sn.add 16).add 16)) = _
        rw [hb', if_neg Bool.false_ne_true]; rfl
      · rw [Sre.inSet]
        show (if (ch == 34) = true then _ else Sre.inSet escCode ch 21 16 true (sn.add 16)) = _
        rw [ha', if_neg Bool.false_ne_true, Sre.inSet]
        show (if (ch == 92) = true then _ else Sre.inSet escCode ch 20 18 true ((sn.add 16).add 16)) = _
        rw [hb', if_neg Bool.false_ne_true]; rfl

theorem acc_esc : Acc escCode 12 isEsc := fun ch sn => esc_set 14 (.inr rfl) ch sn

theorem esc_admitted {m : M} (hc : m.code = escCode) (hl : m.lim = m.text.size) : ∀ (mid pre : List Nat) (fuel : Nat) (sn : Seen), (∀ x ∈ mid, isEsc x = false) → mid.length < fuel →
    (∀ ch post, m.text.toList = pre ++ mid ++ ch :: post → isEsc ch = true → ∃ sn', M.admitted m fuel pre.length sn = .ok (some (pre.length + mid.length), sn')) ∧
    (m.text.toList = pre ++ mid → ∃ sn', M.admitted m fuel pre.length sn = .ok (none, sn'))
  | [], pre, fuel + 1, sn, _, hf => by
    constructor
    · intro ch post e he
      have hsz : m.text.size = pre.length + (post.length + 1) := by rw [← Array.length_toList, e]; simp
      have hx : m.text.getD pre.length 0 = ch := by rw [Array.getD_eq_getD_getElem?, ← Array.getElem?_toList, e]; simp
      obtain ⟨s1, h1⟩ := esc_set 5 (.inl rfl) ch sn
      refine ⟨s1, ?_⟩
      rw [M.admitted, if_neg (by rw [hl]; omega), hx, hc]
      rw [show escCode.size = 22 from rfl, h1, he]; rfl
    · intro e
      have hsz : m.text.size = pre.length := by rw [← Array.length_toList, e]; simp
      refine ⟨sn, ?_⟩
      rw [M.admitted, if_pos (by rw [hl]; omega)]
  | x :: mid, pre, fuel + 1, sn, hm, hf => by
    have hsz : ∀ r, m.text.toList = pre ++ (x :: mid) ++ r → m.text.size = pre.length + (mid.length + 1) + r.length ∧ m.text.getD pre.length 0 = x := fun r e =>
      ⟨by rw [← Array.length_toList, e]; simp; omega, by rw [Array.getD_eq_getD_getElem?, ← Array.getElem?_toList, e]; simp⟩
    obtain ⟨s1, h1⟩ := esc_set 5 (.inl rfl) x sn
    have hxx := hm x (.head _)
    have ih := esc_admitted hc hl mid (pre ++ [x]) fuel s1 (fun y hy => hm y (.tail _ hy)) (by simp at hf; omega)
    have stp : ∀ r, m.text.toList = pre ++ (x :: mid) ++ r → M.admitted m (fuel + 1) pre.length sn = M.admitted m fuel (pre ++ [x]).length s1 := fun r e => by
      obtain ⟨hs, hx⟩ := hsz r e
      rw [M.admitted, if_neg (by rw [hl]; omega), hx, hc]
      rw [show escCode.size = 22 from rfl, h1, hxx]
      simp only [List.length_append, List.length_cons, List.length_nil, Nat.zero_add]
    constructor
    · intro ch post e he
      obtain ⟨s2, h2⟩ := ih.1 ch post (by rw [e]; simp) he
      refine ⟨s2, ?_⟩
      rw [stp (ch :: post) e, h2]
      congr 3
      simp; omega
    · intro e
      obtain ⟨s2, h2⟩ := ih.2 (by rw [e]; simp)
      exact ⟨s2, by rw [stp [] (by rw [e]; simp), h2]⟩

theorem esc_hasFirst {m : M} (hc : m.code = escCode) : m.hasFirstSet = true := by unfold M.hasFirstSet; rw [hc]; rfl

def escC0 (pos : Nat) (must : Bool) : C := { pc := 10, pos := pos, handed := pos, start := pos, must := must, marks := #[none, none] }
theorem forSearch_esc (t : Array Nat) (pos : Nat) (must : Bool) (h : pos < t.size) : ∃ sn, forSearch escCode t 1 pos t.size must = (mk ⟨escCode, t, t.size, false⟩ (escC0 pos must) sn none).attemptFrom pos true := by
  refine ⟨({} : Seen).add 14, ?_⟩
  show (if (decide (pos > t.size) || decide (t.size - pos < 1)) = true then _ else _) = _
  rw [if_neg]
  · rfl
  · intro q; simp only [Bool.or_eq_true, decide_eq_true_eq] at q; omega
theorem forSearch_esc0 (t : Array Nat) (pos : Nat) (must : Bool) (h : ¬ pos < t.size) : ∃ sn, forSearch escCode t 1 pos t.size must = mk ⟨escCode, t, 0, false⟩ (escC0 pos must) sn (some false) := by
  refine ⟨({} : Seen).add 14, ?_⟩
  show (if (decide (pos > t.size) || decide (t.size - pos < 1)) = true then _ else _) = _
  rw [if_pos]
  · rfl
  · simp only [Bool.or_eq_true, decide_eq_true_eq]; omega

theorem esc_found {t : Array Nat} {pre mid post : List Nat} {ch : Nat} {must : Bool} (ht : t.toList = pre ++ mid ++ ch :: post) (hm : ∀ x ∈ mid, isEsc x = false) (he : isEsc ch = true) :
    ∃ m' n, Reach (forSearch escCode t 1 pre.length t.size must) m' n ∧ n < 2 ^ 65 ∧ m'.outcome = some .matched ∧ m'.start = pre.length + mid.length ∧ m'.handed = pre.length + mid.length + 1 ∧
      m'.marks = #[some (pre.length + mid.length), some (pre.length + mid.length + 1)] ∧ m'.lastmark = 1 ∧ m'.lastindex = 1 := by
  have hsz : t.size = pre.length + mid.length + (post.length + 1) := by rw [← Array.length_toList, ht]; simp; omega
  obtain ⟨sn, e⟩ := forSearch_esc t pre.length must (by omega)
  rw [e]
  obtain ⟨s1, ha⟩ := (esc_admitted (m := mk ⟨escCode, t, t.size, false⟩ (escC0 pre.length must) sn none) rfl rfl mid pre (t.size + 1 - pre.length) sn hm (by omega)).1 ch post ht he
  have hfrom : (mk ⟨escCode, t, t.size, false⟩ (escC0 pre.length must) sn none).attemptFrom pre.length true = mk ⟨escCode, t, t.size, false⟩ (startC { escC0 pre.length must with must := false } (pre.length + mid.length) true) s1 none := by
    unfold M.attemptFrom
    rw [if_neg (by rw [esc_hasFirst rfl]; simp)]
    change (match M.admitted (mk ⟨escCode, t, t.size, false⟩ (escC0 pre.length must) sn none) (t.size + 1 - pre.length) pre.length sn with
      | .ok (some s, seen) => _
      | .ok (none, seen) => _
      | .error why => _) = _
    rw [ha]
    exact attempt_eq (e := ⟨escCode, t, t.size, false⟩) (c := { escC0 pre.length must with must := false, start := pre.length + mid.length, pos := pre.length + mid.length, lastmark := -1, lastindex := -1 }) (by show 1 + 0 + 0 ≤ 16777216; omega)
  rw [hfrom]
  have hx : t.getD (pre.length + mid.length) 0 = ch := by
    rw [Array.getD_eq_getD_getElem?, ← Array.getElem?_toList, ht, ← List.length_append]; simp
  have r1 := r_mark (e := ⟨escCode, t, t.size, false⟩) (c := startC { escC0 pre.length must with must := false } (pre.length + mid.length) true) (i := 0) (by show (10 : Nat) < 22; omega) rfl rfl (Int.le_refl _)
  have r2 := r_item (e := ⟨escCode, t, t.size, false⟩) (c := { startC { escC0 pre.length must with must := false } (pre.length + mid.length) true with marks := #[some (pre.length + mid.length), none], lastmark := 0, lastindex := -1, pc := 12 }) (p := isEsc) (wd := 7)
    (by show (12 : Nat) < 22; omega) (.inl rfl) (by show pre.length + mid.length < t.size; omega) acc_esc (by show isEsc (t.getD (pre.length + mid.length) 0) = true; rw [hx]; exact he) rfl
  have r3 := r_mark (e := ⟨escCode, t, t.size, false⟩) (c := { startC { escC0 pre.length must with must := false } (pre.length + mid.length) true with marks := #[some (pre.length + mid.length), none], lastmark := 0, lastindex := -1, pc := 19, pos := pre.length + mid.length + 1 }) (i := 1)
    (by show (19 : Nat) < 22; omega) rfl rfl (Int.le_refl _)
  have r4 := r_success (e := ⟨escCode, t, t.size, false⟩) (c := { startC { escC0 pre.length must with must := false } (pre.length + mid.length) true with marks := #[some (pre.length + mid.length), some (pre.length + mid.length + 1)], lastmark := 1, lastindex := 1, pc := 21, pos := pre.length + mid.length + 1 })
    (by show (21 : Nat) < 22; omega) rfl (by simp [startC, pushC])
  have r5 := b_start_yes (e := ⟨escCode, t, t.size, false⟩) (c := { startC { escC0 pre.length must with must := false } (pre.length + mid.length) true with marks := #[some (pre.length + mid.length), some (pre.length + mid.length + 1)], lastmark := 1, lastindex := 1, pc := 21, pos := pre.length + mid.length + 1, handed := pre.length + mid.length + 1 }) rfl rfl
  obtain ⟨s2, r⟩ := fin_reach ((((r1.trans r2).trans r3).trans r4).trans r5) rfl s1
  exact ⟨_, _, r, by decide, rfl, rfl, rfl, rfl, rfl, rfl⟩

theorem esc_none {t : Array Nat} {pre mid : List Nat} {must : Bool} (ht : t.toList = pre ++ mid) (hm : ∀ x ∈ mid, isEsc x = false) :
    ∃ m' n, Reach (forSearch escCode t 1 pre.length t.size must) m' n ∧ n < 2 ^ 65 ∧ m'.outcome = some .failed := by
  have hsz : t.size = pre.length + mid.length := by rw [← Array.length_toList, ht]; simp
  by_cases h : pre.length < t.size
  · obtain ⟨sn, e⟩ := forSearch_esc t pre.length must h
    rw [e]
    obtain ⟨s1, ha⟩ := (esc_admitted (m := mk ⟨escCode, t, t.size, false⟩ (escC0 pre.length must) sn none) rfl rfl mid pre (t.size + 1 - pre.length) sn hm (by omega)).2 ht
    have hfrom : (mk ⟨escCode, t, t.size, false⟩ (escC0 pre.length must) sn none).attemptFrom pre.length true = mk ⟨escCode, t, t.size, false⟩ (escC0 pre.length must) s1 (some false) := by
      unfold M.attemptFrom
      rw [if_neg (by rw [esc_hasFirst rfl]; simp)]
      change (match M.admitted (mk ⟨escCode, t, t.size, false⟩ (escC0 pre.length must) sn none) (t.size + 1 - pre.length) pre.length sn with
        | .ok (some s, seen) => _
        | .ok (none, seen) => _
        | .error why => _) = _
      rw [ha]; rfl
    rw [hfrom]
    obtain ⟨s2, r⟩ := fin_reach (e := ⟨escCode, t, t.size, false⟩) (c := escC0 pre.length must) (n := 0) (yes := false) R.refl rfl s1
    exact ⟨_, _, r, by decide, rfl⟩
  · obtain ⟨sn, e⟩ := forSearch_esc0 t pre.length must h
    rw [e]
    obtain ⟨s2, r⟩ := fin_reach (e := ⟨escCode, t, 0, false⟩) (c := escC0 pre.length must) (n := 0) (yes := false) R.refl rfl sn
    exact ⟨_, _, r, by decide, rfl⟩
end Mine

/-! part Fw7 -/
set_option maxRecDepth 100000
set_option Elab.async false
set_option linter.unusedVariables false
namespace Mine
open PySem PyProof.Rows

structure TyV (G : Gl) (L : Addr) (v : V) (st : St) (T : String) : Prop where
  run : ∀ K Z w s, Sim G K Z L st s → VR Z v w → s.TypeIs w T ∧ ∀ a, w = .ref a → ∃ ob, s.heap.get? a = some ob ∧ ob.dict = none
structure CB (G : Gl) (A : Around) (L : Addr) (id : String) (vs : List V) (st : St) (Q : V → St → Prop) : Prop where
  run : ∀ K Z ws s, Sim G K Z L st s → VRs Z vs ws → wpAny G.M A (call (.builtin id) ws) (Post G K Z L VR Q) Nope s
structure MF (T : String) (name : Str) (id : String) : Prop where
  pa : PlainAttrs T
  slot : Slot T name id
  ty : typeOf (.builtin id) = pure (.type "method_descriptor")

section
variable {G : Gl} {A : Around} {env : Env} {st : St} {pos apos : Pos} {Q : V → St → Prop} {L : Addr}

theorem ty_str {x : Str} : TyV G L (.str x) st "str" := ⟨fun K Z w s S r => by obtain ⟨t, rfl⟩ := of_str r; exact ⟨typeIs_str _ _ _, fun _ e => nomatch e⟩⟩
theorem ty_list {a : Addr} {xs : List V} (ha : (a, xs) ∈ st.ar) : TyV G L (.list a) st "list" := ⟨fun K Z w s S r => by
  rw [of_list r]
  obtain ⟨_, _, _, ws, n, e, _⟩ := S.ar _ ha
  exact ⟨⟨_, e, rfl⟩, fun b q => by cases q; exact ⟨_, e, rfl⟩⟩⟩
theorem of_mat {Z : Zt} {x : Str} {sp : List Int} {w : Value} (h : VR Z (.mat x sp) w) : ∃ a b t pt ps lm li n, w = .ref a ∧ Z a = some { cls := .type "re.Match", dict := none, data := .fields #[.str x t, pt, ps, lm, li, .ref b], slots := #[] } ∧
      Z b = some { cls := .type "tuple", dict := none, data := .seq (sp.map rawInt).toArray n, slots := #[] } := by unfold VR at h; exact h
theorem ty_mat {x : Str} {sp : List Int} : TyV G L (.mat x sp) st "re.Match" := ⟨fun K Z w s S r => by
  obtain ⟨a, b, t, pt, ps, lm, li, n, rfl, h1, h2⟩ := of_mat r
  exact ⟨⟨_, S.zz _ _ h1, rfl⟩, fun c q => by cases q; exact ⟨_, S.zz _ _ h1, rfl⟩⟩⟩
theorem ty_base {a : Addr} {o : Obj} {T : String} (ho : G.base.get? a = some o) (hc : o.cls = .type T) (hd : o.dict = none) : TyV G L (.raw (.ref a)) st T := ⟨fun K Z w s S r => by
  rw [of_raw r]
  exact ⟨⟨_, S.base _ _ ho, hc⟩, fun b q => by cases q; exact ⟨_, S.base _ _ ho, hd⟩⟩⟩

theorem ev_meth {o e : Expr} {es : List Expr} {name : Str} (hbase : attributeBase o name env (eval o env) = eval o env) (hline : (apos.endLine == pos.line) = true)
    (hfew : ((backTo pos (starEach (e :: es) env)).all (fun x => !x.1) && (backToKw pos (keywordEach [] env)).all (fun x => x.1.isSome)
      && decide ((e :: es).length + ([] : List Keyword).length + (if ([] : List Keyword).isEmpty then 0 else 1) < 30)) = true)
    (hp : (backTo pos (starEach (e :: es) env)).any (·.1) = false) (hs : starEach (e :: es) env = (false, eval e env) :: starEach es env)
    (h : Ev G A env o st fun ov st₁ => ∃ T id, MF T name id ∧ TyV G env.locals ov st₁ T ∧ Evs G A env (e :: es) st₁ fun vs st₂ => CB G A env.locals id (ov :: vs) st₂ Q) :
    Ev G A env (.Call (.Attribute o name apos) (e :: es) [] pos) st Q := ⟨fun K Z s S => by
  refine wpAny_Call_method_lateS hbase hfew hline (h.run.use S fun Z₁ ov st₁ w s₁ z₁ S₁ r₁ ⟨T, id, mf, ty, h₁⟩ => ?_)
  obtain ⟨hT, hd⟩ := ty.run K Z₁ w s₁ S₁ r₁
  refine ⟨T, id, mf.pa, mf.slot, mf.ty, hT, hd, PySem.Calls.callWith_builtin hp ?_⟩
  have h2 := (h₁.run pos).use (P := fun vs s' => wpAny G.M A (call (.builtin id) ([w] ++ vs) []) (Post G K Z env.locals VR Q) Nope s') S₁ fun Z₂ vs st₂ ws s₂ z₂ S₂ r₂ hc =>
    wpLe (z₁.trans z₂) (hc.run K Z₂ (w :: ws) s₂ S₂ (.cons (VR.mono z₂ _ _ r₁) r₂))
  rw [hs] at h2 ⊢
  exact PySem.Calls.evalArgs_plain h2⟩
theorem ev_meth0 {o : Expr} {name : Str} (hbase : attributeBase o name env (eval o env) = eval o env) (hline : (apos.endLine == pos.line) = true)
    (h : Ev G A env o st fun ov st₁ => ∃ T id, MF T name id ∧ TyV G env.locals ov st₁ T ∧ CB G A env.locals id [ov] st₁ Q) :
    Ev G A env (.Call (.Attribute o name apos) [] [] pos) st Q := ⟨fun K Z s S => by
  refine wpAny_Call_method_lateS hbase rfl hline (h.run.use S fun Z₁ ov st₁ w s₁ z₁ S₁ r₁ ⟨T, id, mf, ty, h₁⟩ => ?_)
  obtain ⟨hT, hd⟩ := ty.run K Z₁ w s₁ S₁ r₁
  refine ⟨T, id, mf.pa, mf.slot, mf.ty, hT, hd, PySem.Calls.callWith_builtin rfl ?_⟩
  have h2 := wpLe z₁ (h₁.run K Z₁ [w] s₁ S₁ (.cons r₁ .nil))
  exact evalArgs_nil3 h2⟩
/-- a call of a built-in function by its name -/
theorem ev_bcall {x : Str} {p : Pos} {e : Expr} {es : List Expr} {id : String} (hp : (backTo pos (starEach (e :: es) env)).any (·.1) = false) (hs : starEach (e :: es) env = (false, eval e env) :: starEach es env)
    (h : Ev G A env (.Name x p) st fun v st₁ => v = .raw (.builtin id) ∧ Evs G A env (e :: es) st₁ fun vs st₂ => CB G A env.locals id vs st₂ Q) : Ev G A env (.Call (.Name x p) (e :: es) [] pos) st Q :=
  ⟨fun K Z s S => by
    show wpAny _ _ (eval (.Name x p) env >>= fun fv => callWith pos fv [] (backTo pos (starEach (e :: es) env)) []) _ _ s
    refine wpAny_bind (h.run.use S fun Z₁ v st₁ w s₁ z₁ S₁ r₁ ⟨hv, h₁⟩ => ?_)
    subst hv
    rw [of_raw r₁]
    refine PySem.Calls.callWith_builtin hp ?_
    have h2 := (h₁.run pos).use (P := fun vs s' => wpAny G.M A (call (.builtin id) ([] ++ vs) []) (Post G K Z env.locals VR Q) Nope s') S₁ fun Z₂ vs st₂ ws s₂ z₂ S₂ r₂ hc =>
      wpLe (z₁.trans z₂) (hc.run K Z₂ ws s₂ S₂ r₂)
    rw [hs] at h2 ⊢
    exact PySem.Calls.evalArgs_plain h2⟩
end
end Mine

/-! part Re1 -/
set_option maxRecDepth 100000
set_option Elab.async false
set_option linter.unusedVariables false
namespace Mine
open PySem PyProof.Rows PySem.Builtin.Re

structure Pat (G : Gl) (p : Addr) (code : Array Nat) (groups : Nat) : Prop where
  obj : ∃ o fs q oq items n, G.base.get? p = some o ∧ o.cls = .type "re.Pattern" ∧ o.dict = none ∧ o.data = .fields fs ∧ reRawNat (fs.getD 6 .none) = 0 ∧ reRawNat (fs.getD 2 .none) = groups ∧
    fs.getD 5 .none = .ref q ∧ G.base.get? q = some oq ∧ oq.data = .seq items n ∧ (items.map reRawOf).map (·.toNat) = code

section
variable {G : Gl} {A : Around} {E : Value → Shared → Prop} {K Z : Zt} {L : Addr} {st : St} {s : Shared} {p : Addr} {code : Array Nat} {groups : Nat} {x : Str} {t : Tok}

theorem ty_pat (P : Pat G p code groups) : TyV G L (.raw (.ref p)) st "re.Pattern" :=
  let ⟨_, _, _, _, _, _, h1, h2, h3, _⟩ := P.obj; ty_base h1 h2 h3

theorem reNamed1 (id f : String) (v : Value) : reNamed id f ["string", "pos", "endpos"] 1 [v] [] = pure [some v, none, none] := by rfl
theorem reNamed2 (id f : String) (r v : Value) : reNamed id f ["repl", "string", "count"] 2 [r, v] [] = pure [some r, some v, none] := by rfl

theorem reTextOf_str {Q : Array Nat × Nat → Shared → Prop} (h : Q (x.cps, 0) s) : wpAny G.M A (reTextOf (.str x t)) Q E s := by
  unfold reTextOf
  exact wpAny_bind (wpAny_pure (wpAny_pure h))

theorem reRawItems_ref {q : Addr} {oq : Obj} {items : Array Value} {n : Nat} {Q : Array Int → Shared → Prop} (ho : s.heap.get? q = some oq) (hd : oq.data = .seq items n) (h : Q (items.map reRawOf) s) : wpAny G.M A (reRawItems (.ref q)) Q E s := by
  unfold reRawItems
  exact wpAny_bind (wpAny_seqItems ho hd (wpAny_pure h))

theorem reTarget_use (S : Sim G K Z L st s) (P : Pat G p code groups) (id f : String) (hx : x.length ≤ 16777216) {Q : ReTarget → Shared → Prop}
    (h : Q { pattern := .ref p, string := .str x t, code := code, text := x.cps, kind := 0, groups := groups, pos := 0, lim := x.cps.size } s) : wpAny G.M A (reTarget id f ⟨[.ref p, .str x t], []⟩) Q E s := by
  obtain ⟨o, fs, q, oq, items, n, h1, h2, h3, h4, h5, h6, h7, h8, h9, h10⟩ := P.obj
  unfold reTarget
  show wpAny G.M A (reNamed id f ["string", "pos", "endpos"] 1 [.str x t] [] >>= _) Q E s
  rw [reNamed1]
  refine wpAny_bind (wpAny_pure ?_)
  refine wpAny_bind (wpAny_pure ?_)
  refine wpAny_bind (wpAny_pure ?_)
  refine wpAny_bind (wpAny_fieldsOf (S.base _ _ h1) h4 ?_)
  refine wpAny_bind (reTextOf_str ?_)
  simp only [h5]
  show wpAny G.M A (reNoCollectionInside (.str x t) 0 >>= _) Q E s
  refine wpAny_bind (wpAny_pure ?_)
  simp only [h7]
  refine wpAny_bind (reRawItems_ref (S.base _ _ h8) h9 (wpAny_pure ?_))
  rw [h10, h6]
  have e1 : min (Int.toNat 0) x.cps.size = 0 := by simp
  have e2 : min (Int.toNat (2 ^ 63 - 1)) x.cps.size = x.cps.size := by
    have : x.cps.size ≤ 16777216 := hx
    have : Int.toNat (2 ^ 63 - 1) = 9223372036854775807 := by decide
    omega
  simp only [e1, e2]
  exact h

theorem reWholeTarget_use (S : Sim G K Z L st s) (P : Pat G p code groups) {Q : ReTarget → Shared → Prop}
    (h : Q { pattern := .ref p, string := .str x t, code := code, text := x.cps, kind := 0, groups := groups, pos := 0, lim := x.cps.size } s) : wpAny G.M A (reWholeTarget (.ref p) (.str x t)) Q E s := by
  obtain ⟨o, fs, q, oq, items, n, h1, h2, h3, h4, h5, h6, h7, h8, h9, h10⟩ := P.obj
  unfold reWholeTarget
  refine wpAny_bind (wpAny_fieldsOf (S.base _ _ h1) h4 ?_)
  refine wpAny_bind (reTextOf_str ?_)
  simp only [h5]
  show wpAny G.M A (reNoCollectionInside (.str x t) 0 >>= _) Q E s
  refine wpAny_bind (wpAny_pure ?_)
  simp only [h7]
  refine wpAny_bind (reRawItems_ref (S.base _ _ h8) h9 (wpAny_pure ?_))
  rw [h10, h6]
  exact h

def matTail (p string : Value) (pos lim : Nat) (li : Int) (sp : List Int) : Sem Value := do
  newFields "re.Match" [string, p, rawInt pos, rawInt lim, rawInt li, ← newTuple (sp.map rawInt)]
theorem reNewMatch0 {pv sv : Value} {pos lim : Nat} {m : Sre.M} : reNewMatch pv sv 0 pos lim m = matTail pv sv pos lim m.lastindex [(m.start : Int), (m.handed : Int)] := rfl
theorem reNewMatch1 {pv sv : Value} {pos lim b e : Nat} {m : Sre.M} (hm : m.marks = #[some b, some e]) (hl : m.lastmark = 1) (hbe : b ≤ e) :
    reNewMatch pv sv 1 pos lim m = matTail pv sv pos lim m.lastindex [(m.start : Int), (m.handed : Int), (b : Int), (e : Int)] := by
  have h : decide (e < b) = false := by simpa using hbe
  unfold reNewMatch
  rw [hm, hl]
  show (if (decide (((2 * 0 + 1 : Nat) : Int) ≤ 1) && decide (e < b) || false) = true then _ else _) = _
  rw [h]
  rfl

theorem matTail_use (S : Sim G K Z L st s) {pos lim : Nat} {li : Int} {sp : List Int} (hl : sp.length ≤ 1000) {Q : Value → Shared → Prop}
    (h : ∀ Z' s' a, Zle Z Z' → Sim G K Z' L st s' → VR Z' (.mat x sp) (.ref a) → Q (.ref a) s') :
    wpAny G.M A (matTail (.ref p) (.str x t) pos lim li sp) Q E s := by
  unfold matTail
  refine wpAny_bind (wpAny_newObj_type ?_ (by
    show (List.map rawInt _).toArray.size ≤ sizeLine
    rw [List.size_toArray, List.length_map, sizeLine_eq]; omega))
  refine wpAny_newObj_type ?_ (by size_fits)
  have S₁ := S.push { cls := .type "tuple", data := .seq (sp.map rawInt).toArray } (tk := s.toks)
  obtain ⟨z₁, S₂⟩ := S₁.addZ (a := s.heap.objs.size) S.fresh (Heap.get?_push_size _ rfl)
  have S₃ := S₂.push { cls := .type "re.Match", data := .fields #[.str x t, .ref p, rawInt pos, rawInt lim, rawInt li, .ref s.heap.objs.size] } (tk := s.toks)
  obtain ⟨z₂, S₄⟩ := S₃.addZ (a := (s.heap.push { cls := .type "tuple", data := .seq (sp.map rawInt).toArray }).objs.size) (o := { cls := .type "re.Match", data := .fields #[.str x t, .ref p, rawInt pos, rawInt lim, rawInt li, .ref s.heap.objs.size] }) S₂.fresh
    (Heap.get?_push_size _ rfl)
  exact h _ _ _ (z₁.trans z₂) S₄ (by
    unfold VR
    exact ⟨_, s.heap.objs.size, t, _, _, _, _, 0, rfl, Zset.self, z₂ _ _ Zset.self⟩)
end

section
variable {G : Gl} {A : Around} {L : Addr} {st : St} {Q : V → St → Prop} {p : Addr}

/-- fullmatch of the tokens' pattern -/
theorem cb_fullmatch {x : Str} (P : Pat G p tokCode 0) (hx : x.length ≤ 16777216) (h : if tokB x.cps then ∀ sp, Q (.mat x sp) st else Q .none st) :
    CB G A L "re.Pattern.fullmatch" [.raw (.ref p), .str x] st Q := ⟨fun K Z ws s S r => by
  obtain ⟨w1, ws1, rfl, r1, r2⟩ := r.of_cons
  obtain ⟨w2, ws2, rfl, r3, r4⟩ := r2.of_cons
  rw [of_raw r1, r4.of_nil]
  obtain ⟨t, rfl⟩ := of_str r3
  obtain ⟨hT, _⟩ := (ty_pat (L := L) (st := st) P).run K Z _ s S vr_raw
  refine wpAny_call_entry slot_pat_fullmatch hT entry_pat_fullmatch ?_ (args_pat_fullmatch _ _)
  unfold Builtin.«re.Pattern.fullmatch»
  refine wpAny_bind (reTarget_use S P _ _ hx ?_)
  obtain ⟨m', n, hr, hn, ho, _⟩ := tok_full x.cps hx
  unfold reAnswer
  show wpAny _ _ (reRunToEnd (Sre.forMatch tokCode x.cps 0 0 x.cps.size true false) >>= _) _ _ s
  cases hb : tokB x.cps with
  | true =>
    rw [hb] at ho h
    simp only [if_true] at ho h
    refine wpAny_bind (reRun_matched hr ho hn ?_)
    show wpAny _ _ (reNewMatch (.ref p) (.str x t) 0 0 x.cps.size m' >>= _) _ _ s
    rw [reNewMatch0]
    exact wpAny_bind (matTail_use S (by simp) fun Z' s' a z S' rv => wpAny_pure ⟨_, rfl, Z', _, st, z, S', rv, h _⟩)
  | false =>
    rw [hb] at ho h
    simp only [Bool.false_eq_true, if_false] at ho h
    refine wpAny_bind (reRun_failed hr ho hn ?_)
    exact wpAny_pure ⟨_, rfl, Post.mk S vr_none h⟩⟩
end
end Mine

/-! part Lam1 -/
set_option maxRecDepth 100000
set_option Elab.async false
set_option linter.unusedVariables false
namespace Mine
open PySem PyProof.Rows PySem.Builtin.Re PySem.W

def setA (a : Addr) (xs : List V) : List (Addr × List V) → List (Addr × List V)
  | [] => []
  | (b, ys) :: r => if b = a then (a, xs) :: r else (b, ys) :: setA a xs r

theorem setA_keys (a : Addr) (xs : List V) : ∀ ar : List (Addr × List V), (setA a xs ar).map (·.1) = ar.map (·.1)
  | [] => rfl
  | (b, ys) :: r => by
    unfold setA
    split
    · rename_i h; subst h; rfl
    · simp only [List.map_cons, setA_keys a xs r]
theorem mem_setA {a : Addr} {xs : List V} : ∀ {ar : List (Addr × List V)} {p : Addr × List V}, (ar.map (·.1)).Nodup → p ∈ setA a xs ar → (p = (a, xs) ∧ ∃ ys, (a, ys) ∈ ar) ∨ (p ∈ ar ∧ p.1 ≠ a)
  | [], p, _, h => by cases h
  | (b, ys) :: r, p, hn, h => by
    unfold setA at h
    simp only [List.map_cons, List.nodup_cons] at hn
    split at h
    · rename_i e; subst e
      rcases List.mem_cons.mp h with rfl | h
      · exact .inl ⟨rfl, ys, .head _⟩
      · exact .inr ⟨.tail _ h, fun q => hn.1 (by rw [← q]; exact List.mem_map_of_mem h)⟩
    · rename_i e
      rcases List.mem_cons.mp h with rfl | h
      · exact .inr ⟨.head _, e⟩
      · rcases mem_setA hn.2 h with ⟨h1, zs, h2⟩ | ⟨h1, h2⟩
        · exact .inl ⟨h1, zs, .tail _ h2⟩
        · exact .inr ⟨.tail _ h1, h2⟩

section
variable {G : Gl} {A : Around} {E : Value → Shared → Prop} {K Z : Zt} {L : Addr} {st : St} {s : Shared}

theorem Sim.setList (S : Sim G K Z L st s) {a : Addr} {xs xs' : List V} {ws' : List Value} {n' : Nat} {h' : Heap} {tk : Nat} (ha : (a, xs) ∈ st.ar) (hs : Heap.SameBut a s.heap h') (he : h'.get? a = some ⟨.type "list", none, .seq ws'.toArray n', #[]⟩) (r : VRs Z xs' ws') :
    Sim G K Z L ⟨st.loc, setA a xs' st.ar⟩ { s with heap := h', toks := tk } := by
  obtain ⟨g1, g2, g3, g4⟩ := S.ar _ ha
  have ne : ∀ b o, K b = some o ∨ Z b = some o → b ≠ a := by
    rintro b o (e | e) q
    · rw [q, g1] at e; cases e
    · rw [q, g2] at e; cases e
  exact {
    kk := fun b o e => (hs.2 b (ne b o (.inl e))).trans (S.kk b o e)
    zz := fun b o e => (hs.2 b (ne b o (.inr e))).trans (S.zz b o e)
    kz := S.kz
    bz := S.bz
    ns := by obtain ⟨m, h1, h2⟩ := S.ns; exact ⟨m, h1.sameBut hs (Ne.symm g3), h2⟩
    kL := S.kL
    zL := S.zL
    ar := fun p hp => by
      rcases mem_setA S.nd hp with ⟨rfl, ys, h1⟩ | ⟨h1, h2⟩
      · exact ⟨g1, g2, g3, ws', n', he, r⟩
      · obtain ⟨k1, k2, k3, ws, n, k4, k5⟩ := S.ar p h1
        exact ⟨k1, k2, k3, ws, n, (hs.2 p.1 h2).trans k4, k5⟩
    nd := by show ((setA a xs' st.ar).map (·.1)).Nodup; rw [setA_keys]; exact S.nd
    tb := fun t ht => by
      obtain ⟨k1, k2, k3, k4, ps, k5, k6⟩ := S.tb t ht
      refine ⟨k1, k2, k3, fun p hp => ?_, ps, (hs.2 t.P (Ne.symm (k4 _ ha))).trans k5, k6⟩
      rcases mem_setA S.nd hp with ⟨rfl, ys, h1⟩ | ⟨h1, h2⟩
      · exact (k4 (a, xs) ha :)
      · exact k4 _ h1
    gens := S.gens
    os := S.os
    cl := S.cl }

theorem Sim.push1 (S : Sim G K Z L st s) {a : Addr} {xs : List V} {v : V} {w : Value} (ha : (a, xs) ∈ st.ar) (r : VR Z v w) (hl : xs.length ≤ 16777215) {Q : Unit → Shared → Prop}
    (h : ∀ s', Sim G K Z L ⟨st.loc, setA a (xs ++ [v]) st.ar⟩ s' → Q () s') : wpAny G.M A (updateSeq a (·.push w)) Q E s := by
  obtain ⟨_, _, _, ws, n, e, rs⟩ := S.ar _ ha
  have hl' : ws.length ≤ 16777215 := by rw [rs.length]; exact hl
  refine wpAny_updateSeq e rfl (h _ ?_) (by rw [List.size_toArray, sizeLine_eq]; omega) (by rw [Array.size_push, List.size_toArray, sizeLine_eq]; omega)
  refine S.setList (ws' := ws ++ [w]) (n' := n + 1) (tk := s.toks) ha (Heap.SameBut.update ..) ?_ (rs.append (.cons r .nil))
  rw [Heap.get?_update_self _ e rfl]
  simp [Obj.mapSeq]
end

structure LamSite (G : Gl) (env : Env) (params : Arguments) (body : Expr) (scope : Scope) (lpos : Pos) (mn : Str) : Prop where
  cd : ∃ c t, env.code = .ref c ∧ CodeHd G.base c t.P ∧ t ∈ G.tabs ∧ t.pos.line = lpos.line ∧ t.pos.col = lpos.col ∧ t.qual = env.qual ++ Str.ofString "<lambda>"
  df : defaultsOf params env = ([], [])
  cl : closureFor scope env = pure []
  gl : env.globals = mainGlobals
  bind : ∀ qual pm c' ctv v, bindArgs (kla_fn (Str.ofString "<lambda>") qual params body scope [] pm c' ctv) ⟨[v], []⟩ = pure [(mn, v)]
  loc : scope.names.lookup mn = some .local
  co : scope.isCoroutine = false
  gen : scope.isGenerator = false
  kind : scope.kind = .function
  cell : ∀ x ∈ scope.names, x.2 ≠ .cell

def LamV (Z : Zt) (f : Addr) (qual : Str) (params : Arguments) (body : Expr) (scope : Scope) : Prop :=
  ∃ c' pm ctv oc vs tk, Z f = some (kla_obj (Str.ofString "<lambda>") qual params body scope [] pm c' ctv) ∧ Z c' = some oc ∧ oc.data = .fields vs ∧ vs[1]? = some (.str qual tk)
theorem LamV.mono {Z Z' : Zt} {f : Addr} {qual : Str} {params : Arguments} {body : Expr} {scope : Scope} (h : LamV Z f qual params body scope) (z : Zle Z Z') : LamV Z' f qual params body scope :=
  let ⟨c', pm, ctv, oc, vs, tk, h1, h2, h3⟩ := h; ⟨c', pm, ctv, oc, vs, tk, z _ _ h1, z _ _ h2, h3⟩

section
variable {G : Gl} {A : Around} {E : Value → Shared → Prop} {K Z : Zt} {st : St} {s : Shared} {env : Env} {params : Arguments} {body : Expr} {scope : Scope} {lpos : Pos} {mn : Str}

theorem Sim.tabGrow {L : Addr} (S : Sim G K Z L st s) (O : GlOk G) {t : Tab} (ht : t ∈ G.tabs) {h' : Heap} {tk : Nat} {c' : Addr} {oc : Obj} {vs : Array Value} {tq : Tok} (hx : Heap.ExtBut t.P s.heap h') (hge : s.heap.objs.size ≤ c')
    (hP : h'.get? t.P = some (tabObj #[rawInt t.pos.line, rawInt t.pos.col, .ref c'])) (hc : h'.get? c' = some oc) (hd : oc.data = .fields vs) (hv : vs[1]? = some (.str t.qual tq)) :
    Zle Z (Zset Z c' oc) ∧ Sim G K (Zset Z c' oc) L st { s with heap := h', toks := tk } := by
  obtain ⟨g1, g2, g3, g4, _⟩ := S.tb t ht
  have hnew : ¬ Tracked G K Z L st c' := fun q => by
    obtain ⟨o, e⟩ := S.there q
    exact absurd (Heap.lt_size e) (Nat.not_lt.mpr hge)
  have hZc : Z c' = none := by
    cases q : Z c' with
    | none => rfl
    | some o => exact absurd (.inr (.inl ⟨o, q⟩)) hnew
  have hle : Zle Z (Zset Z c' oc) := Zset.le hZc
  have ne : ∀ b, Tracked G K Z L st b → b ≠ c' := fun b hb q => hnew (q ▸ hb)
  refine ⟨hle, {
    kk := fun b o e => hx b o (fun q => by rw [q, g1] at e; cases e) (S.kk b o e)
    zz := fun b o e => by
      unfold Zset at e; split at e
      · rename_i q; subst q; cases e; exact hc
      · exact hx b o (fun q => by rw [q, g2] at e; cases e) (S.zz b o e)
    kz := fun b o e => by rw [Zset.ne (ne b (.inl ⟨o, e⟩))]; exact S.kz b o e
    bz := fun b o e => hle _ _ (S.bz b o e)
    ns := by obtain ⟨m, h1, h2⟩ := S.ns; exact ⟨m, h1.extBut hx (Ne.symm g3), fun x => (h2 x).mono hle⟩
    kL := S.kL
    zL := by rw [Zset.ne (ne L (.inr (.inr (.inl rfl))))]; exact S.zL
    ar := fun p hp => by
      obtain ⟨h1, h2, h3, ws, n, h4, h5⟩ := S.ar p hp
      exact ⟨h1, by rw [Zset.ne (ne p.1 (.inr (.inr (.inr (.inl ⟨p, hp, rfl⟩)))))]; exact h2, h3, ws, n, hx _ _ (g4 p hp) h4, VRs.mono hle _ _ h5⟩
    nd := S.nd
    tb := fun t' ht' => by
      obtain ⟨h1, h2, h3, h4, ps, h5, h6⟩ := S.tb t' ht'
      refine ⟨h1, by rw [Zset.ne (ne t'.P (.inr (.inr (.inr (.inr ⟨t', ht', rfl⟩)))))]; exact h2, h3, h4, ?_⟩
      by_cases e : t'.P = t.P
      · have := O.tabs t' ht' t ht e
        subst this
        exact ⟨_, hP, .inr ⟨c', oc, vs, tq, rfl, Zset.self, hd, hv⟩⟩
      · exact ⟨ps, hx _ _ e h5, h6.imp id fun ⟨c'', oc', vs', tk', k1, k2, k3⟩ => ⟨c'', oc', vs', tk', k1, hle _ _ k2, k3⟩⟩
    gens := S.gens
    os := S.os
    cl := fun p hp => let ⟨o', w, h1, h2, h3⟩ := S.cl p hp; ⟨o', w, hle _ _ h1, h2, VR.mono hle _ _ h3⟩ }⟩

theorem lam_eval (S : Sim G K Z env.locals st s) (O : GlOk G) (La : LamSite G env params body scope lpos mn) {Q : Value → Shared → Prop}
    (h : ∀ f Z' s', Zle Z Z' → Sim G K Z' env.locals st s' → LamV Z' f (env.qual ++ Str.ofString "<lambda>") params body scope → Q (.ref f) s') : wpAny G.M A (eval (.Lambda params body scope lpos) env) Q Nope s := by
  obtain ⟨c, t, hc, C, ht, hl, hcl, hq⟩ := La.cd
  obtain ⟨bm, ob, b1, b2, b3, b4, b5⟩ := O.bm
  obtain ⟨g1, g2, g3, g4, ps, hP, hps⟩ := S.tb t ht
  have hbP : bm ≠ t.P := fun q => by have := S.bz _ _ b4; rw [q, g2] at this; cases this
  have hgP : mainGlobals ≠ t.P := fun q => by
    obtain ⟨o, _, _, e, _⟩ := O.g
    have := S.bz _ _ e; rw [q, g2] at this; cases this
  have hB : s.heap.BuiltinsAt G.mg t.P := ⟨bm, ob, b1, b2, b3, hbP, S.base _ _ b4, b5⟩
  refine kla_eval La.df ?_
  rcases hps with rfl | ⟨c', oc, vs, tq, rfl, k1, k2, k3⟩
  · refine kla_makeFunction La.cl La.gl (O.g.keeps S.base) hc (C.keeps S.base) hP (by exact True.intro) rfl hgP hB fun c' ctv h' tk hx hge hlt hrec hP' => ?_
    obtain ⟨c₂, oc, vs, tq, e1, e2, e3, e4⟩ := hrec
    cases e1
    rw [Array.empty_append, ← hl, ← hcl] at hP'
    obtain ⟨z, S'⟩ := S.tabGrow (tk := tk) O ht hx hge hP' e2 e3 (by rw [hq]; exact e4)
    have S₂ := S'.push (kla_obj (Str.ofString "<lambda>") (env.qual ++ Str.ofString "<lambda>") params body scope [] ((G.mg "__name__").getD .none) c' ctv) (tk := tk)
    obtain ⟨z₂, S₃⟩ := S₂.addZ (a := h'.objs.size) S'.fresh (Heap.get?_push_size _ rfl)
    exact h _ _ _ (z.trans z₂) S₃ ⟨c', _, ctv, oc, vs, tq, Zset.self, z₂ _ _ Zset.self, e3, e4⟩
  · refine kla_makeFunctionHit La.cl La.gl (O.g.keeps S.base) hc (C.keeps S.base) hP (by simp [TriplesOk, rawInt]) (cv := .ref c') (by rw [hl, hcl]; simp [codeAmong, rawInt]) hB fun ctv h' tk hk hsz => ?_
    have S' : Sim G K Z env.locals st { s with heap := h', toks := tk } := S.heap fun b o _ e => hk b o e
    have S₂ := S'.push (kla_obj (Str.ofString "<lambda>") (env.qual ++ Str.ofString "<lambda>") params body scope [] ((G.mg "__name__").getD .none) c' ctv) (tk := tk)
    obtain ⟨z₂, S₃⟩ := S₂.addZ (a := h'.objs.size) S'.fresh (Heap.get?_push_size _ rfl)
    exact h _ _ _ z₂ S₃ ⟨c', _, ctv, oc, vs, tq, Zset.self, z₂ _ _ k1, k2, by rw [← hq]; exact k3⟩
end
end Mine

/-! part Sub1 -/
set_option maxRecDepth 100000
set_option Elab.async false
set_option linter.unusedVariables false
namespace Mine
open PySem PyProof.Rows PySem.Builtin.Re PySem.W

theorem strs_of {Z : Zt} : ∀ {xs : List Str} {ws : List Value}, VRs Z (xs.map V.str) ws → ∃ l : List (Str × Tok), l.map (·.1) = xs ∧ ws = strValues l
  | [], ws, r => ⟨[], rfl, r.of_nil⟩
  | x :: xs, ws, r => by
    obtain ⟨w, ws', rfl, r1, r2⟩ := VRs.of_cons r
    obtain ⟨t, rfl⟩ := of_str r1
    obtain ⟨l, rfl, rfl⟩ := strs_of r2
    exact ⟨(x, t) :: l, rfl, rfl⟩

theorem fold_len (sep : Str) : ∀ (xs : List Str) (n : Nat), xs.foldl (· + ·.length + sep.length) n = n + (xs.map fun x => x.length + sep.length).sum
  | [], n => by simp
  | x :: xs, n => by simp only [List.foldl_cons, fold_len sep xs, List.map_cons, List.sum_cons]; omega

theorem join_len_le (sep : Str) : ∀ xs : List Str, (Str.join sep xs).length ≤ (xs.map fun x => x.length + sep.length).sum
  | [] => Nat.zero_le _
  | [x] => by simp [Str.join]
  | x :: y :: r => by
    have := join_len_le sep (y :: r)
    simp only [Str.join, strLen_append, List.map_cons, List.sum_cons] at this ⊢
    omega

section
variable {G : Gl} {A : Around} {E : Value → Shared → Prop} {K Z : Zt} {L : Addr} {st : St} {s : Shared}

theorem join_use (S : Sim G K Z L st s) {a : Addr} {xs : List Str} {ws : List Value} {sep : Str} {t : Tok} (hl : s.heap.IsList a ws.toArray) (r : VRs Z (xs.map V.str) ws)
    (hz : (xs.map fun x => x.length + sep.length).sum ≤ 16777216) {Q : Value → Shared → Prop} (h : ∀ t' tk, Q (.str (Str.join sep xs) t') { s with toks := tk }) : wpAny G.M A (call (.builtin "str.join") [.str sep t, .ref a]) Q E s := by
  obtain ⟨l, hx, rfl⟩ := strs_of r
  have hfit : Builtin.Str.tooLong ((l.map (·.1)).toArray.foldl (· + ·.length + sep.length) 0) = false := by
    unfold Builtin.Str.tooLong
    rw [hx, List.foldl_toArray, fold_len, sizeLine_eq]
    simp; omega
  refine call_meets F.slot_str_join (typeIs_str _ _ _) F.entry_str_join (F.args_str_join_2 _ _) (meets_str_join_list sep t a l hfit) ⟨hl, ?_⟩
  have hj : Builtin.Str.glued sep (l.map (·.1)) = Str.join sep xs := by rw [StrLaws.glued_eq_join, hx]
  unfold joinMade
  split
  · rename_i p
    have : Str.join sep xs = p.1 := by rw [← hx]; rfl
    have h' := h p.2 s.toks
    rw [this] at h'
    exact h'
  · rw [hj]
    exact ⟨by have := join_len_le sep xs; rw [sizeLine_eq]; omega, h _ _⟩
end


section
variable {G : Gl} {A : Around} {L : Addr} {st : St} {Q : V → St → Prop}
theorem cb_join {a : Addr} {xs : List Str} {sep : Str} (ha : (a, xs.map V.str) ∈ st.ar) (hz : (xs.map fun x => x.length + sep.length).sum ≤ 16777216) (h : Q (.str (Str.join sep xs)) st) : CB G A L "str.join" [.str sep, .list a] st Q :=
  ⟨fun K Z ws s S r => by
    obtain ⟨w1, ws1, rfl, r1, r2⟩ := r.of_cons
    obtain ⟨w2, ws2, rfl, r3, r4⟩ := r2.of_cons
    rw [r4.of_nil, of_list r3]
    obtain ⟨t, rfl⟩ := of_str r1
    obtain ⟨_, _, _, ws, n, e, rs⟩ := S.ar _ ha
    exact join_use S ⟨_, e, rfl, n, rfl⟩ rs hz fun t' tk => Post.mk S.toks vr_str h⟩
theorem cb_join_fl {xs : List Str} {sep : Str} (hz : (xs.map fun x => x.length + sep.length).sum ≤ 16777216) (h : Q (.str (Str.join sep xs)) st) : CB G A L "str.join" [.str sep, .fl (xs.map V.str)] st Q :=
  ⟨fun K Z ws s S r => by
    obtain ⟨w1, ws1, rfl, r1, r2⟩ := r.of_cons
    obtain ⟨w2, ws2, rfl, r3, r4⟩ := r2.of_cons
    rw [r4.of_nil]
    obtain ⟨a, ws, rfl, hzs, rs⟩ := of_fl r3
    obtain ⟨t, rfl⟩ := of_str r1
    exact join_use S (zseq_list hzs S.zz) rs hz fun t' tk => Post.mk S.toks vr_str h⟩
theorem mf_join : MF "str" "join" "str.join" := ⟨F.plainAttrs_str, F.slot_str_join, F.type_str_join⟩
end
end Mine

/-! part Sub2 -/
set_option maxRecDepth 100000
set_option Elab.async false
set_option linter.unusedVariables false
namespace Mine
open PySem PyProof.Rows PySem.Builtin.Re PySem.W

abbrev sOf (l : List Nat) : Str := ⟨l.toArray⟩

/-- what a substitution makes of the rest of a text -/
inductive SubR (code x : Array Nat) (f : List Nat → List Nat) : List Nat → List Nat → List Nat → Prop
  | none {pre rem : List Nat} : (∃ m' n, Reach (Sre.forSearch code x 1 pre.length x.size false) m' n ∧ n < 2 ^ 65 ∧ m'.outcome = some .failed) → SubR code x f pre rem rem
  | some {pre mid g1 g g2 rem out : List Nat} :
      (∃ m' n, Reach (Sre.forSearch code x 1 pre.length x.size false) m' n ∧ n < 2 ^ 65 ∧ m'.outcome = some .matched ∧ m'.start = pre.length + mid.length ∧ m'.handed = pre.length + mid.length + (g1.length + g.length + g2.length) ∧
        m'.marks = #[some (pre.length + mid.length + g1.length), some (pre.length + mid.length + g1.length + g.length)] ∧ m'.lastmark = 1) →
      0 < g1.length + g.length + g2.length → SubR code x f (pre ++ mid ++ (g1 ++ g ++ g2)) rem out → SubR code x f pre (mid ++ (g1 ++ g ++ g2) ++ rem) (mid ++ f g ++ out)

theorem extract_mid {x : Array Nat} {pre mid post : List Nat} (h : x.toList = pre ++ mid ++ post) : x.extract pre.length (pre.length + mid.length) = mid.toArray := by
  apply Array.ext'
  rw [Array.toList_extract, h]
  simp

section
variable {G : Gl} {A : Around} {E : Value → Shared → Prop} {K Z : Zt} {L : Addr} {st : St} {s : Shared}

theorem reSlice_use {x : Array Nat} {b e : Nat} {Q : Value → Shared → Prop} (hx : x.size ≤ 16777216) (h : Q (.str ⟨x.extract b e⟩ s.toks) { s with toks := s.toks + 1 }) : wpAny G.M A (reSlice x 0 b e) Q E s := by
  unfold reSlice
  simp only [beq_self_eq_true, if_true]
  refine wpAny_mkStr h (hx := ?_)
  show (x.extract b e).size ≤ sizeLine
  rw [Array.size_extract, sizeLine_eq]; omega

theorem lam_call {f : Addr} {qual : Str} {params : Arguments} {body : Expr} {scope : Scope} {mn : Str} {v : V} {w : Value} (S : Sim G K Z L st s) (O : GlOk G) (hroom : A.depth < recursionLimit) (Lv : LamV Z f qual params body scope) (r : VR Z v w)
    (hbind : ∀ pm c' ctv v, bindArgs (kla_fn (Str.ofString "<lambda>") qual params body scope [] pm c' ctv) ⟨[v], []⟩ = pure [(mn, v)]) (hloc : scope.names.lookup mn = some .local)
    (hco : scope.isCoroutine = false) (hgen : scope.isGenerator = false) (hk : scope.kind = .function) (hcell : ∀ x ∈ scope.names, x.2 ≠ .cell) {Q : V → Prop}
    (h : ∀ L' c', Ev G (A.deeper (envOf qual scope L' f (.ref c'))) (envOf qual scope L' f (.ref c')) body ⟨[(mn, v)], st.ar⟩ fun u st' => st'.ar = st.ar ∧ Q u) :
    wpAny G.M A (call (.ref f) [w]) (Post G K Z L VR fun u st' => st' = st ∧ Q u) Nope s := by
  obtain ⟨c', pm, ctv, oc, vs, tk, k1, k2, k3, k4⟩ := Lv
  obtain ⟨m, ⟨oL, es, ep, hL, hns⟩, hm⟩ := S.ns
  refine wpAny_call (kla_callFunE (fd := kla_fn (Str.ofString "<lambda>") qual params body scope [] pm (.ref c') ctv) hroom (S.zz _ _ k1) rfl hco hgen rfl ⟨c', oc, vs, tk, rfl, S.zz _ _ k2, k3, k4⟩ ?_)
  rw [hbind]
  refine wpAny_pure (wpAny_newFunctionEnv hcell (by intro y hy; simp at hy; rw [hy]; exact hloc) (fun h₁ hns₁ hsb => ⟨(O.nolimit.keeps S.base).fresh _ hsb, ?_⟩) hk)
  refine kla_codeExpr ?_
  have hkeep : ∀ b o, s.heap.get? b = some o → h₁.get? b = some o := fun b o e => hsb.extBut b o (Nat.ne_of_lt (Heap.lt_size e)) (Heap.get?_push_of_some _ e)
  have S₁ : Sim G (Zset K L oL) Z s.heap.objs.size ⟨[(mn, v)], st.ar⟩ { s with heap := h₁, toks := s.toks + [(mn, w)].length } :=
    Sim.enter (loc := st.loc) S hL hkeep (Heap.get?_none_of_le (Nat.le_refl _)) hns₁ fun y => by
      simp only [List.reverse_cons, List.reverse_nil, List.nil_append, List.lookup_cons, List.lookup_nil]
      cases y == mn
      · trivial
      · exact r
  refine wpAny_mono ((h s.heap.objs.size c').run _ Z _ S₁) (fun u s' ⟨Z', uv, st', z, S', ru, ha, q⟩ => ?_) fun _ _ x => x.elim
  obtain ⟨loc', ar'⟩ := st'
  cases ha
  exact ⟨Z', uv, st, z, Sim.leave (loc := st.loc) S hL z S', ru, rfl, q⟩
end

theorem entry_subloop : entryFor table "re.Pattern.sub.loop" = some Builtin.«re.Pattern.sub.loop» := entryFor_of_tree (by kernel_rfl)
theorem plain_subloop : plainId "re.Pattern.sub.loop" = true := by decide +kernel

def RetR (P : Value → Shared → Prop) : Result → Shared → Prop
  | .ok (.ret v), s => P v s
  | .ok _, _ => False
  | .error _, _ => False

def subArgs (p : Addr) (x : Str) (t : Tok) (f pl : Addr) (n k : Nat) : Args :=
  ⟨[.ref p, .str x t, .ref f, rawInt 1, rawInt 0, rawInt n, rawInt k, rawInt k, .bool false, .ref pl, .bool false], []⟩

theorem mem_setA_self {a : Addr} {xs ys : List V} : ∀ {ar : List (Addr × List V)}, (a, xs) ∈ ar → (a, ys) ∈ setA a ys ar
  | (b, zs) :: r, h => by
    unfold setA
    split
    · exact .head _
    · rename_i e
      rcases List.mem_cons.mp h with h | h
      · cases h; exact absurd rfl e
      · exact .tail _ (mem_setA_self h)
theorem setA_setA {a : Addr} {xs ys : List V} : ∀ {ar : List (Addr × List V)}, setA a ys (setA a xs ar) = setA a ys ar
  | [] => rfl
  | (b, zs) :: r => by
    by_cases e : b = a
    · simp [setA, e]
    · simp [setA, e, setA_setA (ar := r)]

theorem str_app (u v : Str) : (u ++ v).cps.toList = u.cps.toList ++ v.cps.toList := by
  show (u.cps ++ v.cps).toList = _; simp
theorem join_empty_append : ∀ (xs : List Str) (y : Str), (Str.join Str.empty (xs ++ [y])).cps.toList = (Str.join Str.empty xs).cps.toList ++ y.cps.toList
  | [], y => by simp [Str.join, Str.empty]
  | [x], y => by
    show ((x ++ Str.empty ++ y : Str)).cps.toList = x.cps.toList ++ _
    rw [str_app, str_app]; simp [Str.empty]
  | x :: x' :: r, y => by
    have ih := join_empty_append (x' :: r) y
    show ((x ++ Str.empty ++ Str.join Str.empty ((x' :: r) ++ [y]) : Str)).cps.toList = ((x ++ Str.empty ++ Str.join Str.empty (x' :: r) : Str)).cps.toList ++ _
    rw [str_app, str_app, str_app, str_app, ih, List.append_assoc, List.append_assoc, List.append_assoc]
theorem sum_join_empty : ∀ (xs : List Str), (xs.map fun x => x.length + Str.empty.length).sum = (Str.join Str.empty xs).cps.toList.length
  | [] => by simp [Str.join, Str.empty]
  | [x] => by simp [Str.join, Str.empty, Str.length]
  | x :: y :: r => by
    have ih := sum_join_empty (y :: r)
    show x.length + Str.empty.length + ((y :: r).map fun x => x.length + Str.empty.length).sum = ((x ++ Str.empty ++ Str.join Str.empty (y :: r) : Str)).cps.toList.length
    rw [ih, str_app, str_app, List.length_append, List.length_append]
    simp [Str.length, Str.empty]

theorem setA_same {a : Addr} {xs : List V} : ∀ {ar : List (Addr × List V)}, (ar.map (·.1)).Nodup → (a, xs) ∈ ar → setA a xs ar = ar
  | (b, zs) :: r, hn, h => by
    simp only [List.map_cons, List.nodup_cons] at hn
    unfold setA
    split
    · rename_i e; subst e
      rcases List.mem_cons.mp h with h | h
      · cases h; rfl
      · exact absurd (List.mem_map_of_mem (f := (·.1)) h) hn.1
    · rename_i e
      rcases List.mem_cons.mp h with h | h
      · cases h; exact absurd rfl e
      · rw [setA_same hn.2 h]

def subFin (x : Array Nat) (pl : Addr) : Sem Fin := do
  let joiner ← reSlice x 0 0 0
  let its ← seqItems? (.ref pl)
  if (its.getD #[]).isEmpty then (pure joiner >>= ret) else (call (.builtin "str.join") [joiner, .ref pl] >>= ret)

theorem subFin_use {G : Gl} {A : Around} {K Z : Zt} {L : Addr} {st : St} {s : Shared} {x : Array Nat} {pl : Addr} {pcs : List Str} (S : Sim G K Z L st s) (ha : (pl, pcs.map V.str) ∈ st.ar) (hx : x.size ≤ 16777216) (hl : (Str.join Str.empty pcs).cps.toList.length ≤ 16777216)
    {P : Fin → Shared → Prop} {E : Value → Shared → Prop} (h : ∀ tk t', P (.done (.ret (.str (Str.join Str.empty pcs) t'))) { s with toks := tk }) : wpAny G.M A (subFin x pl) P E s := by
  obtain ⟨_, _, _, ws, n, e, rs⟩ := S.ar _ ha
  unfold subFin
  refine wpAny_bind (reSlice_use hx ?_)
  have e0 : x.extract 0 0 = #[] := by simp
  rw [e0]
  refine wpAny_bind (wpAny_seqItems (s := { s with toks := s.toks + 1 }) e rfl ?_)
  have S₁ := S.toks (tk := s.toks + 1)
  show wpAny _ _ (if ws.toArray.isEmpty then _ else _) _ _ _
  cases pcs with
  | nil =>
    have : ws = [] := rs.of_nil
    subst this
    exact wpAny_bind (wpAny_pure (wpAny_pure (h _ _)))
  | cons q r =>
    have hne : ws.toArray.isEmpty = false := by
      have := rs.length
      cases ws with
      | nil => simp at this
      | cons => rfl
    rw [hne]
    simp only [Bool.false_eq_true, if_false]
    refine wpAny_bind (join_use S₁ (sep := ⟨#[]⟩) ⟨_, e, rfl, n, rfl⟩ rs (by
      have := sum_join_empty (q :: r)
      rw [show (⟨#[]⟩ : Str) = Str.empty from rfl, this]; exact hl) fun t' tk => wpAny_pure (h _ _))

section
variable {G : Gl} {A : Around} {L : Addr} {x : Str} {t : Tok} {p fa pl : Addr} {code : Array Nat} {g : List Nat → List Nat} {qual : Str} {params : Arguments} {body : Expr} {scope : Scope} {mn : Str}

theorem subloop (O : GlOk G) (P : Pat G p code 1) (hx : x.length ≤ 4000000) (hroom : A.in1.depth < recursionLimit)
    (hbind : ∀ pm c' ctv v, bindArgs (kla_fn (Str.ofString "<lambda>") qual params body scope [] pm c' ctv) ⟨[v], []⟩ = pure [(mn, v)]) (hloc : scope.names.lookup mn = some .local)
    (hco : scope.isCoroutine = false) (hgen : scope.isGenerator = false) (hk : scope.kind = .function) (hcell : ∀ x ∈ scope.names, x.2 ≠ .cell)
    (hb : ∀ L' c' st' a b (c d : Nat), c ≤ d → d ≤ x.cps.size → Ev G (A.in1.deeper (envOf qual scope L' fa (.ref c'))) (envOf qual scope L' fa (.ref c')) body ⟨[(mn, .mat x [a, b, (c : Nat), (d : Nat)])], st'⟩ fun u st'' => st''.ar = st' ∧ u = .str (sOf (g (x.cps.extract c d).toList))) :
    ∀ {pre rem out : List Nat}, SubR code x.cps g pre rem out → x.cps.toList = pre ++ rem → ∀ (K Z : Zt) (s : Shared) (loc : List (Str × V)) (ar : List (Addr × List V)) (n : Nat) (pcs : List Str),
      Sim G K Z L ⟨loc, ar⟩ s → (pl, pcs.map V.str) ∈ ar → LamV Z fa qual params body scope → pcs.length + 2 * rem.length ≤ 16000000 → ((Str.join Str.empty pcs).cps.toList ++ out).length ≤ 16777216 →
      codeAny G.M A (.builtin "re.Pattern.sub.loop" (subArgs p x t fa pl n pre.length)) (RetR (Post G K Z L VR fun v st' => v = .str (sOf ((Str.join Str.empty pcs).cps.toList ++ out)) ∧ st'.loc = loc ∧ ∃ ys, st'.ar = setA pl ys ar)) s := by
  intro pre rem out h
  induction h with
  | none hs =>
    rename_i pre rem
    intro ht K Z s loc ar n pcs S ha Lv hn hlen
    obtain ⟨m', k, hr, hk', ho⟩ := hs
    refine codeAny_builtin entry_subloop ?_
    rw [Around.under_plainId plain_subloop]
    unfold Builtin.«re.Pattern.sub.loop» subArgs
    refine wpAny_bind (reWholeTarget_use S P ?_)
    show wpAny _ _ (reRunToEnd (Sre.forSearch code x.cps 1 (Int.toNat ((pre.length : Nat) : Int)) x.cps.size false) >>= _) _ _ s
    rw [Int.toNat_natCast]
    refine wpAny_bind (reRun_failed hr ho hk' ?_)
    have hxs : x.cps.size ≤ 16777216 := by have : x.cps.size ≤ 4000000 := hx; omega
    have hsz : x.cps.size = pre.length + rem.length := by rw [← Array.length_toList, ht]; simp
    have hlen' : ((Str.join Str.empty pcs).cps.toList ++ rem).length ≤ 16777216 := hlen
    change wpAny _ _ (if pre.length < x.cps.size then (reSlice x.cps 0 pre.length x.cps.size >>= fun a => updateSeq pl (fun q => q.push a) >>= fun _ => subFin x.cps pl) else subFin x.cps pl) _ _ s
    by_cases hlt : pre.length < x.cps.size
    · rw [if_pos hlt]
      refine wpAny_bind (reSlice_use hxs ?_)
      refine wpAny_bind ?_
      have S₁ := S.toks (tk := s.toks + 1)
      refine S₁.push1 ha (vr_str (x := ⟨x.cps.extract pre.length x.cps.size⟩)) (by rw [List.length_map]; omega) fun s' S' => ?_
      have e1 : pcs.map V.str ++ [V.str ⟨x.cps.extract pre.length x.cps.size⟩] = (pcs ++ [(⟨x.cps.extract pre.length x.cps.size⟩ : Str)]).map V.str := by simp
      have e2 : x.cps.extract pre.length x.cps.size = rem.toArray := by
        have := extract_mid (x := x.cps) (pre := pre) (mid := rem) (post := []) (by rw [ht]; simp)
        rw [hsz]; exact this
      rw [e1] at S'
      have e3 : (Str.join Str.empty (pcs ++ [(⟨x.cps.extract pre.length x.cps.size⟩ : Str)])).cps.toList = (Str.join Str.empty pcs).cps.toList ++ rem := by rw [join_empty_append, e2]
      refine subFin_use S' (mem_setA_self ha) hxs (by rw [e3]; exact hlen') fun tk t' => ?_
      refine ⟨Z, _, _, .refl, S'.toks, ?_, rfl, rfl, _, rfl⟩
      rw [show (Str.join Str.empty (pcs ++ [(⟨x.cps.extract pre.length x.cps.size⟩ : Str)])) = sOf ((Str.join Str.empty pcs).cps.toList ++ rem) from by rw [← e3]]
      exact vr_str
    · rw [if_neg hlt]
      have hrem : rem = [] := List.eq_nil_of_length_eq_zero (by omega)
      subst hrem
      refine subFin_use S ha hxs (by simpa using hlen') fun tk t' => ?_
      refine ⟨Z, _, _, .refl, S.toks, ?_, rfl, rfl, pcs.map V.str, (setA_same S.nd ha).symm⟩
      rw [show sOf ((Str.join Str.empty pcs).cps.toList ++ []) = Str.join Str.empty pcs from by simp]
      exact vr_str
  | some hs hpos _ ih =>
    rename_i pre mid g1 gg g2 rem out _
    intro ht K Z s loc ar n pcs S ha Lv hn hlen
    obtain ⟨m', k, hr, hk', ho, hst, hha, hmk, hlm⟩ := hs
    refine codeAny_builtin entry_subloop ?_
    rw [Around.under_plainId plain_subloop]
    unfold Builtin.«re.Pattern.sub.loop» subArgs
    refine wpAny_bind (reWholeTarget_use S P ?_)
    show wpAny _ _ (reRunToEnd (Sre.forSearch code x.cps 1 (Int.toNat ((pre.length : Nat) : Int)) x.cps.size false) >>= _) _ _ s
    rw [Int.toNat_natCast]
    refine wpAny_bind (reRun_matched hr ho hk' ?_)
    have hxs : x.cps.size ≤ 16777216 := by have : x.cps.size ≤ 4000000 := hx; omega
    have hsz : x.cps.size = pre.length + (mid.length + (g1.length + gg.length + g2.length) + rem.length) := by rw [← Array.length_toList, ht]; simp only [List.length_append]
    have ht' : x.cps.toList = (pre ++ mid ++ (g1 ++ gg ++ g2)) ++ rem := by rw [ht]; simp
    have hgl : (x.cps.extract (pre.length + mid.length + g1.length) (pre.length + mid.length + g1.length + gg.length)).toList = gg := by
      have := extract_mid (x := x.cps) (pre := pre ++ mid ++ g1) (mid := gg) (post := g2 ++ rem) (by rw [ht]; simp)
      rw [show (pre ++ mid ++ g1).length = pre.length + mid.length + g1.length by simp; omega] at this
      rw [this]
    -- what is left when the piece ahead is pushed
    have turn : ∀ (pcs' : List Str) (s' : Shared), Sim G K Z L ⟨loc, setA pl (pcs'.map V.str) ar⟩ s' → (Str.join Str.empty pcs').cps.toList = (Str.join Str.empty pcs).cps.toList ++ mid → pcs'.length ≤ pcs.length + 1 →
        wpAny G.M A.in1 (reNewMatch (.ref p) (.str x t) 1 0 x.cps.size m' >>= fun found => holding [found] (call (.ref fa) [found]) >>= fun item =>
          if item != .none then (updateSeq pl (fun q => q.push item) >>= fun _ => again (.builtin "re.Pattern.sub.loop" ⟨[.ref p, .str x t, .ref fa, rawInt 1, rawInt 0, rawInt (n + 1), rawInt m'.handed, rawInt m'.handed, .bool (m'.handed == m'.start), .ref pl, .bool false], []⟩))
          else again (.builtin "re.Pattern.sub.loop" ⟨[.ref p, .str x t, .ref fa, rawInt 1, rawInt 0, rawInt (n + 1), rawInt m'.handed, rawInt m'.handed, .bool (m'.handed == m'.start), .ref pl, .bool false], []⟩))
          (fun fin s' => match fin with
            | .done f => RetR (Post G K Z L VR fun v st' => v = .str (sOf ((Str.join Str.empty pcs).cps.toList ++ (mid ++ g gg ++ out))) ∧ st'.loc = loc ∧ ∃ ys, st'.ar = setA pl ys ar) (.ok f) s'
            | .again c' => c'.quiet = true ∧ codeAny G.M A c' (RetR (Post G K Z L VR fun v st' => v = .str (sOf ((Str.join Str.empty pcs).cps.toList ++ (mid ++ g gg ++ out))) ∧ st'.loc = loc ∧ ∃ ys, st'.ar = setA pl ys ar)) s')
          (fun e s' => RetR (Post G K Z L VR fun v st' => v = .str (sOf ((Str.join Str.empty pcs).cps.toList ++ (mid ++ g gg ++ out))) ∧ st'.loc = loc ∧ ∃ ys, st'.ar = setA pl ys ar) (.error e) s') s' := by
      intro pcs' s' S' hj hpl
      rw [reNewMatch1 hmk hlm (by omega)]
      refine wpAny_bind (matTail_use S' (by simp) fun Z₁ s₁ a z₁ S₁ r₁ => ?_)
      refine wpAny_bind (wpAny_holding ?_)
      refine wpAny_mono (lam_call (st := ⟨loc, setA pl (pcs'.map V.str) ar⟩) S₁ O hroom (Lv.mono z₁) r₁ hbind hloc hco hgen hk hcell (Q := fun u => u = .str (sOf (g gg))) fun L' c' => ?_) (fun w s₂ ⟨Z₂, u, st₂, z₂, S₂, r₂, e₂, hu⟩ => ?_) fun _ _ x => x.elim
      · have := hb L' c' (setA pl (pcs'.map V.str) ar) m'.start m'.handed (pre.length + mid.length + g1.length) (pre.length + mid.length + g1.length + gg.length) (by omega) (by omega)
        rw [hgl] at this
        exact this
      · subst hu; subst e₂
        obtain ⟨tt, rfl⟩ := of_str r₂
        rw [if_pos (show ((Value.str (sOf (g gg)) tt != Value.none) = true) from rfl)]
        refine wpAny_bind (S₂.push1 (mem_setA_self ha) (vr_str (x := sOf (g gg)) (t := tt)) (by
          simp only [List.length_map]
          have : 2 * (mid ++ (g1 ++ gg ++ g2) ++ rem).length = 2 * mid.length + 2 * (g1.length + gg.length + g2.length) + 2 * rem.length := by simp; omega
          omega) fun s₃ S₃ => ?_)
        have e3 : pcs'.map V.str ++ [V.str (sOf (g gg))] = (pcs' ++ [sOf (g gg)]).map V.str := by simp
        have S₄ : Sim G K Z₂ L ⟨loc, setA pl ((pcs' ++ [sOf (g gg)]).map V.str) ar⟩ s₃ := by
          have := S₃
          rw [e3] at this
          change Sim G K Z₂ L ⟨loc, setA pl _ (setA pl _ ar)⟩ s₃ at this
          rw [setA_setA] at this
          exact this
        have hne : (m'.handed == m'.start) = false := beq_eq_false_iff_ne.mpr (by rw [hha, hst]; omega)
        rw [hne]
        have hjj : (Str.join Str.empty (pcs' ++ [sOf (g gg)])).cps.toList = (Str.join Str.empty pcs).cps.toList ++ mid ++ g gg := by rw [join_empty_append, hj]
        have hout : (Str.join Str.empty (pcs' ++ [sOf (g gg)])).cps.toList ++ out = (Str.join Str.empty pcs).cps.toList ++ (mid ++ g gg ++ out) := by rw [hjj]; simp
        have := ih ht' K Z₂ s₃ loc (setA pl ((pcs' ++ [sOf (g gg)]).map V.str) ar) (n + 1) (pcs' ++ [sOf (g gg)]) S₄ (mem_setA_self ha) ((Lv.mono z₁).mono z₂) (by
            have : 2 * (mid ++ (g1 ++ gg ++ g2) ++ rem).length = 2 * mid.length + 2 * (g1.length + gg.length + g2.length) + 2 * rem.length := by simp; omega
            simp only [List.length_append, List.length_cons, List.length_nil]
            omega) (by rw [hout]; exact hlen)
        refine wpAny_pure ⟨plainId_quiet plain_subloop _, ?_⟩
        have hargs : (⟨[.ref p, .str x t, .ref fa, rawInt 1, rawInt 0, rawInt (n + 1), rawInt m'.handed, rawInt m'.handed, .bool false, .ref pl, .bool false], []⟩ : Args) = subArgs p x t fa pl (n + 1) (pre ++ mid ++ (g1 ++ gg ++ g2)).length := by
          have : (pre ++ mid ++ (g1 ++ gg ++ g2)).length = m'.handed := by rw [hha]; simp only [List.length_append]
          unfold subArgs
          rw [this]; rfl
        rw [hargs]
        refine codeAny_mono this fun r s' hr => ?_
        cases r with
        | error e => exact hr
        | ok f =>
          cases f with
          | ret v =>
            obtain ⟨Z₅, u, st₅, z₅, S₅, r₅, h5, h6, ys, h7⟩ := hr
            exact ⟨Z₅, u, st₅, (z₁.trans z₂).trans z₅, S₅, r₅, by rw [h5, hout], h6, ys, by rw [h7, setA_setA]⟩
          | next => exact hr
          | brk => exact hr
          | cont => exact hr
    change wpAny _ _ (if pre.length < m'.start then (reSlice x.cps 0 pre.length m'.start >>= fun a => updateSeq pl (fun q => q.push a) >>= fun _ => _) else _) _ _ s
    by_cases hlt : pre.length < m'.start
    · rw [if_pos hlt]
      refine wpAny_bind (reSlice_use hxs ?_)
      refine wpAny_bind ?_
      have S₁ := S.toks (tk := s.toks + 1)
      refine S₁.push1 ha (vr_str (x := ⟨x.cps.extract pre.length m'.start⟩)) (by rw [List.length_map]; omega) fun s' S' => ?_
      have e1 : pcs.map V.str ++ [V.str ⟨x.cps.extract pre.length m'.start⟩] = (pcs ++ [(⟨x.cps.extract pre.length m'.start⟩ : Str)]).map V.str := by simp
      have e2 : x.cps.extract pre.length m'.start = mid.toArray := by
        rw [hst]; exact extract_mid (x := x.cps) (pre := pre) (mid := mid) (post := (g1 ++ gg ++ g2) ++ rem) (by rw [ht]; simp)
      rw [e1] at S'
      exact turn (pcs ++ [(⟨x.cps.extract pre.length m'.start⟩ : Str)]) s' S' (by rw [join_empty_append, e2]) (by simp)
    · rw [if_neg hlt]
      have hmid : mid = [] := List.eq_nil_of_length_eq_zero (by omega)
      subst hmid
      exact turn pcs s (by rw [setA_same S.nd ha]; exact S) (by simp) (by omega)
end
end Mine

/-! part Sub3 -/
set_option maxRecDepth 100000
set_option Elab.async false
set_option linter.unusedVariables false
namespace Mine
open PySem PyProof.Rows PySem.Builtin.Re PySem.W

theorem fn_call_lookup : typeLookup (.type "function") "__call__" = pure (some (.builtin "function.__call__")) := by rw [typeLookup_type, builtinLookup_eq_fast]; kernel_rfl
theorem str_not_bytearray : isSubtype (.type "str") (.type "bytearray") = pure false := by rw [isSubtype_type]; kernel_rfl

theorem call_entry_again {prog : Program} {w : World} {A : Around} {s : Shared} {T : String} {name : Str} {id : String} {b : Builtin} {self : Value} {rest : List Value} {P : Value → Shared → Prop} (h : Slot T name id) (hT : s.TypeIs self T)
    (hb : entryFor table id = some b) (ha : argsOk id ⟨self :: rest, []⟩)
    (hc : wpAny (model prog w) A.in1 (b ⟨self :: rest, []⟩) (fun fin s' => ∃ c', fin = .again c' ∧ c'.quiet = true ∧ codeAny (model prog w) A c' (RetR P) s') Nope s) :
    wpAny (model prog w) A (call (.builtin id) (self :: rest)) P Nope s := by
  refine wpAny_call (codeAny_call_builtin h.plain hb (h.check _ _ _ _ _ _ _ _ hT ha (wpAny_mono hc (fun fin s' ⟨c', e, hq, hcc⟩ => ?_) fun _ _ h' => h')))
  subst e
  refine ⟨hq, codeAny_mono hcc fun r s'' hr => ?_⟩
  cases r with
  | error e => exact hr
  | ok f => cases f <;> exact hr

section
variable {G : Gl} {A : Around} {K Z : Zt} {L : Addr} {st : St} {s : Shared} {x : Str} {t : Tok} {p fa : Addr} {code : Array Nat} {g : List Nat → List Nat} {qual : Str} {params : Arguments} {body : Expr} {scope : Scope} {mn : Str}

theorem sub_use (S : Sim G K Z L st s) (O : GlOk G) (P : Pat G p code 1) (hx : x.length ≤ 4000000) (hroom : A.in1.depth < recursionLimit) (Lv : LamV Z fa qual params body scope)
    (hbind : ∀ pm c' ctv v, bindArgs (kla_fn (Str.ofString "<lambda>") qual params body scope [] pm c' ctv) ⟨[v], []⟩ = pure [(mn, v)]) (hloc : scope.names.lookup mn = some .local)
    (hco : scope.isCoroutine = false) (hgen : scope.isGenerator = false) (hk : scope.kind = .function) (hcell : ∀ x ∈ scope.names, x.2 ≠ .cell)
    (hb : ∀ L' c' st' a b (c d : Nat), c ≤ d → d ≤ x.cps.size → Ev G (A.in1.deeper (envOf qual scope L' fa (.ref c'))) (envOf qual scope L' fa (.ref c')) body ⟨[(mn, .mat x [a, b, (c : Nat), (d : Nat)])], st'⟩ fun u st'' => st''.ar = st' ∧ u = .str (sOf (g (x.cps.extract c d).toList)))
    {out : List Nat} (hs : SubR code x.cps g [] x.cps.toList out) (hout : out.length ≤ 16777216) :
    wpAny G.M A (call (.builtin "re.Pattern.sub") [.ref p, .ref fa, .str x t]) (Post G K Z L VR fun v st' => v = .str (sOf out) ∧ st' = st) Nope s := by
  obtain ⟨c', pm, ctv, oc, vs, tk, k1, k2, k3, k4⟩ := id Lv
  obtain ⟨hT, _⟩ := (ty_pat (L := L) (st := st) P).run K Z _ s S vr_raw
  refine call_entry_again slot_pat_sub hT entry_pat_sub (args_pat_sub _ _ _) ?_
  unfold Builtin.«re.Pattern.sub» reSubstitute
  show wpAny _ _ (reNamed _ _ ["repl", "string", "count"] 2 [.ref fa, .str x t] [] >>= _) _ _ s
  rw [reNamed2]
  refine wpAny_bind (wpAny_pure ?_)
  refine wpAny_bind (wpAny_pure ?_)
  refine wpAny_bind (wpAny_specialOf (T := "function") ⟨_, S.zz _ _ k1, rfl⟩ fn_call_lookup ?_)
  show wpAny _ _ (holding [.ref fa] (reWholeTarget (.ref p) (.str x t)) >>= _) _ _ s
  refine wpAny_bind (wpAny_holding (reWholeTarget_use S P ?_))
  show wpAny _ _ (reNotHeld "re.Pattern.sub" (.str x t) >>= _) _ _ s
  refine wpAny_bind ?_
  unfold reNotHeld
  refine wpAny_bind (wpAny_isInstance (T := "str") (b := false) (typeIs_str _ _ _) str_not_bytearray ?_)
  refine wpAny_pure ?_
  refine wpAny_bind (wpAny_newObj_type (T := "list") ?_ (by size_fits))
  have S₁ := S.newList (vs := []) (ws := []) .nil
  refine wpAny_pure ⟨_, rfl, plainId_quiet plain_subloop _, ?_⟩
  have := subloop (A := A) (L := L) (t := t) (pl := s.heap.objs.size) O P hx hroom hbind hloc hco hgen hk hcell hb hs (by simp) K Z _ st.loc ((s.heap.objs.size, []) :: st.ar) 0 [] S₁ (.head _) Lv (by
    have : x.cps.toList.length ≤ 4000000 := by rw [Array.length_toList]; exact hx
    simp only [List.length_nil]; omega) (by simpa [Str.join, Str.empty] using hout)
  refine codeAny_mono this fun r s' hr => ?_
  cases r with
  | error e => exact hr
  | ok f =>
    cases f with
    | ret v =>
      obtain ⟨Z', u, st', z, S', ru, hu, h6, ys, h7⟩ := hr
      obtain ⟨loc', ar'⟩ := st'
      cases h6
      simp only [setA, if_true] at h7
      subst h7
      obtain ⟨Z'', z', S''⟩ := Ent.less (st := ⟨st.loc, (s.heap.objs.size, ys) :: st.ar⟩) (st₀ := st) (fun y v e => e) (fun q hq => .tail _ hq) S.nd K Z' s' S'
      refine ⟨Z'', u, st, z.trans z', S'', VR.mono z' _ _ ru, ?_, rfl⟩
      rw [hu]; simp [Str.join, Str.empty]
    | next => exact hr
    | brk => exact hr
    | cont => exact hr
end

section
variable {G : Gl} {A : Around} {env : Env} {st : St} {pos apos : Pos} {Q : V → St → Prop} {params : Arguments} {body : Expr} {scope : Scope} {lpos : Pos} {mn : Str} {e : Expr} {o : Expr} {code : Array Nat} {g : List Nat → List Nat}

theorem ev_sub (O : GlOk G) (hroom : A.in1.depth < recursionLimit) (hbase : attributeBase o "sub" env (eval o env) = eval o env) (hline : (apos.endLine == pos.line) = true)
    (hs : starEach [.Lambda params body scope lpos, e] env = [(false, eval (.Lambda params body scope lpos) env), (false, eval e env)]) (La : LamSite G env params body scope lpos mn)
    (h : Ev G A env o st fun v st₁ => ∃ p, v = .raw (.ref p) ∧ Pat G p code 1 ∧ Ev G A env e st₁ fun u st₂ => ∃ x : Str, u = .str x ∧ x.length ≤ 4000000 ∧
      (∀ L' f c' st' a b (c d : Nat), c ≤ d → d ≤ x.cps.size → Ev G (A.in1.deeper (envOf (env.qual ++ Str.ofString "<lambda>") scope L' f (.ref c'))) (envOf (env.qual ++ Str.ofString "<lambda>") scope L' f (.ref c')) body ⟨[(mn, .mat x [a, b, (c : Nat), (d : Nat)])], st'⟩
        fun u st'' => st''.ar = st' ∧ u = .str (sOf (g (x.cps.extract c d).toList))) ∧
      ∃ out, SubR code x.cps g [] x.cps.toList out ∧ out.length ≤ 16777216 ∧ Q (.str (sOf out)) st₂) :
    Ev G A env (.Call (.Attribute o "sub" apos) [.Lambda params body scope lpos, e] [] pos) st Q := ⟨fun K Z s S => by
  refine wpAny_Call_method_lateS hbase (by rw [hs]; rfl) hline (h.run.use S fun Z₁ ov st₁ w s₁ z₁ S₁ r₁ ⟨p, hp, P, h₁⟩ => ?_)
  subst hp
  obtain ⟨hT, hd⟩ := (ty_pat (L := env.locals) (st := st₁) P).run K Z₁ w s₁ S₁ r₁
  rw [of_raw r₁] at hT hd ⊢
  refine ⟨"re.Pattern", "re.Pattern.sub", pa_pat, slot_pat_sub, type_pat_sub, hT, hd, PySem.Calls.callWith_builtin (by rw [hs]; rfl) ?_⟩
  rw [hs]
  refine PySem.Calls.evalArgs_plain (PySem.Calls.spliced_cons ?_)
  refine lam_eval S₁ O La fun f Z₂ s₂ z₂ S₂ Lv => ?_
  refine PySem.Calls.spliced_cons (h₁.run.use S₂ fun Z₃ u st₃ uw s₃ z₃ S₃ r₃ ⟨x, hu, hx, hb, out, hsr, hlen, q⟩ => ?_)
  subst hu
  obtain ⟨t, rfl⟩ := of_str r₃
  refine PySem.Calls.spliced_nil ?_
  have := sub_use (t := t) S₃ O P hx hroom (Lv.mono z₃) (La.bind _) La.loc La.co La.gen La.kind La.cell (fun L' c' st' a b c d => hb L' f c' st' a b c d) hsr hlen
  refine wpAny_mono this (fun v s' ⟨Z', uu, st', z', S', ru, h5, h6⟩ => ?_) fun _ _ x => x
  subst h5; subst h6
  exact ⟨Z', _, _, ((z₁.trans z₂).trans z₃).trans z', S', ru, q⟩⟩
end
end Mine

/-! part Re2 -/
set_option maxRecDepth 100000
set_option Elab.async false
set_option linter.unusedVariables false
namespace Mine
open PySem PyProof.Rows PySem.Builtin.Re PySem.W

theorem raw_map (sp : List Int) : ((sp.map rawInt).toArray.map reRawOf) = sp.toArray := by
  apply Array.ext'
  simp only [Array.toList_map, List.map_map]
  induction sp with
  | nil => rfl
  | cons a r ih => simp only [List.map_cons]; rw [ih]; rfl

section
variable {G : Gl} {A : Around} {E : Value → Shared → Prop} {K Z : Zt} {L : Addr} {st : St} {s : Shared} {Q : V → St → Prop}

theorem reFound_use (S : Sim G K Z L st s) {x : Str} {sp : List Int} {w : Value} (r : VR Z (.mat x sp) w) {P : ReFound → Shared → Prop}
    (h : ∀ t pt ps lm li b, P { fields := #[.str x t, pt, ps, lm, li, b], spans := sp.toArray } s) : wpAny G.M A (reFound w) P E s := by
  obtain ⟨a, b, t, pt, ps, lm, li, n, rfl, h1, h2⟩ := of_mat r
  unfold reFound
  refine wpAny_bind (wpAny_fieldsOf (S.zz _ _ h1) rfl ?_)
  refine wpAny_bind (reRawItems_ref (S.zz _ _ h2) rfl (wpAny_pure ?_))
  rw [raw_map]
  exact h _ _ _ _ _ _

theorem mf_group : MF "re.Match" "group" "re.Match.group" := ⟨pa_mat, slot_mat_group, type_mat_group⟩
theorem cb_group {x : Str} {a b : Int} {c d : Nat} (hx : x.length ≤ 16777216) (h : Q (.str ⟨x.cps.extract c d⟩) st) : CB G A L "re.Match.group" [.mat x [a, b, (c : Int), (d : Int)], .int 1] st Q := ⟨fun K Z ws s S r => by
  obtain ⟨w1, ws1, rfl, r1, r2⟩ := r.of_cons
  obtain ⟨w2, ws2, rfl, r3, r4⟩ := r2.of_cons
  rw [r4.of_nil]
  obtain ⟨t, rfl⟩ := of_int r3
  obtain ⟨hT, _⟩ := (ty_mat (L := L) (st := st)).run K Z _ s S r1
  refine wpAny_call_entry slot_mat_group hT entry_mat_group ?_ (args_mat_group _ _)
  unfold Builtin.«re.Match.group»
  refine wpAny_bind (wpAny_pure ?_)
  refine wpAny_bind (reFound_use S r1 fun t' pt ps lm li b' => ?_)
  show wpAny _ _ (reGroupNumber _ (.int 1 t) >>= _) _ _ s
  refine wpAny_bind ?_
  unfold reGroupNumber
  refine wpAny_bind (wpAny_pure ?_)
  refine wpAny_bind (m := asIndex (.int 1 t)) (wpAny_pure (a := (1 : Int)) ?_)
  refine wpAny_pure ?_
  refine wpAny_bind ?_
  unfold reGroupText
  show wpAny _ _ (if (decide ((c : Int) < 0) || decide ((d : Int) < 0)) = true then _ else _) _ _ s
  rw [if_neg (by simp)]
  refine wpAny_bind (reTextOf_str ?_)
  show wpAny _ _ (reSlice x.cps 0 (Int.toNat c) (Int.toNat d)) _ _ s
  rw [Int.toNat_natCast, Int.toNat_natCast]
  refine reSlice_use hx (wpAny_pure ⟨_, rfl, Post.mk S.toks vr_str h⟩)⟩
end

/-! truth and texts -/
section
variable {G : Gl} {A : Around} {L : Addr} {st : St}
theorem tru_bool {b : Bool} {Q : Bool → St → Prop} (h : Q b st) : Tru G A L (.bool b) st Q := ⟨fun K Z w s S r => by rw [of_bool r]; exact wpAny_truthy_bool (Post.mk (R := BR) S rfl h)⟩
theorem tru_none {Q : Bool → St → Prop} (h : Q false st) : Tru G A L .none st Q := ⟨fun K Z w s S r => by rw [of_none r]; exact truthy_none (Post.mk (R := BR) S rfl h)⟩
theorem tru_str {x : Str} {Q : Bool → St → Prop} (hx : x.length ≤ 16777216) (h : Q (x.length != 0) st) : Tru G A L (.str x) st Q := ⟨fun K Z w s S r => by
  obtain ⟨t, rfl⟩ := of_str r
  refine P.truthy_str (by omega) ?_
  have e : ((x.length : Int) != 0) = (x.length != 0) := by
    by_cases q : x.length = 0
    · simp [q]
    · have h1 : (x.length != 0) = true := by simpa using q
      have h2 : ((x.length : Int) != 0) = true := by simp; omega
      rw [h1, h2]
  rw [e]
  exact Post.mk (R := BR) S.toks rfl h⟩
theorem tru_list {a : Addr} {xs : List V} {Q : Bool → St → Prop} (ha : (a, xs) ∈ st.ar) (hx : xs.length ≤ 16777216) (h : Q (!xs.isEmpty) st) : Tru G A L (.list a) st Q := ⟨fun K Z w s S r => by
  rw [of_list r]
  obtain ⟨_, _, _, ws, n, e, rs⟩ := S.ar _ ha
  have hl : ws.length = xs.length := rs.length
  refine wpAny_truthy_list (items := ws.toArray) ⟨_, e, rfl, n, rfl⟩ (by rw [List.size_toArray]; omega) ?_
  have e1 : ws.toArray.isEmpty = xs.isEmpty := by cases ws <;> cases xs <;> first | rfl | simp at hl
  rw [e1]
  exact Post.mk (R := BR) S.toks rfl h⟩
theorem mat_no_bool : typeLookup (.type "re.Match") "__bool__" = pure none := by rw [typeLookup_type, builtinLookup_eq_fast]; kernel_rfl
theorem mat_no_len : typeLookup (.type "re.Match") "__len__" = pure none := by rw [typeLookup_type, builtinLookup_eq_fast]; kernel_rfl
theorem tru_mat {x : Str} {sp : List Int} {Q : Bool → St → Prop} (h : Q true st) : Tru G A L (.mat x sp) st Q := ⟨fun K Z w s S r => by
  obtain ⟨hT, _⟩ := (ty_mat (L := L) (st := st)).run K Z _ s S r
  obtain ⟨a, b, t, pt, ps, lm, li, n, rfl, h1, h2⟩ := of_mat r
  unfold truthy
  refine wpAny_bind (wpAny_callSpecial?_none hT mat_no_bool ?_)
  refine wpAny_bind (wpAny_specialOf hT mat_no_len ?_)
  exact wpAny_pure (Post.mk (R := BR) S rfl h)⟩
end
end Mine

/-! part Ops1 -/
set_option maxRecDepth 100000
set_option Elab.async false
set_option linter.unusedVariables false
namespace Mine
open PySem PyProof.Rows PySem.Builtin.Re PySem.W

section
variable {G : Gl} {A : Around} {L : Addr} {st : St} {Q : V → St → Prop}

theorem op_add_str {x y : Str} (hz : x.length + y.length ≤ 16777216) (h : Q (.str (x ++ y)) st) : Op2 G A L (binaryOp .Add) (.str x) (.str y) st Q := ⟨fun K Z w u s S r1 r2 => by
  obtain ⟨t, rfl⟩ := of_str r1
  obtain ⟨t', rfl⟩ := of_str r2
  exact SB.add (fun _ _ => Post.mk S.toks vr_str h) (by rw [sizeLine_eq]; exact hz)⟩

theorem op_quote {x : Str} (hz : x.length ≤ 1000000) (h : Q (.str (Str.ofString "\"" ++ x ++ Str.ofString "\"")) st) : Op2 G A L (binaryOp .Mod) (.str (Str.ofString "\"%s\"")) (.str x) st Q := ⟨fun K Z w u s S r1 r2 => by
  obtain ⟨t, rfl⟩ := of_str r1
  obtain ⟨t', rfl⟩ := of_str r2
  refine KPc.mod_str (X' := Str.mk #[34, 37, 115, 34]) (T := fun z => Str.ofString "\"" ++ z ++ Str.ofString "\"") (by decide +kernel) hz ?_ (fun _ _ => Post.mk S.toks vr_str h)
  kpc_run_s⟩

theorem op_is_none {v : V} {w₀ : Bool} (hv : ∀ Z w, VR Z v w → plainIs w .none = true ∧ (w == .none) = w₀) (h : Q (.bool w₀) st) : Op2 G A L (compareOp .Is) v .none st Q := ⟨fun K Z w u s S r1 r2 => by
  rw [of_none r2]
  obtain ⟨h1, h2⟩ := hv Z w r1
  refine wpAny_is_plain h1 ?_
  rw [h2]
  exact Post.mk S vr_bool h⟩
theorem op_isNot_none {v : V} {w₀ : Bool} (hv : ∀ Z w, VR Z v w → plainIs w .none = true ∧ (w == .none) = w₀) (h : Q (.bool (!w₀)) st) : Op2 G A L (compareOp .IsNot) v .none st Q := ⟨fun K Z w u s S r1 r2 => by
  rw [of_none r2]
  obtain ⟨h1, h2⟩ := hv Z w r1
  refine wpAny_isNot_plain h1 ?_
  rw [h2]
  exact Post.mk S vr_bool h⟩
theorem nn_none : ∀ Z w, VR Z .none w → plainIs w .none = true ∧ (w == .none) = true := fun Z w r => by rw [of_none r]; exact ⟨rfl, rfl⟩
theorem nn_str {x : Str} : ∀ Z w, VR Z (.str x) w → plainIs w .none = true ∧ (w == .none) = false := fun Z w r => by obtain ⟨t, rfl⟩ := of_str r; exact ⟨rfl, rfl⟩
theorem nn_mat {x : Str} {sp : List Int} : ∀ Z w, VR Z (.mat x sp) w → plainIs w .none = true ∧ (w == .none) = false := fun Z w r => by obtain ⟨a, b, t, pt, ps, lm, li, n, rfl, h1, h2⟩ := of_mat r; exact ⟨rfl, rfl⟩

theorem mf_append : MF "list" "append" "list.append" := ⟨F.plainAttrs_list, slot_list_append, F.type_list_append⟩
theorem cb_append {a : Addr} {xs : List V} {v : V} (ha : (a, xs) ∈ st.ar) (hl : xs.length ≤ 16000000) (h : Q .none ⟨st.loc, setA a (xs ++ [v]) st.ar⟩) : CB G A L "list.append" [.list a, v] st Q := ⟨fun K Z ws s S r => by
  obtain ⟨w1, ws1, rfl, r1, r2⟩ := r.of_cons
  obtain ⟨w2, ws2, rfl, r3, r4⟩ := r2.of_cons
  rw [r4.of_nil, of_list r1]
  obtain ⟨_, _, _, ws, n, e, rs⟩ := S.ar _ ha
  refine wpAny_call_entry slot_list_append ⟨_, e, rfl⟩ entry_list_append ?_ (args_list_append _ _)
  show wpAny _ _ (updateSeq a (·.push w2) >>= fun _ => ret .none) _ _ s
  exact wpAny_bind (S.push1 ha r3 (by omega) fun s' S' => wpAny_pure ⟨_, rfl, Post.mk S' vr_none h⟩)⟩
end

section
variable {G : Gl} {A : Around} {env : Env} {st : St} {pos : Pos}
theorem ex_expr {e : Expr} {Q : Fl → St → Prop} (hi : interactive env = false) (hs : swapsWith e none pos.line env = pure false) (h : Ev G A env e st fun v st₁ => v = .none ∧ Q .next st₁) : Ex G A env (.Expr e pos) st Q :=
  ⟨fun K Z s S => wpAny_Expr (h.run.use S fun Z₁ v st₁ w s₁ z₁ S₁ r₁ ⟨hv, q⟩ => by
    subst hv
    rw [of_none r₁]
    exact ⟨Z₁, .next, st₁, z₁, S₁, rfl, q⟩) hi hs⟩

/-- the parts of an f-string -/
structure Jn (G : Gl) (A : Around) (env : Env) (acc : Str) (es : List Expr) (st : St) (Q : V → St → Prop) : Prop where
  run : Tri G A env.locals VR (joinParts acc (evalEach es env)) st Q
theorem jn_nil {acc : Str} {Q : V → St → Prop} (hz : acc.length ≤ 16777216) (h : Q (.str acc) st) : Jn G A env acc [] st Q := ⟨fun K Z s S => joinParts_nil (Post.mk S.toks vr_str h) (by rw [sizeLine_eq]; exact hz)⟩
theorem jn_cons {acc : Str} {e : Expr} {es : List Expr} {Q : V → St → Prop} (h : Ev G A env e st fun v st₁ => ∃ y, v = .str y ∧ (acc ++ y).length ≤ 16777216 ∧ Jn G A env (acc ++ y) es st₁ Q) : Jn G A env acc (e :: es) st Q :=
  ⟨fun K Z s S => joinParts_cons (h.run.use S fun Z₁ v st₁ w s₁ z₁ S₁ r₁ ⟨y, hv, hz, h₁⟩ => by
    subst hv
    obtain ⟨t, rfl⟩ := of_str r₁
    exact ⟨by rw [sizeLine_eq]; exact hz, wpLe z₁ (h₁.run K Z₁ s₁ S₁)⟩)⟩
theorem ev_joined {e₁ e₂ : Expr} {es : List Expr} {Q : V → St → Prop} (h : Jn G A env Str.empty (e₁ :: e₂ :: es) st Q) : Ev G A env (.JoinedStr (e₁ :: e₂ :: es) pos) st Q := ⟨fun K Z s S => JoinedStr_many (h.run K Z s S)⟩
/-- %s of a text -/
theorem ev_fmt {e : Expr} {Q : V → St → Prop} (h : Ev G A env e st fun v st₁ => ∃ y, v = .str y ∧ y.length ≤ 16777216 ∧ Q (.str y) st₁) : Ev G A env (.FormattedValue e 115 none pos) st Q := ⟨fun K Z s S => by
  show wpAny _ _ (eval e env >>= fun v => standAt pos >>= fun _ => holding [v] (converted 115 v) >>= fun v' => formatField v' Str.empty) _ _ s
  refine wpAny_bind (h.run.use S fun Z₁ v st₁ w s₁ z₁ S₁ r₁ ⟨y, hv, hz, q⟩ => ?_)
  subst hv
  obtain ⟨t, rfl⟩ := of_str r₁
  refine wpAny_bind (wpAny_standAt (wpAny_bind (wpAny_holding ?_)))
  have hz' : y.length ≤ sizeLine := by rw [sizeLine_eq]; exact hz
  show wpAny _ _ (habitSame "fstring-hands-on-the-str" (.str y t)) _ _ s₁
  exact habitSame_str (fun t' tk => formatField_str (fun t'' tk' => ⟨Z₁, _, st₁, z₁, S₁.toks, vr_str, q⟩) hz') hz'⟩
end
end Mine

/-! part Loop1 -/
set_option maxRecDepth 100000
set_option Elab.async false
set_option linter.unusedVariables false
namespace Mine
open PySem PyProof.Rows PySem.Builtin.Re PySem.W

section
variable {G : Gl} {A : Around} {env : Env} {st : St} {t : Expr} {body orelse : List Stmt} {Q : Fl → St → Prop}

theorem for_inv {β : Type} (f : β → V) (Inv : List β → St → Prop) (xs : List β) (h0 : Inv [] st)
    (turn : ∀ done x rest st, xs = done ++ x :: rest → Inv done st → Asg G A env t (f x) st fun st₁ => Exs G A env body st₁ fun fl st₂ => match fl with
      | .next | .cont => ∃ st₀, Ent G env.locals st₂ st₀ ∧ Inv (done ++ [x]) st₀
      | .brk => Q .next st₂
      | .ret v => Q (.ret v) st₂)
    (fin : ∀ st, Inv xs st → Exs G A env orelse st Q) : ForT G A env t body orelse (xs.map f) st Q := by
  have key : ∀ (rest done : List β) (st : St), xs = done ++ rest → Inv done st → ForT G A env t body orelse (rest.map f) st Q := by
    intro rest
    induction rest with
    | nil => intro done st e hi; rw [List.append_nil] at e; subst e; exact for_nil (fin st hi)
    | cons x rest ih =>
      intro done st e hi
      have ht := turn done x rest st e hi
      refine for_cons ⟨fun K Z w s S r => wpAny_mono (ht.run K Z w s S r) (fun _ s' ⟨Z', _, st', z, S', u, h'⟩ => ⟨Z', (), st', z, S', u, ?_⟩) fun _ _ q => q⟩
      refine Exs.mono h' fun fl st₂ h₂ => ?_
      cases fl with
      | next => obtain ⟨st₀, he, hi'⟩ := h₂; exact ForT.ent he (ih (done ++ [x]) st₀ (by rw [e]; simp) hi')
      | cont => obtain ⟨st₀, he, hi'⟩ := h₂; exact ForT.ent he (ih (done ++ [x]) st₀ (by rw [e]; simp) hi')
      | brk => exact h₂
      | ret v => exact h₂
  exact key xs [] st rfl h0
end

theorem exs_mid {G : Gl} {A : Around} {env : Env} {st : St} {x : Stmt} {rest : List Stmt} {Q : Fl → St → Prop} (P : St → Prop) (h : Ex G A env x st fun f st₁ => f = .next ∧ P st₁) (h' : ∀ st₁, P st₁ → Exs G A env rest st₁ Q) : Exs G A env (x :: rest) st Q :=
  exs_cons (h.mono fun f st₁ ⟨e, p⟩ => by subst e; exact h' st₁ p)
theorem Asg.mono {G : Gl} {A : Around} {env : Env} {st : St} {t : Expr} {v : V} {Q Q' : St → Prop} (h : Asg G A env t v st Q) (hQ : ∀ st', Q st' → Q' st') : Asg G A env t v st Q' :=
  ⟨fun K Z w s S r => wpAny_mono (h.run K Z w s S r) (fun _ s' ⟨Z', _, st', z, S', u, h'⟩ => ⟨Z', (), st', z, S', u, hQ _ h'⟩) fun _ _ q => q⟩

/-- the locals of one state are among those of another -/
def subLoc (l₀ l : List (Str × V)) : Prop := ∀ x v, l₀.lookup x = some v → l.lookup x = some v
theorem subLoc.nil {l : List (Str × V)} : subLoc [] l := fun _ _ h => by cases h
theorem subLoc.cons {l₀ l : List (Str × V)} {x : Str} {v : V} (h : l.lookup x = some v) (h' : subLoc l₀ l) : subLoc ((x, v) :: l₀) l := fun y u e => by
  rw [List.lookup_cons] at e
  cases q : y == x with
  | true => rw [q] at e; cases e; rw [eq_of_beq q]; exact h
  | false => rw [q] at e; exact h' y u e
theorem ent_less {G : Gl} {L : Addr} {l l₀ : List (Str × V)} {ar ar₀ : List (Addr × List V)} (hl : subLoc l₀ l) (ha : ∀ p ∈ ar₀, p ∈ ar) (hn : (ar.map (·.1)).Nodup → (ar₀.map (·.1)).Nodup) : Ent G L ⟨l, ar⟩ ⟨l₀, ar₀⟩ := fun K Z s S =>
  Ent.less (st := ⟨l, ar⟩) (st₀ := ⟨l₀, ar₀⟩) hl ha (hn S.nd) K Z s S
/-- keep the lists, drop locals -/
theorem ent_loc {G : Gl} {L : Addr} {l l₀ : List (Str × V)} {ar : List (Addr × List V)} (hl : subLoc l₀ l) : Ent G L ⟨l, ar⟩ ⟨l₀, ar⟩ := ent_less hl (fun _ h => h) id
theorem ent_set {G : Gl} {L : Addr} {l l₀ : List (Str × V)} {ar ar₀ : List (Addr × List V)} (ha : ar = ar₀) (hl : subLoc l₀ l) : Ent G L ⟨l, ar⟩ ⟨l₀, ar₀⟩ := by subst ha; exact ent_loc hl
/-- drop the first list -/
theorem ent_drop {G : Gl} {L : Addr} {l l₀ : List (Str × V)} {p : Addr × List V} {ar : List (Addr × List V)} (hl : subLoc l₀ l) : Ent G L ⟨l, p :: ar⟩ ⟨l₀, ar⟩ := ent_less hl (fun _ h => .tail _ h) fun h => (List.nodup_cons.mp h).2
end Mine

/-! part Join1 -/
set_option maxRecDepth 100000
set_option Elab.async false
set_option linter.unusedVariables false
namespace Mine
open PySem PyProof.Rows PySem.Builtin.Re PySem.W

def escL (l : List Nat) : List Nat := l.flatMap fun c => if isEsc c then [92, c] else [c]
theorem escL_none : ∀ {l : List Nat}, (∀ x ∈ l, isEsc x = false) → escL l = l
  | [], _ => rfl
  | x :: l, h => by
    have ih := escL_none (l := l) fun y hy => h y (.tail _ hy)
    unfold escL at ih ⊢
    rw [List.flatMap_cons, ih, h x (.head _)]; rfl
theorem escL_append (a b : List Nat) : escL (a ++ b) = escL a ++ escL b := by unfold escL; rw [List.flatMap_append]
theorem escL_length (l : List Nat) : (escL l).length ≤ 2 * l.length := by
  induction l with
  | nil => simp [escL]
  | cons x l ih =>
    unfold escL at ih ⊢
    rw [List.flatMap_cons, List.length_append, List.length_cons]
    split <;> simp only [List.length_cons, List.length_nil] <;> omega

theorem split_first {p : Nat → Bool} : ∀ l : List Nat, (∀ x ∈ l, p x = false) ∨ ∃ mid ch post, l = mid ++ ch :: post ∧ (∀ x ∈ mid, p x = false) ∧ p ch = true
  | [] => .inl fun _ h => by cases h
  | x :: l => by
    cases hx : p x with
    | true => exact .inr ⟨[], x, l, rfl, (fun _ h => by cases h), hx⟩
    | false =>
      rcases split_first (p := p) l with h | ⟨mid, ch, post, e, h1, h2⟩
      · exact .inl fun y hy => by
          rcases List.mem_cons.mp hy with rfl | hy
          · exact hx
          · exact h y hy
      · refine .inr ⟨x :: mid, ch, post, by rw [e]; rfl, fun y hy => ?_, h2⟩
        rcases List.mem_cons.mp hy with rfl | hy
        · exact hx
        · exact h1 y hy

theorem esc_subR {x : Array Nat} : ∀ (n : Nat) (pre rem : List Nat), rem.length ≤ n → x.toList = pre ++ rem → SubR escCode x (fun g => 92 :: g) pre rem (escL rem) := by
  intro n
  induction n with
  | zero =>
    intro pre rem hn e
    have : rem = [] := List.eq_nil_of_length_eq_zero (by omega)
    subst this
    exact .none (esc_none (mid := []) e (fun _ h => by cases h))
  | succ n ih =>
    intro pre rem hn e
    rcases split_first (p := isEsc) rem with h | ⟨mid, ch, post, rfl, h1, h2⟩
    · rw [escL_none h]; exact .none (esc_none e h)
    · obtain ⟨m', k, hr, hk, ho, hs, hh, hm, hl, _⟩ := esc_found (t := x) (pre := pre) (post := post) (must := false) (by rw [e]; simp) h1 h2
      have hlen : (mid ++ ch :: post).length = mid.length + (post.length + 1) := by simp
      have := ih (pre ++ mid ++ ([] ++ [ch] ++ [])) post (by omega) (by rw [e]; simp)
      have hsome := SubR.some (code := escCode) (x := x) (f := fun g => 92 :: g) (pre := pre) (mid := mid) (g1 := []) (g := [ch]) (g2 := []) (rem := post) ⟨m', k, hr, hk, ho, hs, by simpa using hh, by simpa using hm, hl⟩ (by simp) this
      have e1 : mid ++ ([] ++ [ch] ++ []) ++ post = mid ++ ch :: post := by simp
      have e2 : escL (mid ++ ch :: post) = mid ++ (92 :: [ch]) ++ escL post := by
        rw [escL_append, escL_none h1, show ch :: post = [ch] ++ post from rfl, escL_append]
        have : escL [ch] = [92, ch] := by simp [escL, h2]
        rw [this]; simp
      rw [e1] at hsome
      rw [e2]
      exact hsome

/-! what join_header_words writes -/
abbrev Pair := Str × Option Str
def valS (v : Str) : Str := if tokB v.cps then v else Str.ofString "\"" ++ sOf (escL v.cps.toList) ++ Str.ofString "\""
theorem len_q : (Str.ofString "\"").length = 1 := by decide +kernel
theorem len_e : (Str.ofString "=").length = 1 := by decide +kernel
theorem len_b : (Str.ofString "\\").length = 1 := by decide +kernel
theorem len_sc : (Str.ofString "; ").length = 2 := by decide +kernel
theorem len_cm : (Str.ofString ", ").length = 2 := by decide +kernel
theorem valS_length (v : Str) (h : v.length ≤ 400000) : (valS v).length ≤ 800002 := by
  unfold valS
  split
  · omega
  · rw [strLen_append, strLen_append, len_q]
    have := escL_length v.cps.toList
    have h2 : v.cps.toList.length ≤ 400000 := by rw [Array.length_toList]; exact h
    show 1 + (escL v.cps.toList).toArray.size + 1 ≤ _
    rw [List.size_toArray]; omega
theorem back_app (a : Array Nat) : (V.str (Str.ofString "\\" ++ ⟨a⟩)) = V.str (sOf (92 :: a.toList)) := by
  have : Str.ofString "\\" = ⟨#[92]⟩ := by decide +kernel
  rw [this]
  show V.str ⟨#[92] ++ a⟩ = _
  congr 2
  apply Array.ext'
  simp
def wordS : Pair → Str
  | (k, none) => k
  | (k, some v) => Str.empty ++ k ++ Str.ofString "=" ++ valS v
def headS (ps : List Pair) : Str := Str.join (Str.ofString "; ") (ps.map wordS)
def headsS (ls : List (List Pair)) : List Str := (ls.filter fun ps => !ps.isEmpty).map headS
def joinS (ls : List (List Pair)) : Str := Str.join (Str.ofString ", ") (headsS ls)

def optV : Option Str → V
  | none => .none
  | some v => .str v
def pairV (p : Pair) : V := .tup [.str p.1, optV p.2]
def pairsV (ps : List Pair) : V := .fl (ps.map pairV)
def listsV (ls : List (List Pair)) : V := .fl (ls.map pairsV)

/-- sizes under which all goes -/
def okPair (p : Pair) : Prop := p.1.length ≤ 400000 ∧ ∀ v, p.2 = some v → v.length ≤ 400000
structure OkLists (ls : List (List Pair)) : Prop where
  pairs : ∀ ps ∈ ls, ∀ p ∈ ps, okPair p
  heads : ∀ ps ∈ ls, ((ps.map wordS).map fun x => x.length + 2).sum ≤ 16000000
  whole : ((headsS ls).map fun x => x.length + 2).sum ≤ 16000000
  lens : ls.length ≤ 1000000 ∧ ∀ ps ∈ ls, ps.length ≤ 1000000
end Mine

/-! part Top1 -/
set_option maxRecDepth 100000
set_option Elab.async false
set_option linter.unusedVariables false
namespace Mine
open PySem PyProof.Rows PySem.Builtin.Re PySem.W

theorem ints_vrs {Z : Zt} : ∀ {vs : List Value} {ns : List Int}, IntsAre vs ns → VRs Z (ns.map V.int) vs
  | _, _, .nil => .nil
  | _, _, .cons n t h => .cons vr_int (ints_vrs h)

def intsV (ns : List Int) : V := .fl (ns.map V.int)

theorem start_sim {G : Gl} {s : Shared} {L a : Addr} {vs : List Value} {ns : List Int} {m : Str → Option Value} (F : Fr G.base L s.heap m) (hm : m (Str.ofString "script") = some (.ref a)) (hl : G.base.IsList a vs.toArray) (hI : IntsAre vs ns)
    (hg : s.gens = #[]) (ho : s.os = G.os) (hcl : G.cells = []) (ht : ∀ t ∈ G.tabs, s.heap.get? t.P = some (tabObj #[]) ∧ t.P ≠ L ∧ G.base.get? t.P = none) :
    Sim G (fun _ => none) G.base.get? L ⟨[(Str.ofString "script", intsV ns)], []⟩ s where
  cl p hp := by rw [hcl] at hp; cases hp
  kk b o e := by cases e
  zz b o e := F.keep b o e
  kz b o e := by cases e
  bz b o e := e
  ns := ⟨m, F.ns, fun x => by
    show LR _ (List.lookup x [(Str.ofString "script", intsV ns)]) _
    rw [List.lookup_cons]
    cases q : x == Str.ofString "script" with
    | false => trivial
    | true =>
      rw [eq_of_beq q, hm]
      obtain ⟨o, e, hc, n, hd⟩ := hl
      show VR _ (.fl (ns.map V.int)) (.ref a)
      unfold VR
      exact ⟨a, vs, rfl, ⟨o, e, hc, n, hd⟩, ints_vrs hI⟩⟩
  kL := rfl
  zL := Heap.get?_none_of_le F.above
  ar p hp := by cases hp
  nd := .nil
  tb t h := let ⟨h1, h2, h3⟩ := ht t h; ⟨rfl, h3, h2, (fun p hp => by cases hp), #[], h1, .inl rfl⟩
  gens := hg
  os := ho

theorem law_go {G : Gl} {A : Around} {env : Env} {body : List Stmt} {st : St} {s : Shared} (S : Sim G (fun _ => none) G.base.get? env.locals st s)
    (h : Exs G A env body st fun fl st' => fl = .ret (.bool true)) :
    wpAny G.M A (execs body env) (fun f s' => f = .ret (.bool true) ∧ (∀ b o, G.base.get? b = some o → s'.heap.get? b = some o) ∧ s'.os = G.os ∧ s'.gens = #[] ∧ ∀ t ∈ G.tabs, ∃ ps, s'.heap.get? t.P = some (tabObj ps)) Nope s :=
  h.run.use S fun Z' fl st' f s' z S' r e => by
    subst e
    obtain ⟨w, rfl, rw'⟩ := r
    rw [of_bool rw']
    exact ⟨rfl, S'.base, S'.os, S'.gens, fun t ht => let ⟨_, _, _, _, ps, e, _⟩ := S'.tb t ht; ⟨ps, e⟩⟩

theorem glOk_of {G : Gl} {p : Program} {loose : List Str} {mean : ExcName → Option Value} (T : Top p loose mean G.mg G.mb G.base) (hbm : ∀ bm, G.mg "__builtins__" = some (.ref bm) → bm ≠ mainGlobals) (ht : ∀ t ∈ G.tabs, ∀ t' ∈ G.tabs, t.P = t'.P → t = t') : GlOk G where
  g := T.g
  b := T.b
  nolimit := T.nolimit
  nodigits := T.nodigits
  bm := let ⟨bm, ob, h1, h2, h3, h4, h5, h6⟩ := T.bmain; ⟨bm, ob, h1, h2, hbm bm h1, h3, h4, h5, h6⟩
  tabs := ht

theorem law_run {prog : Program} {w : World} {base : Heap} {os : OsState} {mg mb : Str → Option Value} {tabs : List Tab} {p : Program} {loose : List Str} {mean : ExcName → Option Value} {A : Around} {env : Env} {body : List Stmt} {st : St} {s : Shared} {Q : Flow → Shared → Prop} {E : Value → Shared → Prop}
    (T : Top p loose mean mg mb base) (S : Sim ⟨prog, w, base, os, mg, mb, tabs, []⟩ (fun _ => none) base.get? env.locals st s) (h : Exs ⟨prog, w, base, os, mg, mb, tabs, []⟩ A env body st fun fl st' => fl = .ret (.bool true))
    (hQ : ∀ s', (∀ b o, base.get? b = some o → s'.heap.get? b = some o) → s'.os = os → s'.gens = #[] → (∀ t ∈ tabs, ∃ ps, s'.heap.get? t.P = some (tabObj ps)) → Q (.ret (.bool true)) s') : wpAny (model prog w) A (execs body env) Q E s :=
  wpAny_mono (law_go (G := ⟨prog, w, base, os, mg, mb, tabs, []⟩) S h) (fun f s' ⟨hf, hk, hos, hg, ht⟩ => by subst hf; exact hQ s' hk hos hg ht) fun _ _ x => x.elim
theorem room_caller (env : Env) : Room (callerA.deeper env) 8 := ⟨rfl, by show 1 + claimMargin + 1 + 8 < recursionLimit; decide, by show 4 + 3 + 20 * 8 + 40 < cLine; decide⟩
end Mine

/-! part Ops2 -/
set_option maxRecDepth 100000
set_option Elab.async false
set_option linter.unusedVariables false
namespace Mine
open PySem PyProof.Rows PySem.Builtin.Re PySem.W

section
variable {G : Gl} {A : Around} {L : Addr} {st : St} {Q : V → St → Prop} {a b : Int}

theorem op_mod (hb : 0 < b) (h : Q (.int (a % b)) st) : Op2 G A L (binaryOp .Mod) (.int a) (.int b) st Q := ⟨fun K Z w u s S r1 r2 => by
  obtain ⟨t, rfl⟩ := of_int r1
  obtain ⟨t', rfl⟩ := of_int r2
  refine PyProof.Rows.mod_int (by omega) ?_
  rw [Int.fmod_eq_emod_of_nonneg _ (by omega)]
  exact Post.mk S.toks vr_int h⟩
theorem op_div (hb : 0 < b) (hb' : b < 1073741824) (h : Q (.int (a / b)) st) : Op2 G A L (binaryOp .FloorDiv) (.int a) (.int b) st Q := ⟨fun K Z w u s S r1 r2 => by
  obtain ⟨t, rfl⟩ := of_int r1
  obtain ⟨t', rfl⟩ := of_int r2
  refine floordiv_int (by omega) ?_ (hp := .inl (PyProof.noPylong_small (by omega)))
  rw [Int.fdiv_eq_ediv_of_nonneg _ (by omega)]
  exact Post.mk S.toks vr_int h⟩
theorem op_addi (h : Q (.int (a + b)) st) : Op2 G A L (binaryOp .Add) (.int a) (.int b) st Q := ⟨fun K Z w u s S r1 r2 => by
  obtain ⟨t, rfl⟩ := of_int r1; obtain ⟨t', rfl⟩ := of_int r2; exact add_int (Post.mk S.toks vr_int h)⟩
theorem op_subi (h : Q (.int (a - b)) st) : Op2 G A L (binaryOp .Sub) (.int a) (.int b) st Q := ⟨fun K Z w u s S r1 r2 => by
  obtain ⟨t, rfl⟩ := of_int r1; obtain ⟨t', rfl⟩ := of_int r2; exact sub_int (Post.mk S.toks vr_int h)⟩
theorem op_lti (h : Q (.bool (decide (a < b))) st) : Op2 G A L (compareOp .Lt) (.int a) (.int b) st Q := ⟨fun K Z w u s S r1 r2 => by
  obtain ⟨t, rfl⟩ := of_int r1; obtain ⟨t', rfl⟩ := of_int r2; exact wpAny_lt_int (Post.mk S vr_bool h)⟩
theorem op_eqi (h : Q (.bool (a == b)) st) : Op2 G A L (compareOp .Eq) (.int a) (.int b) st Q := ⟨fun K Z w u s S r1 r2 => by
  obtain ⟨t, rfl⟩ := of_int r1; obtain ⟨t', rfl⟩ := of_int r2; exact wpAny_eq_int (Post.mk S vr_bool h)⟩
theorem op_gti (h : Q (.bool (decide (b < a))) st) : Op2 G A L (compareOp .Gt) (.int a) (.int b) st Q := ⟨fun K Z w u s S r1 r2 => by
  obtain ⟨t, rfl⟩ := of_int r1; obtain ⟨t', rfl⟩ := of_int r2; exact gt_int (Post.mk S vr_bool h)⟩
theorem op_eqs {x y : Str} (h : Q (.bool (decide (x = y))) st) : Op2 G A L (compareOp .Eq) (.str x) (.str y) st Q := ⟨fun K Z w u s S r1 r2 => by
  obtain ⟨t, rfl⟩ := of_str r1; obtain ⟨t', rfl⟩ := of_str r2
  refine P.eq_str ?_
  have : (x.cps.toList == y.cps.toList) = decide (x = y) := by
    by_cases e : x = y
    · subst e; simp
    · have : x.cps.toList ≠ y.cps.toList := fun q => e (by cases x; cases y; simp at q; simp [q])
      rw [beq_eq_false_iff_ne.mpr this, decide_eq_false e]
  rw [this]
  exact Post.mk S vr_bool h⟩
theorem op_nes {x y : Str} (h : Q (.bool (!decide (x = y))) st) : Op2 G A L (compareOp .NotEq) (.str x) (.str y) st Q := ⟨fun K Z w u s S r1 r2 => by
  obtain ⟨t, rfl⟩ := of_str r1; obtain ⟨t', rfl⟩ := of_str r2
  refine P.ne_str ?_
  have : (x.cps.toList != y.cps.toList) = !decide (x = y) := by
    by_cases e : x = y
    · subst e; simp
    · have : x.cps.toList ≠ y.cps.toList := fun q => e (by cases x; cases y; simp at q; simp [q])
      rw [bne_iff_ne.mpr this, decide_eq_false e]; rfl
  rw [this]
  exact Post.mk S vr_bool h⟩
end

theorem seqIndex_pos {i : Int} {n : Nat} (h0 : 0 ≤ i) (h1 : i < n) : seqIndex? i n = some i.toNat := by
  unfold seqIndex?
  have h2 : ¬ i < 0 := by omega
  simp only [h2, if_false, h0, decide_true, h1, Bool.and_self, if_true]
theorem seqIndex_last {n : Nat} (h : 0 < n) : seqIndex? (-1) n = some (n - 1) := by
  unfold seqIndex?
  have h2 : (0 : Int) ≤ -1 + (n : Int) := by omega
  have h3 : -1 + (n : Int) < n := by omega
  simp only [show ((-1 : Int) < 0) = True by simp, if_true, h2, decide_true, h3, Bool.and_self]
  congr 1; omega
/-! subscripts -/
structure Sub (G : Gl) (A : Around) (L : Addr) (value slice : Expr) (o i : V) (st : St) (Q : V → St → Prop) : Prop where
  run : ∀ K Z wo wi s, Sim G K Z L st s → VR Z o wo → VR Z i wi → wpAny G.M A (subscriptTail value slice wo wi) (Post G K Z L VR Q) Nope s
section
variable {G : Gl} {A : Around} {env : Env} {L : Addr} {st : St} {Q : V → St → Prop} {pos : Pos} {value slice : Expr}
theorem ev_subs (h : Ev G A env value st fun o st₁ => Ev G A env slice st₁ fun i st₂ => Sub G A env.locals value slice o i st₂ Q) : Ev G A env (.Subscript value slice pos) st Q :=
  ⟨fun K Z s S => Subscript_ (h.run.use S fun Z₁ a st₁ w s₁ z₁ S₁ r₁ h₁ => h₁.run.use S₁ fun Z₂ b st₂ u s₂ z₂ S₂ r₂ h₂ => wpLe (z₁.trans z₂) (h₂.run K Z₂ w u s₂ S₂ (VR.mono z₂ _ _ r₁) r₂))⟩

theorem tail_item {prog : Program} {w : World} {s : Shared} {E : Value → Shared → Prop} {o i : Value} {T id : String} {P : Value → Shared → Prop} (hT : s.TypeIs o T)
    (hl : typeLookup (.type T) "__getitem__" = pure (some (.builtin id))) (hs : subscripted slice false o i = operate [o, i] (getItem o i)) (h : wpAny (model prog w) A (getItem o i) P E s) :
    wpAny (model prog w) A (subscriptTail value slice o i) P E s := by
  unfold subscriptTail
  refine wpAny_bind ?_
  rw [getitemInPython_of_ne hT.not_modules]
  refine wpAny_bind (wpAny_specialOf hT hl ?_)
  have fin : wpAny (model prog w) A (subscripted slice false o i) (fun r s₃ => wpAny (model prog w) A (letTemporaryGo value o r >>= fun _ => pure r) P E s₃) E s := by
    rw [hs]
    exact wpAny_operating (wpAny_mono h (fun r s₃ h₃ => wpAny_bind (wpAny_letTemporaryGo (wpAny_pure h₃))) fun _ _ x => x)
  first
    | exact wpAny_pure (wpAny_bind fin)
    | exact wpAny_bind (wpAny_pure (wpAny_bind fin))
    | exact wpAny_bind fin

theorem sub_str {x : Str} {i : Int} {c : Nat} (hs : ∀ o i, subscripted slice false o i = operate [o, i] (getItem o i)) (h0 : 0 ≤ i) (hc : x.cps[i.toNat]? = some c) (hx : x.length ≤ 16777216) (h : Q (.str ⟨#[c]⟩) st) : Sub G A L value slice (.str x) (.int i) st Q :=
  ⟨fun K Z wo wi s S r1 r2 => by
    obtain ⟨t, rfl⟩ := of_str r1
    obtain ⟨t', rfl⟩ := of_int r2
    refine tail_item (T := "str") (typeIs_str _ _ _) F.slot_str_getitem.lookup (hs _ _) ?_
    have hlt : i.toNat < x.cps.size := (Array.getElem?_eq_some_iff.mp hc).1
    have hlen : x.length = x.cps.size := rfl
    refine P.getItem_str (c := c) ?_ ?_ (Post.mk S.toks vr_str h)
    · have : x.cps.size ≤ 16777216 := hx
      have h1 : ¬ i < -(2 ^ 63 : Int) := by omega
      have h2 : ¬ i ≥ (2 ^ 63 : Int) := by omega
      simp only [h1, h2, decide_false, Bool.or_false]
    · have : seqIndex? i x.length = some i.toNat := by
        exact seqIndex_pos h0 (by rw [hlen]; omega)
      rw [this]; exact hc⟩

theorem getItem_list_at {prog : Program} {w : World} {s : Shared} {E : Value → Shared → Prop} {l : Addr} {items : Array Value} {i : Int} {t : Tok} {j : Nat} {x : Value} {P : Value → Shared → Prop} (hl : s.heap.IsList l items) (hlo : -(2 ^ 63) ≤ i) (hhi : i < 2 ^ 63)
    (hj : seqIndex? i items.size = some j) (hx : items[j]? = some x) (h : P x s) : wpAny (model prog w) A (getItem (.ref l) (.int i t)) P E s := by
  unfold seqIndex? at hj
  by_cases h0 : i < 0
  · simp only [h0, if_true] at hj
    split at hj
    · rename_i hb
      simp only [Bool.and_eq_true, decide_eq_true_eq] at hb
      cases hj
      exact wpAny_getItem_list_neg hl h0 (by omega) hlo hx h
    · cases hj
  · simp only [h0, if_false] at hj
    split at hj
    · cases hj
      exact wpAny_getItem_list hl (by omega) hhi hx h
    · cases hj
/-- an item of a frozen list, an owned list, a tuple -/
theorem sub_fl {xs : List V} {i : Int} {j : Nat} {v : V} (hs : ∀ o i, subscripted slice false o i = operate [o, i] (getItem o i)) (hlo : -(2 ^ 63) ≤ i) (hhi : i < 2 ^ 63) (hj : seqIndex? i xs.length = some j) (hv : xs[j]? = some v) (h : Q v st) : Sub G A L value slice (.fl xs) (.int i) st Q :=
  ⟨fun K Z wo wi s S r1 r2 => by
    obtain ⟨a, ws, rfl, hz, rs⟩ := of_fl r1
    obtain ⟨t', rfl⟩ := of_int r2
    have hl := zseq_list hz S.zz
    obtain ⟨w, hw, rw'⟩ := rs.get j hv
    exact tail_item (T := "list") hl.typeIs slot_list_getitem.lookup (hs _ _) (getItem_list_at hl hlo hhi (j := j) (by rw [List.size_toArray, rs.length]; exact hj) (by simpa using hw) (Post.mk S rw' h))⟩
theorem sub_list {a : Addr} {xs : List V} {i : Int} {j : Nat} {v : V} (ha : (a, xs) ∈ st.ar) (hs : ∀ o i, subscripted slice false o i = operate [o, i] (getItem o i)) (hlo : -(2 ^ 63) ≤ i) (hhi : i < 2 ^ 63) (hj : seqIndex? i xs.length = some j) (hv : xs[j]? = some v) (h : Q v st) :
    Sub G A L value slice (.list a) (.int i) st Q :=
  ⟨fun K Z wo wi s S r1 r2 => by
    rw [of_list r1]
    obtain ⟨t', rfl⟩ := of_int r2
    obtain ⟨_, _, _, ws, n, e, rs⟩ := S.ar _ ha
    have hl : s.heap.IsList a ws.toArray := ⟨_, e, rfl, n, rfl⟩
    obtain ⟨w, hw, rw'⟩ := VRs.get rs j hv
    exact tail_item (T := "list") hl.typeIs slot_list_getitem.lookup (hs _ _) (getItem_list_at hl hlo hhi (j := j) (by rw [List.size_toArray, VRs.length rs]; exact hj) (by simpa using hw) (Post.mk S rw' h))⟩
theorem sub_tup {xs : List V} {i : Int} {j : Nat} {v : V} (hs : ∀ o i, subscripted slice false o i = operate [o, i] (getItem o i)) (hlo : -(2 ^ 63) ≤ i) (hhi : i < 2 ^ 63) (hj : seqIndex? i xs.length = some j) (hv : xs[j]? = some v) (h : Q v st) : Sub G A L value slice (.tup xs) (.int i) st Q :=
  ⟨fun K Z wo wi s S r1 r2 => by
    obtain ⟨a, ws, rfl, hz, rs⟩ := of_tup r1
    obtain ⟨t', rfl⟩ := of_int r2
    have hl := zseq_tup hz S.zz
    obtain ⟨w, hw, rw'⟩ := rs.get j hv
    exact tail_item (T := "tuple") hl.typeIs slot_tuple_getitem.lookup (hs _ _) (getItem_tuple hl hlo hhi (j := j) (by rw [List.size_toArray, rs.length]; exact hj) (by simpa using hw) (Post.mk S rw' h))⟩
end
end Mine

/-! part Ops3 -/
set_option maxRecDepth 100000
set_option Elab.async false
set_option linter.unusedVariables false
namespace Mine
open PySem PyProof.Rows PySem.Builtin.Re PySem.W PySem.Spec

mutual
def V.py : V → Option PyData
  | .none => some .none
  | .bool b => some (.bool b)
  | .int i => some (.int i)
  | .str x => some (.str x)
  | .tup xs => match V.pys xs with | some ds => some (.tuple ds) | Option.none => Option.none
  | .fl xs => match V.pys xs with | some ds => some (.list ds) | Option.none => Option.none
  | _ => Option.none
def V.pys : List V → Option (List PyData)
  | [] => some []
  | x :: xs => match V.py x, V.pys xs with | some d, some ds => some (d :: ds) | _, _ => Option.none
end

mutual
theorem vr_reads {Z : Zt} {h : Heap} (hz : ∀ b o, Z b = some o → h.get? b = some o) : ∀ (v : V) (w : Value) (d : PyData), V.py v = some d → VR Z v w → ∃ as, Reads h w d as
  | .none, w, d, e, r => by simp only [V.py] at e; cases e; rw [of_none r]; exact ⟨_, .none⟩
  | .bool b, w, d, e, r => by simp only [V.py] at e; cases e; rw [of_bool r]; exact ⟨_, .bool b⟩
  | .int i, w, d, e, r => by simp only [V.py] at e; cases e; obtain ⟨t, rfl⟩ := of_int r; exact ⟨_, .int i t⟩
  | .str x, w, d, e, r => by simp only [V.py] at e; cases e; obtain ⟨t, rfl⟩ := of_str r; exact ⟨_, .str x t⟩
  | .tup xs, w, d, e, r => by
    simp only [V.py] at e
    split at e
    · rename_i ds hd
      cases e
      obtain ⟨a, ws, rfl, ⟨o, ho, hc, n, hdat⟩, rs⟩ := of_tup r
      obtain ⟨as, ra⟩ := vrs_reads hz xs ws ds hd rs
      exact ⟨_, .tuple (hz _ _ ho) hc hdat (by simpa using ra)⟩
    · cases e
  | .fl xs, w, d, e, r => by
    simp only [V.py] at e
    split at e
    · rename_i ds hd
      cases e
      obtain ⟨a, ws, rfl, ⟨o, ho, hc, n, hdat⟩, rs⟩ := of_fl r
      obtain ⟨as, ra⟩ := vrs_reads hz xs ws ds hd rs
      exact ⟨_, .list (hz _ _ ho) hc hdat (by simpa using ra)⟩
    · cases e
  | .bytes _, _, _, e, _ | .list _, _, _, e, _ | .raw _, _, _, e, _ | .rng _ _ _, _, _, e, _ | .mat _ _, _, _, e, _ => by simp [V.py] at e
theorem vrs_reads {Z : Zt} {h : Heap} (hz : ∀ b o, Z b = some o → h.get? b = some o) : ∀ (xs : List V) (ws : List Value) (ds : List PyData), V.pys xs = some ds → VRs Z xs ws → ∃ as, ReadsAll h ws ds as
  | [], ws, ds, e, r => by simp only [V.pys] at e; cases e; rw [r.of_nil]; exact ⟨_, .nil⟩
  | x :: xs, ws, ds, e, r => by
    simp only [V.pys] at e
    split at e
    · rename_i d ds' h1 h2
      cases e
      obtain ⟨w, ws', rfl, r1, r2⟩ := r.of_cons
      obtain ⟨as, ra⟩ := vr_reads hz x w d h1 r1
      obtain ⟨bs, rb⟩ := vrs_reads hz xs ws' ds' h2 r2
      exact ⟨_, .cons ra rb⟩
    · cases e
end

/-- the data that a value is, an owned list too -/
inductive Rd (st : St) : V → PyData → Prop
  | pure {v : V} {d : PyData} : V.py v = some d → Rd st v d
  | own {a : Addr} {xs : List V} {ds : List PyData} : (a, xs) ∈ st.ar → V.pys xs = some ds → Rd st (.list a) (.list ds)

theorem Rd.reads {G : Gl} {K Z : Zt} {L : Addr} {st : St} {s : Shared} (S : Sim G K Z L st s) {v : V} {d : PyData} {w : Value} (h : Rd st v d) (r : VR Z v w) : ∃ as, Reads s.heap w d as := by
  cases h with
  | pure e => exact vr_reads S.zz v w d e r
  | own ha e =>
    rw [of_list r]
    obtain ⟨_, _, _, ws, n, ho, rs⟩ := S.ar _ ha
    obtain ⟨as, ra⟩ := vrs_reads S.zz _ ws _ e rs
    exact ⟨_, .list ho rfl rfl (by simpa using ra)⟩

section
variable {G : Gl} {A : Around} {L : Addr} {st : St} {Q : V → St → Prop} {a b : V} {da db : PyData}
theorem op_eq (ha : Rd st a da) (hb : Rd st b db) (la : da.canLay0 = true) (lb : db.canLay0 = true) (hu : A.units + min da.depth db.depth < cLine) (h : Q (.bool (PyData.eqv da db)) st) : Op2 G A L (compareOp .Eq) a b st Q := ⟨fun K Z w u s S r1 r2 => by
  obtain ⟨as, ra⟩ := ha.reads S r1
  obtain ⟨bs, rb⟩ := hb.reads S r2
  exact PySem.SeqAt.compareEq_reads ra rb la lb hu (Post.mk S vr_bool h)⟩
theorem op_ne (ha : Rd st a da) (hb : Rd st b db) (la : da.canLay0 = true) (lb : db.canLay0 = true) (hu : A.units + min da.depth db.depth < cLine) (h : Q (.bool (!PyData.eqv da db)) st) : Op2 G A L (compareOp .NotEq) a b st Q := ⟨fun K Z w u s S r1 r2 => by
  obtain ⟨as, ra⟩ := ha.reads S r1
  obtain ⟨bs, rb⟩ := hb.reads S r2
  exact PySem.SeqAt.compareNe_reads ra rb la lb hu (Post.mk S vr_bool h)⟩
end

/-! built-in calls -/
section
variable {G : Gl} {A : Around} {L : Addr} {st : St} {Q : V → St → Prop}
theorem cb_chr {i : Int} (h0 : 0 ≤ i) (h1 : i ≤ 1114111) (h : Q (.str ⟨#[i.toNat]⟩) st) : CB G A L "chr" [.int i] st Q := ⟨fun K Z ws s S r => by
  obtain ⟨w1, ws1, rfl, r1, r2⟩ := r.of_cons
  rw [r2.of_nil]
  obtain ⟨t, rfl⟩ := of_int r1
  exact chr_of_range h0 h1 (Post.mk S.toks vr_str h)⟩
theorem cb_len_fl {xs : List V} (hl : xs.length ≤ 16777216) (h : Q (.int xs.length) st) : CB G A L "len" [.fl xs] st Q := ⟨fun K Z ws s S r => by
  obtain ⟨w1, ws1, rfl, r1, r2⟩ := r.of_cons
  rw [r2.of_nil]
  obtain ⟨a, ws, rfl, hz, rs⟩ := of_fl r1
  refine PySem.Calls.call_len_list (zseq_list hz S.zz) (by rw [List.size_toArray, rs.length]; omega) ?_
  rw [List.size_toArray, rs.length]
  exact Post.mk S.toks vr_int h⟩
theorem cb_len_list {a : Addr} {xs : List V} (ha : (a, xs) ∈ st.ar) (hl : xs.length ≤ 16777216) (h : Q (.int xs.length) st) : CB G A L "len" [.list a] st Q := ⟨fun K Z ws s S r => by
  obtain ⟨w1, ws1, rfl, r1, r2⟩ := r.of_cons
  rw [r2.of_nil, of_list r1]
  obtain ⟨_, _, _, ws, n, ho, rs⟩ := S.ar _ ha
  have hrl : ws.length = xs.length := VRs.length rs
  refine PySem.Calls.call_len_list (items := ws.toArray) ⟨_, ho, rfl, n, rfl⟩ (by rw [List.size_toArray, hrl]; omega) ?_
  rw [List.size_toArray, hrl]
  exact Post.mk S.toks vr_int h⟩
theorem cb_len_str {x : Str} (hl : x.length ≤ 16777216) (h : Q (.int x.length) st) : CB G A L "len" [.str x] st Q := ⟨fun K Z ws s S r => by
  obtain ⟨w1, ws1, rfl, r1, r2⟩ := r.of_cons
  rw [r2.of_nil]
  obtain ⟨t, rfl⟩ := of_str r1
  exact P.len_str (by omega) (Post.mk S.toks vr_int h)⟩
end

/-- a call of a built-in class -/
structure CT (G : Gl) (A : Around) (L : Addr) (T : String) (vs : List V) (st : St) (Q : V → St → Prop) : Prop where
  run : ∀ K Z ws s, Sim G K Z L st s → VRs Z vs ws → wpAny G.M A (call (.type T) ws) (Post G K Z L VR Q) Nope s
section
variable {G : Gl} {A : Around} {env : Env} {L : Addr} {st : St} {Q : V → St → Prop} {pos : Pos}
theorem ev_tcall {x : Str} {p : Pos} {e : Expr} {es : List Expr} {T : String} (hp : (backTo pos (starEach (e :: es) env)).any (·.1) = false) (hs : starEach (e :: es) env = (false, eval e env) :: starEach es env)
    (h : Ev G A env (.Name x p) st fun v st₁ => v = .raw (.type T) ∧ Evs G A env (e :: es) st₁ fun vs st₂ => CT G A env.locals T vs st₂ Q) : Ev G A env (.Call (.Name x p) (e :: es) [] pos) st Q :=
  ⟨fun K Z s S => by
    show wpAny _ _ (eval (.Name x p) env >>= fun fv => callWith pos fv [] (backTo pos (starEach (e :: es) env)) []) _ _ s
    refine wpAny_bind (h.run.use S fun Z₁ v st₁ w s₁ z₁ S₁ r₁ ⟨hv, h₁⟩ => ?_)
    subst hv
    rw [of_raw r₁]
    refine PySem.callWith_type hp ?_
    have h2 := (h₁.run pos).use (P := fun vs s' => wpAny G.M A (call (.type T) ([] ++ vs) []) (Post G K Z env.locals VR Q) Nope s') S₁ fun Z₂ vs st₂ ws s₂ z₂ S₂ r₂ hc =>
      wpLe (z₁.trans z₂) (hc.run K Z₂ ws s₂ S₂ r₂)
    rw [hs] at h2 ⊢
    exact PySem.Calls.evalArgs_plain h2⟩
theorem vr_rng_new {K Z : Zt} {s : Shared} (S : Sim G K Z L st s) (a b c : Int) (t u v : Tok) {tk : Nat} :
    ∃ Z', Zle Z Z' ∧ Sim G K Z' L st { s with heap := s.heap.push { cls := .type "range", data := .fields #[.int a t, .int b u, .int c v] }, toks := tk } ∧ VR Z' (.rng a b c) (.ref s.heap.objs.size) := by
  have S₁ := S.push { cls := .type "range", data := .fields #[.int a t, .int b u, .int c v] } (tk := tk)
  obtain ⟨z, S₂⟩ := S₁.addZ (a := s.heap.objs.size) S.fresh (Heap.get?_push_size _ rfl)
  refine ⟨_, z, S₂, ?_⟩
  unfold VR
  exact ⟨_, t, u, v, rfl, Zset.self⟩
theorem ct_range1 {n : Int} (h : Q (.rng 0 n 1) st) : CT G A L "range" [.int n] st Q := ⟨fun K Z ws s S r => by
  obtain ⟨w1, ws1, rfl, r1, r2⟩ := r.of_cons
  rw [r2.of_nil]
  obtain ⟨t, rfl⟩ := of_int r1
  refine call_range_1 ?_
  obtain ⟨Z', z, S', r'⟩ := vr_rng_new S 0 n 1 s.toks t (s.toks + 1) (tk := s.toks + 1 + 1)
  exact ⟨Z', _, st, z, S', r', h⟩⟩
end
end Mine

/-! part Comp1 -/
set_option maxRecDepth 100000
set_option Elab.async false
set_option linter.unusedVariables false
namespace Mine
open PySem PyProof.Rows PySem.Builtin.Re PySem.W

def ifsTree (ifs : List Expr) (env : Env) : Sem Bool :=
  forIn ifs true fun c r => if r = true then do let ok ← isTrue c env (eval c env); pure (ForInStep.yield ok) else pure (ForInStep.yield r)

structure Ifs (G : Gl) (A : Around) (env : Env) (ifs : List Expr) (st : St) (Q : Bool → St → Prop) : Prop where
  run : Tri G A env.locals BR (ifsTree ifs env) st Q

section
variable {G : Gl} {A : Around} {env : Env} {st : St}
theorem ifs_nil {Q : Bool → St → Prop} (h : Q true st) : Ifs G A env [] st Q := ⟨fun K Z s S => wpAny_pure (Post.mk (R := BR) S rfl h)⟩
theorem ifs_one {c : Expr} {Q : Bool → St → Prop} (h : Tst G A env c st Q) : Ifs G A env [c] st Q := ⟨fun K Z s S => by
  unfold ifsTree
  rw [List.forIn_cons]
  simp only [if_true]
  refine wpAny_bind (wpAny_bind (h.run.use S fun Z₁ b st₁ c s₁ z₁ S₁ e q => wpAny_pure ?_))
  exact wpAny_pure ⟨Z₁, b, st₁, z₁, S₁, e, q⟩⟩
end

section
variable {prog : Program} {w : World} {A : Around} {s : Shared} {env : Env}
theorem codeAny_compTurn {R : Result → Shared → Prop} {elt target iter : Expr} {ifs : List Expr} {scope : Scope} {pos : Pos} {it acc : Value}
    (h : wpAny (model prog w) A (pyNext it) (fun r s₁ => match r with
      | none => R (.ok .next) s₁
      | some v => wpAny (model prog w) A (letOwnedTupleGo target it v) (fun _ s₁' =>
          wpAny (model prog w) A (assign target env v) (fun _ s₂ => wpAny (model prog w) A (ifsTree ifs env) (fun b s₃ =>
            if b then wpAny (model prog w) A (eval elt env) (fun x s₄ => wpAny (model prog w) A (call (.builtin "list.append") [acc, x]) (fun _ s₅ =>
              codeAny (model prog w) A (.compLoop (.ListComp elt [⟨target, iter, ifs, 0⟩] scope pos) 0 it acc env) R s₅) Nope s₄) Nope s₃
            else codeAny (model prog w) A (.compLoop (.ListComp elt [⟨target, iter, ifs, 0⟩] scope pos) 0 it acc env) R s₃) Nope s₂) Nope s₁') Nope s₁) Nope s) :
    codeAny (model prog w) A (.compLoop (.ListComp elt [⟨target, iter, ifs, 0⟩] scope pos) 0 it acc env) R s := by
  refine codeAny_of_tree ?_
  show wpAny _ (A.under (.compLoop (.ListComp elt [⟨target, iter, ifs, 0⟩] scope pos) 0 it acc env)) ((compTurn (.ListComp elt [⟨target, iter, ifs, 0⟩] scope pos) 0 it acc env).onRaise (fun x => do noteFrame x env; theTreesLotGoes x)) _ _ s
  rw [Around.under_of_weight (c := .compLoop (.ListComp elt [⟨target, iter, ifs, 0⟩] scope pos) 0 it acc env) rfl rfl]
  refine wpAny_onRaise (wpAny_mono (E := Nope) ?_ (fun _ _ q => q) fun _ _ x => x.elim)
  show wpAny _ _ (standAt iter.pos >>= fun _ => pyNext it >>= fun r => match r with
      | none => pure (.done .next)
      | some v => letOwnedTupleGo target it v >>= fun _ => assign target env v >>= fun _ => ifsTree ifs env >>= fun b =>
        (if b = true then (eval elt env >>= fun x => call (.builtin "list.append") [acc, x] >>= fun _ => pure ()) >>= fun _ =>
          again (.compLoop (.ListComp elt [⟨target, iter, ifs, 0⟩] scope pos) 0 it acc env) else again (.compLoop (.ListComp elt [⟨target, iter, ifs, 0⟩] scope pos) 0 it acc env))) _ _ s
  refine wpAny_bind (wpAny_standAt (wpAny_bind (wpAny_mono h (fun r s₁ h₁ => ?_) fun _ _ h' => h'.elim)))
  cases r with
  | none => exact wpAny_pure h₁
  | some v =>
    refine wpAny_bind (wpAny_mono h₁ (fun _ s₁' h₁' => ?_) fun _ _ h' => h'.elim)
    refine wpAny_bind (wpAny_mono h₁' (fun _ s₂ h₂ => wpAny_bind (wpAny_mono h₂ (fun b s₃ h₃ => ?_) fun _ _ h' => h'.elim)) fun _ _ h' => h'.elim)
    cases b with
    | true =>
      simp only [if_true] at h₃ ⊢
      exact wpAny_bind (wpAny_bind (wpAny_mono h₃ (fun x s₄ h₄ => wpAny_bind (wpAny_mono h₄ (fun _ s₅ h₅ => wpAny_pure (wpAny_pure ⟨rfl, h₅⟩)) fun _ _ h' => h'.elim)) fun _ _ h' => h'.elim))
    | false =>
      simp only [Bool.false_eq_true, if_false] at h₃ ⊢
      exact wpAny_pure ⟨rfl, h₃⟩
end
end Mine

/-! part Comp2 -/
set_option maxRecDepth 100000
set_option Elab.async false
set_option linter.unusedVariables false
namespace Mine
open PySem PyProof.Rows PySem.Builtin.Re PySem.W

/-- a list comprehension over the items that are left -/
structure CpT (G : Gl) (A : Around) (env : Env) (elt t iter : Expr) (ifs : List Expr) (scope : Scope) (pos : Pos) (D : Addr) (xs : List V) (st : St) (Q : St → Prop) : Prop where
  run : ∀ K Z s it done P o, Itr G A Z it (done ++ xs) P → Sim G K Z env.locals st s → s.heap.get? it = some o → P done.length o → ¬ Tracked G K Z env.locals st it →
    codeAny G.M A (.compLoop (.ListComp elt [⟨t, iter, ifs, 0⟩] scope pos) 0 (.ref it) (.ref D) env) (OkR (Post G K Z env.locals FR fun _ st' => Q st')) s

theorem not_tracked_K {G : Gl} {K K' Z : Zt} {L : Addr} {st : St} {s : Shared} {a : Addr} {o : Obj} (S : Sim G K Z L st s) (e : K a = some o) (hK : K' a = none) : ¬ Tracked G K' Z L st a := by
  rintro (⟨o', h⟩ | ⟨o', h⟩ | h | ⟨p, hp, h⟩ | ⟨t, ht, h⟩)
  · rw [hK] at h; cases h
  · rw [S.kz a o e] at h; cases h
  · subst h; rw [S.kL] at e; cases e
  · have := (S.ar p hp).1; rw [h, e] at this; cases this
  · have := (S.tb t ht).1; rw [h, e] at this; cases this

section
variable {G : Gl} {A : Around} {env : Env} {st : St} {elt t iter : Expr} {ifs : List Expr} {scope : Scope} {pos : Pos} {D : Addr}

theorem CpT.ent {xs : List V} {st₀ : St} {Q : St → Prop} (he : Ent G env.locals st st₀) (h : CpT G A env elt t iter ifs scope pos D xs st₀ Q) : CpT G A env elt t iter ifs scope pos D xs st Q :=
  ⟨fun K Z s it done P o I S ho hp ht => by
    have hK : K it = none := by
      cases q : K it with
      | none => rfl
      | some o' => exact absurd (.inl ⟨o', q⟩) ht
    have S₁ := S.addK ht ho
    obtain ⟨Z', z, S'⟩ := he _ _ _ S₁
    have ht' := not_tracked_dropK S' hK
    exact codeAny_mono (h.run K Z' s it done P o (I.mono z) (S'.lessK (Zset.le' hK)) ho hp ht') fun r s' hr => by
      cases r with
      | ok f => exact Post.le hr z
      | error x => exact hr⟩
theorem cp_nil {Q : St → Prop} (h : Q st) : CpT G A env elt t iter ifs scope pos D [] st Q :=
  ⟨fun K Z s it done P o I S ho hp ht => by
    refine codeAny_compTurn (I.done s o _ S.zz ho (by simpa using hp) fun h' hx => ?_)
    exact ⟨Z, .next, st, .refl, S.ext hx ht, rfl, h⟩⟩
theorem cp_cons {x : V} {xs : List V} {Q : St → Prop} (h : Asg G A env t x st fun st₁ => Ifs G A env ifs st₁ fun b st₂ =>
    if b then Ev G A env elt st₂ fun v st₃ => ∃ ys, (D, ys) ∈ st₃.ar ∧ ys.length ≤ 16000000 ∧ CpT G A env elt t iter ifs scope pos D xs ⟨st₃.loc, setA D (ys ++ [v]) st₃.ar⟩ Q
    else CpT G A env elt t iter ifs scope pos D xs st₂ Q) : CpT G A env elt t iter ifs scope pos D (x :: xs) st Q :=
  ⟨fun K Z s it done P o I S ho hp ht => by
    have hK : K it = none := by
      cases q : K it with
      | none => rfl
      | some o' => exact absurd (.inl ⟨o', q⟩) ht
    refine codeAny_compTurn (I.next (i := done.length) (v := x) (by simp) s o _ S.zz ho hp fun w h' tk o' r ho' hp' hsb => ?_)
    have S₁ : Sim G K Z env.locals st { s with heap := h', toks := tk } := S.ext hsb.extBut ht
    obtain ⟨T, vs, hT, hc, hd⟩ := I.kind _ _ hp'
    refine letOwned_ok ho' hT hc hd ?_
    refine wpAny_mono (h.run _ Z w _ (S₁.addK ht ho') r) (fun _ s₂ ⟨Z₂, _, st₂, z₂, S₂, _, h₂⟩ => ?_) fun _ _ x => x
    refine h₂.run.use S₂ fun Z₃ b st₃ c s₃ z₃ S₃ e h₃ => ?_
    cases e
    have again : ∀ {Z₄ : Zt} {st₄ : St} {s₄ : Shared}, Zle Z Z₄ → Sim G (Zset K it o') Z₄ env.locals st₄ s₄ → CpT G A env elt t iter ifs scope pos D xs st₄ Q →
        codeAny G.M A (.compLoop (.ListComp elt [⟨t, iter, ifs, 0⟩] scope pos) 0 (.ref it) (.ref D) env) (OkR (Post G K Z env.locals FR fun _ st' => Q st')) s₄ := fun {Z₄ st₄ s₄} z S₄ hf => by
      refine codeAny_mono (hf.run K Z₄ s₄ it (done ++ [x]) P o' (by rw [List.append_assoc]; exact I.mono z) (S₄.lessK (Zset.le' (o := o') hK)) (S₄.kk _ _ Zset.self) (by simpa using hp') (not_tracked_dropK S₄ hK)) fun r s' hr => ?_
      cases r with
      | ok f => exact Post.le hr z
      | error x => exact hr
    cases b with
    | false =>
      simp only [Bool.false_eq_true, if_false] at h₃ ⊢
      exact again (z₂.trans z₃) S₃ h₃
    | true =>
      simp only [if_true] at h₃ ⊢
      refine h₃.run.use S₃ fun Z₄ v st₄ u s₄ z₄ S₄ r₄ ⟨ys, hy, hyl, h₄⟩ => ?_
      have := (cb_append (G := G) (A := A) (L := env.locals) (st := st₄) (v := v) (Q := fun r st' => st' = ⟨st₄.loc, setA D (ys ++ [v]) st₄.ar⟩) hy hyl rfl).run _ Z₄ [.ref D, u] s₄ S₄ (.cons vr_list (.cons r₄ .nil))
      refine wpAny_mono this (fun _ s₅ ⟨Z₅, _, st₅, z₅, S₅, _, e⟩ => ?_) fun _ _ x => x
      subst e
      exact again (((z₂.trans z₃).trans z₄).trans z₅) S₅ h₄⟩

theorem ev_comp {cl : List (Str × Addr)} {Q : V → St → Prop} (hA : A.handled = none) (hclos : closureFor scope env = pure cl) (hcell : ∀ x ∈ scope.names, x.2 ≠ .cell) (hkind : scope.kind = .function) (hnames : ∀ x ∈ scope.names, x.2 = .local → scope.names.lookup x.1 = some .local)
    (hs : ∀ x, foldedSetIterable iter env x = pure x)
    (h : Ev G A env iter st fun v st₁ => ∃ v' st₂ xs, EntV G env.locals v st₁ v' st₂ ∧ iterItems v' = some xs ∧ ∀ C D, (∀ p ∈ st₂.ar, p.1 ≠ D) →
      CpT G A (compEnvC scope cl C env) elt t iter ifs scope pos D xs ⟨[], (D, []) :: st₂.ar⟩ fun st' => Q (.list D) ⟨st₂.loc, st'.ar⟩) :
    Ev G A env (.ListComp elt [⟨t, iter, ifs, 0⟩] scope pos) st Q := ⟨fun K Z s S => by
  rw [eval_ListComp]
  refine wpAny_comprehension_free (use := none) rfl hs hclos hkind hnames (h.run.use S fun Z₁ v st₁ w s₁ z₁ S₁ r₁ ⟨v', st₂, xs, he, hx, hf⟩ => ?_)
  obtain ⟨Z₂, z₂, S₂, r₂⟩ := he K Z₁ w s₁ S₁ r₁
  refine pyIter_use S₂ hA r₂ hx fun P o ho I hp => ?_
  have Sa := (S₂.push o (tk := s₁.toks)).addK (a := s₁.heap.objs.size) S₂.fresh (Heap.get?_push_size _ ho)
  have hKit : K s₁.heap.objs.size = none := by
    cases q : K s₁.heap.objs.size with
    | none => rfl
    | some o' => exact absurd (.inl ⟨o', q⟩) S₂.fresh
  have Sb := Sa.newList (vs := []) (ws := []) .nil
  have hD : ∀ p ∈ st₂.ar, p.1 ≠ (s₁.heap.push o).objs.size := fun p hp e => Sa.fresh (.inr (.inr (.inr (.inl ⟨p, hp, e⟩))))
  refine wpAny_newObj_type ?_
  refine wpAny_newFunctionEnv hcell (by intro y hy; simp at hy) (fun h₁ hns₁ hsb₁ => ?_) hkind
  obtain ⟨m, ⟨oL, es, ep, hL, hns⟩, hm⟩ := Sb.ns
  dsimp only at hns₁ hsb₁ hL ⊢
  have hk : ∀ b o', (((s₁.heap.push o).push { cls := .type "list", data := .seq ([] : List Value).toArray }).get? b = some o') → h₁.get? b = some o' := fun b o' e =>
    (hsb₁.2 b (Nat.ne_of_lt (Heap.lt_size e))).trans (Heap.get?_push_of_some _ e)
  have Sc := Sb.enter (binds := []) (tk := s₁.toks + ([] : List (Str × Value)).length) hL hk (Heap.get?_none_of_le (Nat.le_refl _)) hns₁ (fun x => trivial)
  have hLit : env.locals ≠ s₁.heap.objs.size := fun q => S₂.fresh (.inr (.inr (.inl q.symm)))
  have eit : Zset (Zset K s₁.heap.objs.size o) env.locals oL s₁.heap.objs.size = some o := by rw [Zset.ne (Ne.symm hLit)]; exact Zset.self
  have hKn : Zset K env.locals oL s₁.heap.objs.size = none := by rw [Zset.ne (Ne.symm hLit)]; exact hKit
  have hle : Zle (Zset K env.locals oL) (Zset (Zset K s₁.heap.objs.size o) env.locals oL) := fun b o' e => by
    unfold Zset at e ⊢
    split at e
    · rename_i q; rw [if_pos q]; exact e
    · rename_i q; rw [if_neg q, if_neg (fun q' => by rw [q', hKit] at e; cases e)]; exact e
  have Sd := Sc.lessK hle
  have hnt := not_tracked_K (K' := Zset K env.locals oL) Sc eit hKn
  have loop := (hf ((s₁.heap.push o).push { cls := .type "list", data := .seq ([] : List Value).toArray }).objs.size (s₁.heap.push o).objs.size hD).run _ Z₂ _ s₁.heap.objs.size [] P o I Sd (Sc.kk _ _ eit) hp hnt
  have Sb' := Sb.lessK (K' := K) (Zset.le' hKit)
  have fin : codeAny G.M A (.compLoop (.ListComp elt [⟨t, iter, ifs, 0⟩] scope pos) 0 (.ref s₁.heap.objs.size) (.ref (s₁.heap.push o).objs.size) (compEnvC scope cl ((s₁.heap.push o).push { cls := .type "list", data := .seq ([] : List Value).toArray }).objs.size env))
      (compPost G.M A Nope none (Post G K Z env.locals VR Q) (.ref (s₁.heap.push o).objs.size) ((s₁.heap.push o).push { cls := .type "list", data := .seq ([] : List Value).toArray }).objs.size) { s₁ with heap := h₁, toks := s₁.toks + ([] : List (Str × Value)).length } := by
    refine codeAny_mono loop fun r s' hr => ?_
    cases r with
    | error x => exact hr.elim
    | ok f =>
      obtain ⟨Z₃, _, st₃, z₃, S₃, _, hq⟩ := hr
      obtain ⟨loc₃, ar₃⟩ := st₃
      obtain ⟨m₃, hn₃, _⟩ := S₃.ns
      refine ⟨m₃, hn₃, fun h' hs' => ?_⟩
      have S₄ := Sb'.leave hL z₃ S₃
      have eL : Zset K env.locals oL env.locals = some oL := Zset.self
      have hnC : ¬ Tracked G K Z₃ env.locals ⟨st₂.loc, ar₃⟩ ((s₁.heap.push o).push { cls := .type "list", data := .seq ([] : List Value).toArray }).objs.size := by
        rintro (⟨o', h⟩ | ⟨o', h⟩ | h | ⟨p, hp, h⟩ | ⟨t, ht, h⟩)
        · exact nomatch (Zset.le' (o := oL) S₂.kL _ _ h).symm.trans S₃.kL
        · exact nomatch h.symm.trans S₃.zL
        · exact nomatch eL.symm.trans ((congrArg (Zset K env.locals oL) h.symm).trans S₃.kL)
        · exact (S₃.ar p hp).2.2.1 h
        · exact (S₃.tb t ht).2.2.1 h
      exact ⟨Z₃, .list _, _, (z₁.trans z₂).trans z₃, S₄.ext (tk := s'.toks) hs'.extBut hnC, vr_list, hq⟩
  exact codeAny_compStart_list fin (wpAny_mono (I.self 0 o _ (fun it' s' => it' = .ref s₁.heap.objs.size ∧ s' = { s₁ with heap := h₁, toks := s₁.toks + ([] : List (Str × Value)).length }) (Sc.kk _ _ eit) hp ⟨rfl, rfl⟩) (fun it' s' ⟨e1, e2⟩ => by subst e1; subst e2; exact fin) fun _ _ x => x.elim)⟩
end
end Mine

/-! part Ops4 -/
set_option maxRecDepth 100000
set_option Elab.async false
set_option linter.unusedVariables false
namespace Mine
open PySem PyProof.Rows PySem.Builtin.Re PySem.W

section
variable {G : Gl} {A : Around} {L : Addr} {st : St} {Q : V → St → Prop}
theorem op_neg {a : Int} (h : Q (.int (-a)) st) : Op1 G A L (unaryOp .USub) (.int a) st Q := ⟨fun K Z w s S r => by
  obtain ⟨t, rfl⟩ := of_int r
  exact PyProof.Rows.neg_int (Post.mk S.toks vr_int h)⟩
theorem op_in {x y : Str} (h : Q (.bool (Txt.contains x y)) st) : Op2 G A L (compareOp .In) (.str y) (.str x) st Q := ⟨fun K Z w u s S r1 r2 => by
  obtain ⟨t, rfl⟩ := of_str r1; obtain ⟨t', rfl⟩ := of_str r2
  exact SB.contains (Post.mk S vr_bool h)⟩
theorem op_notin {x y : Str} (h : Q (.bool (!Txt.contains x y)) st) : Op2 G A L (compareOp .NotIn) (.str y) (.str x) st Q := ⟨fun K Z w u s S r1 r2 => by
  obtain ⟨t, rfl⟩ := of_str r1; obtain ⟨t', rfl⟩ := of_str r2
  exact SB.notContains (Post.mk S vr_bool h)⟩
end

/-! slices -/
def PR (_ : Zt) (k : Option Int) (w : Value) : Prop := IsPart w k
structure Pt (G : Gl) (A : Around) (env : Env) (e : Option Expr) (st : St) (Q : Option Int → St → Prop) : Prop where
  run : Tri G A env.locals PR (evalPart e env) st Q
def cutL {α : Type} (xs : List α) (lo hi : Option Int) : List α := (xs.drop (lo.elim 0 (clipAt xs.length))).take (hi.elim xs.length (clipAt xs.length) - lo.elim 0 (clipAt xs.length))
section
variable {G : Gl} {A : Around} {env : Env} {st : St} {pos p : Pos}
theorem pt_none {Q : Option Int → St → Prop} (h : Q none st) : Pt G A env none st Q := ⟨fun K Z s S => wpAny_pure (Post.mk (R := PR) S IsPart.none h)⟩
theorem pt_some {e : Expr} {Q : Option Int → St → Prop} (h : Ev G A env e st fun v st₁ => ∃ i, v = .int i ∧ Q (some i) st₁) : Pt G A env (some e) st Q :=
  ⟨fun K Z s S => h.run.use S fun Z₁ v st₁ w s₁ z₁ S₁ r₁ ⟨i, hv, q⟩ => by
    subst hv
    obtain ⟨t, rfl⟩ := of_int r₁
    exact ⟨Z₁, some i, st₁, z₁, S₁, IsPart.int i t, q⟩⟩
theorem VRs.cut {Z : Zt} {xs : List V} {ws : List Value} (h : VRs Z xs ws) (lo hi : Option Int) : VRs Z (cutL xs lo hi) (cutL ws lo hi) := by
  unfold cutL
  rw [h.length]
  exact (h.drop _).take _
theorem ev_slice_list {value : Expr} {lo hi : Option Expr} {Q : V → St → Prop} (ht : ∀ o r, letTemporaryGo value o r = pure ())
    (h : Ev G A env value st fun o st₁ => Pt G A env lo st₁ fun l st₂ => Pt G A env hi st₂ fun u st₃ => ∃ xs, (o = .fl xs ∨ ∃ a, o = .list a ∧ (a, xs) ∈ st₃.ar) ∧ xs.length ≤ 16777216 ∧
      ∀ D, (∀ p ∈ st₃.ar, p.1 ≠ D) → Q (.list D) ⟨st₃.loc, (D, cutL xs l u) :: st₃.ar⟩) : Ev G A env (.Subscript value (.Slice lo hi none p) pos) st Q := ⟨fun K Z s S => by
  refine wpAny_Subscript_list_slice (h.run.use S fun Z₁ o st₁ w s₁ z₁ S₁ r₁ h₁ => h₁.run.use S₁ fun Z₂ l st₂ vl s₂ z₂ S₂ r₂ h₂ => h₂.run.use S₂ fun Z₃ u st₃ vu s₃ z₃ S₃ r₃ h₃ => ?_) ht
  obtain ⟨xs, ho, hxl, hq⟩ := h₃
  have r₁' := VR.mono (z₂.trans z₃) _ _ r₁
  have key : ∃ a ws, w = .ref a ∧ s₃.heap.IsList a ws.toArray ∧ VRs Z₃ xs ws := by
    rcases ho with rfl | ⟨a, rfl, ha⟩
    · obtain ⟨a, ws, rfl, hz, hr⟩ := of_fl r₁'
      exact ⟨a, ws, rfl, zseq_list hz S₃.zz, hr⟩
    · rw [of_list r₁']
      obtain ⟨_, _, _, ws, n, e, hr⟩ := S₃.ar _ ha
      exact ⟨a, ws, rfl, ⟨_, e, rfl, n, rfl⟩, hr⟩
  obtain ⟨a, ws, rfl, hl, hr⟩ := key
  refine ⟨a, ws.toArray, l, u, rfl, hl, by rw [List.size_toArray, hr.length, sizeLine_eq]; exact hxl, r₂, r₃, ?_⟩
  have Sp := S₃.push { cls := .type "slice", data := .fields #[vl, vu, .none] } (tk := s₃.toks)
  have Sq := Sp.newList (hr.cut l u)
  have e1 : slicePick ws.toArray l u none = (cutL ws l u).toArray := by
    rw [slicePick_plain]; unfold cutL; simp
  rw [e1]
  have hsz : (s₃.heap.push { cls := .type "slice", data := .fields #[vl, vu, .none] }).objs.size = s₃.heap.objs.size + 1 := Heap.size_push ..
  rw [← hsz]
  exact ⟨Z₃, .list _, _, (z₁.trans z₂).trans z₃, Sq, vr_list, hq _ fun p hp e => Sp.fresh (.inr (.inr (.inr (.inl ⟨p, hp, e⟩))))⟩⟩
end

/-! an item of an owned list is set -/
section
variable {prog : Program} {w : World} {A : Around} {E : Value → Shared → Prop} {s : Shared}
theorem setItem_last {l : Addr} {items : Array Value} {n : Nat} {t : Tok} {v : Value} {Q : Unit → Shared → Prop} (ho : s.heap.get? l = some ⟨.type "list", none, .seq items n, #[]⟩) (hn : 0 < items.size)
    (hQ : Q () { s with heap := s.heap.update l (Obj.mapSeq (·.setIfInBounds (items.size - 1) v)) }) :
    wpAny (model prog w) A (setItem (.ref l) (.int (-1) t) v) Q E s := by
  have hl : s.heap.IsList l items := ⟨_, ho, rfl, n, rfl⟩
  unfold setItem
  try with_reducible refine wpAny_holding ?_
  first | refine wpAny_bind (wpAny_pure ?_) | skip
  refine wpAny_bind (wpAny_sequenceKey hl.typeIs (by decide) ?_)
  refine wpAny_bind (wpAny_callSpecial?_slot (name := Str.ofString "__setitem__") hl.typeIs slot_list_setitem
    (wpAny_call_entry slot_list_setitem hl.typeIs entry_list_setitem ?_ (args_list_setitem _ _ _)))
  show wpAny _ _ (Builtin.List.listSubscript? (.int (-1) t) >>= _) _ _ s
  refine wpAny_bind (wpAny_listSubscript_int (fitsIndex_neg (by decide) (by decide)) ?_)
  have hidx := seqIndex_last hn
  show wpAny _ _ ((Builtin.List.listItems (.ref l) >>= fun xs => pure ((seqIndex? (-1) xs.size).bind fun i => xs[i]?.map (i, ·))) >>= _) _ _ s
  refine wpAny_bind (wpAny_bind ?_)
  show wpAny _ _ (seqItems? (.ref l) >>= _) _ _ s
  refine wpAny_bind (wpAny_seqItems ho rfl (wpAny_pure (wpAny_pure ?_)))
  rw [hidx]
  have hx : items[items.size - 1]? = some items[items.size - 1] := Array.getElem?_eq_getElem (by omega)
  simp only [Option.bind_some, hx, Option.map_some]
  show wpAny _ _ (setSeqItemAt l (items.size - 1) v >>= _) _ _ s
  refine wpAny_bind (wpAny_setSeqItemAt ho rfl ?_)
  first
    | exact wpAny_bind (wpAny_pure (wpAny_pure ⟨.none, rfl, wpAny_pure hQ⟩))
    | exact wpAny_pure ⟨.none, rfl, wpAny_pure hQ⟩
end
section
variable {G : Gl} {A : Around} {env : Env} {st : St} {pos p : Pos}
theorem VRs.setLast {Z : Zt} {xs : List V} {x v : V} {ws : List Value} {u : Value} (h : VRs Z (xs ++ [x]) ws) (r : VR Z v u) : VRs Z (xs ++ [v]) (ws.set (ws.length - 1) u) := by
  induction xs generalizing ws with
  | nil =>
    obtain ⟨w, ws', rfl, h1, h2⟩ := h.of_cons
    rw [h2.of_nil]
    exact .cons r .nil
  | cons y xs ih =>
    obtain ⟨w, ws', rfl, h1, h2⟩ := h.of_cons
    have h3 := ih h2
    have hl' := h2.length
    have hpos : 0 < ws'.length := by rw [hl']; simp
    have e : (w :: ws').set ((w :: ws').length - 1) u = w :: ws'.set (ws'.length - 1) u := by
      rw [List.length_cons, show ws'.length + 1 - 1 = (ws'.length - 1) + 1 by omega, List.set_cons_succ]
    rw [e]
    exact .cons h1 h3
theorem ex_setlast {o i value : Expr} {Q : Fl → St → Prop} (hs : swapsWith value (some (.Subscript o i p)) pos.line env = pure false)
    (h : Ev G A env value st fun v st₁ => Ev G A env o st₁ fun ov st₂ => Ev G A env i st₂ fun iv st₃ => iv = .int (-1) ∧ ∃ a xs x, ov = .list a ∧ (a, xs ++ [x]) ∈ st₃.ar ∧ Q .next ⟨st₃.loc, setA a (xs ++ [v]) st₃.ar⟩) :
    Ex G A env (.Assign [.Subscript o i p] value pos) st Q := ⟨fun K Z s S => by
  refine wpAny_Assign_Subscript (h.run.use S fun Z₁ v st₁ w s₁ z₁ S₁ r₁ h₁ => h₁.run.use S₁ fun Z₂ ov st₂ u s₂ z₂ S₂ r₂ h₂ => h₂.run.use S₂ fun Z₃ iv st₃ ui s₃ z₃ S₃ r₃ h₃ => ?_) hs
  obtain ⟨rfl, a, xs, x, rfl, ha, q⟩ := h₃
  obtain ⟨t, rfl⟩ := of_int r₃
  rw [of_list r₂]
  obtain ⟨_, _, _, ws, n, e, hr⟩ := S₃.ar _ ha
  have hr' : VRs Z₃ (xs ++ [x]) ws := hr
  have hlen : 0 < ws.length := by rw [hr'.length]; simp
  refine setItem_last e (by simpa using hlen) ?_
  have rv := VR.mono (z₂.trans z₃) _ _ r₁
  refine ⟨Z₃, .next, _, (z₁.trans z₂).trans z₃, S₃.setList (tk := s₃.toks) (ws' := ws.set (ws.length - 1) w) (n' := n) ha (Heap.SameBut.update ..) ?_ (hr'.setLast rv), rfl, q⟩
  rw [Heap.get?_update_self _ e rfl]
  simp [Obj.mapSeq]⟩
end
end Mine

/-! part Cell1 -/
set_option maxRecDepth 100000
set_option Elab.async false
set_option linter.unusedVariables false
namespace Mine
open PySem PyProof.Rows PySem.Builtin.Re PySem.W

def Gl.cell (G : Gl) (c : Addr) (v : V) : Gl := { G with cells := (c, v) :: G.cells }
theorem GlOk.cell {G : Gl} (O : GlOk G) (c : Addr) (v : V) : GlOk (G.cell c v) := ⟨O.g, O.b, O.nolimit, O.nodigits, O.bm, O.tabs⟩

theorem Sim.uncell {G : Gl} {K Z : Zt} {L : Addr} {st : St} {s : Shared} {c : Addr} {v : V} (S : Sim (G.cell c v) K Z L st s) : Sim G K Z L st s where
  kk := S.kk
  zz := S.zz
  kz := S.kz
  bz := S.bz
  ns := S.ns
  kL := S.kL
  zL := S.zL
  ar := S.ar
  nd := S.nd
  tb := S.tb
  gens := S.gens
  os := S.os
  cl p hp := S.cl p (.tail _ hp)
theorem Sim.fillcell {G : Gl} {K Z : Zt} {L : Addr} {st : St} {s : Shared} {c : Addr} {v : V} (S : Sim G K Z L st s) (h : ∃ o w, Z c = some o ∧ o.data = .cell (some w) ∧ VR Z v w) : Sim (G.cell c v) K Z L st s where
  kk := S.kk
  zz := S.zz
  kz := S.kz
  bz := S.bz
  ns := S.ns
  kL := S.kL
  zL := S.zL
  ar := S.ar
  nd := S.nd
  tb := S.tb
  gens := S.gens
  os := S.os
  cl p hp := by
    rcases List.mem_cons.mp hp with rfl | hp
    · exact h
    · exact S.cl p hp

section
variable {G : Gl} {A : Around} {env : Env} {st : St} {pos : Pos}
theorem ev_cell {x : Str} {c : Addr} {v : V} {Q : V → St → Prop} (hk : env.scope.kind = .function) (hl : env.kindOf x = some .cell) (hc : env.cells.lookup x = some c) (hm : (c, v) ∈ G.cells) (hd : (x == ("__debug__" : Str)) = false) (h : Q v st) :
    Ev G A env (.Name x pos) st Q := ⟨fun K Z s S => by
  obtain ⟨o, w, hz, hdat, r⟩ := S.cl _ hm
  exact wpAny_Name (wpAny_loadName_cell hk hl hc ⟨o, S.zz _ _ hz, hdat⟩ (Post.mk S r h)) hd⟩
theorem Ev.entv {e : Expr} {Q : V → St → Prop} (h : Ev G A env e st fun v st₁ => ∃ v' st₂, EntV G env.locals v st₁ v' st₂ ∧ Q v' st₂) : Ev G A env e st Q :=
  ⟨fun K Z s S => h.run.use S fun Z₁ v st₁ w s₁ z₁ S₁ r₁ ⟨v', st₂, he, q⟩ => by
    obtain ⟨Z₂, z₂, S₂, r₂⟩ := he K Z₁ w s₁ S₁ r₁
    exact ⟨Z₂, v', st₂, z₁.trans z₂, S₂, r₂, q⟩⟩
end

theorem bindL_local {kindOf : Str → Option NameKind} : ∀ (binds : List (Str × Value)) (m : Str → Option Value), (∀ p ∈ binds, kindOf p.1 = some .local) → ∀ y, bindL kindOf binds m y = (match binds.reverse.lookup y with | some v => some v | none => m y)
  | [], m, _, y => rfl
  | (n, v) :: r, m, h, y => by
    show bindL kindOf r _ y = _
    rw [bindL_local r _ (fun p hp => h p (.tail _ hp)) y, List.reverse_cons, List.lookup_append]
    have : kindOf n = some .local := h (n, v) (.head _)
    rw [if_pos this]
    cases List.lookup y r.reverse with
    | some u => rfl
    | none =>
      simp only [Option.none_or, List.lookup_cons, List.lookup_nil]
      by_cases e : y = n
      · subst e; simp
      · have : (y == n) = false := by simpa using e
        simp [this, e]
theorem bindC_local {kindOf : Str → Option NameKind} : ∀ (binds : List (Str × Value)) (m : Str → Option Value), (∀ p ∈ binds, kindOf p.1 = some .local) → bindC kindOf binds m = m
  | [], m, _ => rfl
  | (n, v) :: r, m, h => by
    show bindC kindOf r _ = _
    rw [if_pos (h (n, v) (.head _))]
    exact bindC_local r m fun p hp => h p (.tail _ hp)

/-- a def with one cell -/
structure FnC (G : Gl) (f : Addr) (name : Str) (ps : List Str) (body : List Stmt) (scope : Scope) (cd : Value) (x : Str) : Prop where
  obj : ∃ o params pm doc, G.base.get? f = some o ∧ o.data = .func (PySem.Calls.docDef name params body scope pm cd doc) ∧ (∀ ws, ws.length = ps.length → bindArgs (PySem.Calls.docDef name params body scope pm cd doc) ⟨ws, []⟩ = pure (ps.zip ws))
  code : G.base.CodeRec cd name
  loc : ∀ x ∈ ps, scope.names.lookup x = some .local
  co : scope.isCoroutine = false
  gen : scope.isGenerator = false
  kind : scope.kind = .function
  cells : ∀ n, cellsFrom n scope.names [] = [(x, n)]
  isc : scope.names.lookup x = some .cell

section
variable {G : Gl} {A : Around}
theorem fn_call_cell {f : Addr} {name x : Str} {ps : List Str} {e : Expr} {p' p : Pos} {body : List Stmt} {scope : Scope} {cd : Value} {vs : List V} {ar : List (Addr × List V)} {Q : V → List (Addr × List V) → Prop}
    (O : GlOk G) (Fu : FnC G f name ps (.Assign [.Name x p'] e p :: body) scope cd x) (hroom : A.depth < recursionLimit) (hl : vs.length = ps.length)
    (hs : ∀ L', swapsWith e (some (.Name x p')) p.line (envOfC name scope L' f cd) = pure false)
    (h : ∀ L', Ev G (A.deeper (envOfC name scope L' f cd)) (envOfC name scope L' f cd) e ⟨(ps.zip vs).reverse, ar⟩ fun v st₁ =>
      Exs (G.cell (L' + 1) v) (A.deeper (envOfC name scope L' f cd)) (envOfC name scope L' f cd) body st₁ fun fl st' => Q (retOf fl) st'.ar) : Calls G A f vs ar Q :=
  ⟨fun K Z ws s L loc S r => by
    obtain ⟨o, params, pm, doc, ho, hd, hb⟩ := Fu.obj
    obtain ⟨m, ⟨oL, es, ep, hL, hns⟩, hm⟩ := S.ns
    have hloc : ∀ y ∈ ps.zip ws, scope.names.lookup y.1 = some .local := fun y hy => Fu.loc _ (List.of_mem_zip (a := y.1) (b := y.2) hy).1
    refine wpAny_call (call_cells_ret hroom (S.base _ _ ho) hd (O.nolimit.keeps S.base) (Fu.code.keeps S.base) (hb ws (by rw [r.length, hl])) (fun y hy => .inl (hloc y hy)) (fun h₁ tk F X => ?_) Fu.co Fu.gen Fu.kind)
    have hcs : (envOfC name scope s.heap.objs.size f cd).cells = [(x, s.heap.objs.size + 1)] := Fu.cells _
    have hcx : (envOfC name scope s.heap.objs.size f cd).cells.lookup x = some (s.heap.objs.size + 1) := by rw [hcs]; simp
    have hX := X.cell x (s.heap.objs.size + 1) hcx
    rw [bindC_local _ _ hloc] at hX
    obtain ⟨oc, hoc, hdc⟩ := hX
    have S₁ := S.enter (tk := tk) (binds := (ps.zip vs).reverse) hL F.keep (Heap.get?_none_of_le (Nat.le_refl _)) F.ns (fun y => by
      rw [bindL_local _ _ hloc]
      have := lookup_zip_rev (ps := ps) r y
      revert this
      cases List.lookup y (ps.zip ws).reverse with
      | some u => exact id
      | none => exact id)
    have hnt : ¬ Tracked G (Zset K L oL) Z s.heap.objs.size ⟨(ps.zip vs).reverse, ar⟩ (s.heap.objs.size + 1) := by
      have lt : ∀ b ob, s.heap.get? b = some ob → b ≠ s.heap.objs.size + 1 := fun b ob e q => Nat.ne_of_lt (Nat.lt_succ_of_lt (Heap.lt_size e)) q
      rintro (⟨o', h⟩ | ⟨o', h⟩ | h | ⟨p, hp, h⟩ | ⟨t, ht, h⟩)
      · unfold Zset at h
        split at h
        · rename_i q; exact lt L oL hL q.symm
        · exact lt _ _ (S.kk _ _ h) rfl
      · exact lt _ _ (S.zz _ _ h) rfl
      · exact Nat.succ_ne_self _ h
      · obtain ⟨_, _, _, us, n, e, _⟩ := S.ar p hp; exact lt _ _ e h
      · obtain ⟨_, _, _, _, us, e, _⟩ := S.tb t ht; exact lt _ _ e h
    have hKc : Zset K L oL (s.heap.objs.size + 1) = none := by
      cases q : Zset K L oL (s.heap.objs.size + 1) with
      | none => rfl
      | some o' => exact absurd (.inl ⟨o', q⟩) hnt
    have S₂ := S₁.addK hnt hoc
    refine wpAny_execs_cons (wpAny_Assign_Name ((h s.heap.objs.size).run.use S₂ fun Z₃ v st₃ w s₃ z₃ S₃ r₃ h₃ => ?_) (hs _))
    have hoc₃ := S₃.kk _ _ (Zset.self (Z := Zset K L oL) (a := s.heap.objs.size + 1) (o := oc))
    refine wpAny_storeName_cell Fu.kind Fu.isc hcx ⟨oc, hoc₃, hdc⟩ fun h' ⟨oc', hoc', hdc'⟩ hsb => ?_
    have hnt₃ := not_tracked_dropK S₃ hKc
    have S₄ := (S₃.lessK (Zset.le' hKc)).ext (tk := s₃.toks) hsb.extBut hnt₃
    obtain ⟨z₅, S₅⟩ := S₄.addZ hnt₃ hoc'
    have S₆ := S₅.fillcell (c := s.heap.objs.size + 1) (v := v) ⟨oc', w, Zset.self, hdc', VR.mono z₅ _ _ r₃⟩
    refine wpAny_mono (h₃.run _ _ _ S₆) (fun fl s' ⟨Z', fv, st', z, S', rf, q⟩ => ?_) fun _ _ x => x
    have S'' := S.leave hL ((z₃.trans z₅).trans z) S'.uncell
    have zz := (z₃.trans z₅).trans z
    cases fv with
    | next => cases rf; exact ⟨Z', .none, _, zz, S'', vr_none, rfl, q⟩
    | brk => cases rf; exact ⟨Z', .none, _, zz, S'', vr_none, rfl, q⟩
    | cont => cases rf; exact ⟨Z', .none, _, zz, S'', vr_none, rfl, q⟩
    | ret v => obtain ⟨w, rfl, rv⟩ := rf; exact ⟨Z', v, _, zz, S'', rv, rfl, q⟩⟩
end
end Mine

/-! part Comp3 -/
set_option maxRecDepth 100000
set_option Elab.async false
set_option linter.unusedVariables false
namespace Mine
open PySem PyProof.Rows PySem.Builtin.Re PySem.W

section
variable {G : Gl} {A : Around} {env : Env} {elt t iter : Expr} {ifs : List Expr} {scope : Scope} {pos : Pos} {D : Addr}
/-- a comprehension that picks and maps -/
theorem cp_map {β : Type} (f : β → V) (p : β → Bool) (g : β → V) (xs : List β) {ar : List (Addr × List V)} {Q : St → Prop} (hlen : xs.length ≤ 16000000)
    (turn : ∀ x ∈ xs, ∀ ys, Asg G A env t (f x) ⟨[], (D, ys) :: ar⟩ fun st₁ => Ifs G A env ifs st₁ fun b st₂ => b = p x ∧
      if b then Ev G A env elt st₂ fun v st₃ => v = g x ∧ st₃.ar = (D, ys) :: ar else st₂.ar = (D, ys) :: ar)
    (fin : ∀ l, Q ⟨l, (D, (xs.filter p).map g) :: ar⟩) : CpT G A env elt t iter ifs scope pos D (xs.map f) ⟨[], (D, []) :: ar⟩ Q := by
  have key : ∀ (rest done : List β), xs = done ++ rest → CpT G A env elt t iter ifs scope pos D (rest.map f) ⟨[], (D, (done.filter p).map g) :: ar⟩ Q := by
    intro rest
    induction rest with
    | nil => intro done e; rw [List.append_nil] at e; subst e; exact cp_nil (fin [])
    | cons x rest ih =>
      intro done e
      have hlen' : ((done.filter p).map g).length ≤ 16000000 := by
        have h1 := List.length_filter_le p done
        rw [e] at hlen
        simp only [List.length_append, List.length_map] at hlen ⊢
        omega
      have ht := turn x (by rw [e]; exact List.mem_append_right _ (.head _)) ((done.filter p).map g)
      have ih' := ih (done ++ [x]) (by rw [e]; simp)
      refine cp_cons (ht.mono fun st₁ h₁ => ⟨fun K Z s S => wpAny_mono (h₁.run K Z s S) (fun b s' ⟨Z', c, st', z, S', eb, h₂⟩ => ⟨Z', c, st', z, S', eb, ?_⟩) fun _ _ q => q⟩)
      obtain ⟨hc, h₂⟩ := h₂
      cases c with
      | false =>
        simp only [Bool.false_eq_true, if_false] at h₂ ⊢
        have e1 : (done ++ [x]).filter p = done.filter p := by rw [List.filter_append]; simp [← hc]
        rw [e1] at ih'
        obtain ⟨l, a⟩ := st'
        subst h₂
        exact CpT.ent (ent_loc .nil) ih'
      | true =>
        simp only [if_true] at h₂ ⊢
        refine h₂.mono fun v st₃ ⟨hv, har⟩ => ?_
        obtain ⟨l, a⟩ := st₃
        subst hv; subst har
        refine ⟨_, .head _, hlen', ?_⟩
        have e1 : ((done ++ [x]).filter p).map g = (done.filter p).map g ++ [g x] := by rw [List.filter_append]; simp [← hc]
        rw [e1] at ih'
        refine CpT.ent (st₀ := ⟨[], (D, (done.filter p).map g ++ [g x]) :: ar⟩) (ent_set ?_ .nil) ih'
        simp [setA]
  exact key xs [] rfl
end

theorem contains_one (x : Str) (c : Nat) : Txt.contains x ⟨#[c]⟩ = x.cps.toList.contains c := by
  have h := StrLaws.found_iff x ⟨#[c]⟩
  have h2 : (∃ i, i + (⟨#[c]⟩ : Str).length ≤ x.length ∧ Builtin.Str.subAt x ⟨#[c]⟩ i = true) ↔ c ∈ x.cps.toList := by
    constructor
    · rintro ⟨i, hi⟩
      exact List.mem_of_getElem? ((StrLaws.subAt_one x c i).mp hi)
    · intro hm
      obtain ⟨i, hi⟩ := List.getElem?_of_mem hm
      exact ⟨i, (StrLaws.subAt_one x c i).mpr hi⟩
  have h3 : Txt.contains x ⟨#[c]⟩ = true ↔ c ∈ x.cps.toList := h.trans h2
  cases q : Txt.contains x ⟨#[c]⟩ with
  | true => exact (List.contains_iff_mem.mpr (h3.mp q)).symm
  | false =>
    cases r : x.cps.toList.contains c with
    | false => rfl
    | true => rw [h3.mpr (List.contains_iff_mem.mp r)] at q; cases q
end Mine

/-! part Ops5 -/
set_option maxRecDepth 100000
set_option Elab.async false
set_option linter.unusedVariables false
namespace Mine
open PySem PyProof.Rows PySem.Builtin.Re PySem.W PySem.Spec

abbrev okS (x : Str) : Prop := PyData.strOk x = true
theorem okS_append {x y : Str} (hx : okS x) (hy : okS y) : okS (x ++ y) := by
  show Array.all (x.cps ++ y.cps) (· < 0x110000) = true
  rw [Array.all_append]
  exact Bool.and_eq_true_iff.mpr ⟨hx, hy⟩
theorem okS_one {c : Nat} (h : c < 0x110000) : okS ⟨#[c]⟩ := by
  show Array.all #[c] (· < 0x110000) = true
  simpa using h
theorem okS_mem {x : Str} (h : okS x) {c : Nat} (hc : c ∈ x.cps.toList) : c < 0x110000 := by
  have := Array.all_eq_true_iff_forall_mem.mp h c (by simpa using hc)
  simpa using this
theorem okS_of {x : Str} (h : ∀ c ∈ x.cps.toList, c < 0x110000) : okS x :=
  Array.all_eq_true_iff_forall_mem.mpr fun c hc => by simpa using h c (by simpa using hc)

theorem pys_map {β : Type} (f : β → V) (g : β → PyData) (h : ∀ x, V.py (f x) = some (g x)) : ∀ l : List β, V.pys (l.map f) = some (l.map g)
  | [] => by simp [V.pys]
  | x :: l => by simp [V.pys, h x, pys_map f g h l]
theorem lay_map {β : Type} (g : β → PyData) : ∀ l : List β, (∀ x ∈ l, (g x).canLay0 = true) → PyData.canLayAll0 (l.map g) = true
  | [], _ => by simp [PyData.canLayAll0]
  | x :: l, h => by
    simp only [List.map_cons, PyData.canLayAll0, Bool.and_eq_true]
    exact ⟨h x (.head _), lay_map g l fun y hy => h y (.tail _ hy)⟩
theorem eqvAll_nil (ds : List PyData) : PyData.eqvAll ds [] = ds.isEmpty := by cases ds <;> simp [PyData.eqvAll]

section
variable {G : Gl} {A : Around} {L : Addr} {st : St} {Q : V → St → Prop}
theorem rd_nil {b : Addr} (hb : (b, []) ∈ st.ar) : Rd st (.list b) (.list []) := .own hb (by simp [V.pys])
theorem pys_isEmpty : ∀ {xs : List V} {ds : List PyData}, V.pys xs = some ds → ds.isEmpty = xs.isEmpty
  | [], ds, h => by simp [V.pys] at h; subst h; rfl
  | x :: xs, ds, h => by
    simp only [V.pys] at h
    split at h
    · cases h; rfl
    · cases h
theorem op_eq_nil {a : V} {b : Addr} {xs : List V} {ds : List PyData} (ha : a = .fl xs ∨ ∃ c, a = .list c ∧ (c, xs) ∈ st.ar) (hb : (b, []) ∈ st.ar) (hp : V.pys xs = some ds) (hl : PyData.canLayAll0 ds = true) (hu : A.units + 1 < cLine) (h : Q (.bool xs.isEmpty) st) :
    Op2 G A L (compareOp .Eq) a (.list b) st Q := by
  have hr : Rd st a (.list ds) := by
    rcases ha with rfl | ⟨c, rfl, hc⟩
    · exact .pure (by simp [V.py, hp])
    · exact .own hc hp
  refine op_eq hr (rd_nil hb) (by simpa [PyData.canLay0] using hl) (by simp [PyData.canLay0, PyData.canLayAll0]) ?_ ?_
  · have : (PyData.list []).depth = 1 := by simp [PyData.depth, PyData.depthAll]
    rw [this]; omega
  · have : PyData.eqv (.list ds) (.list []) = xs.isEmpty := by rw [PyData.eqv, eqvAll_nil, pys_isEmpty hp]
    rw [this]; exact h
theorem op_ne_nil {a : V} {b : Addr} {xs : List V} {ds : List PyData} (ha : a = .fl xs ∨ ∃ c, a = .list c ∧ (c, xs) ∈ st.ar) (hb : (b, []) ∈ st.ar) (hp : V.pys xs = some ds) (hl : PyData.canLayAll0 ds = true) (hu : A.units + 1 < cLine) (h : Q (.bool (!xs.isEmpty)) st) :
    Op2 G A L (compareOp .NotEq) a (.list b) st Q := by
  have hr : Rd st a (.list ds) := by
    rcases ha with rfl | ⟨c, rfl, hc⟩
    · exact .pure (by simp [V.py, hp])
    · exact .own hc hp
  refine op_ne hr (rd_nil hb) (by simpa [PyData.canLay0] using hl) (by simp [PyData.canLay0, PyData.canLayAll0]) ?_ ?_
  · have : (PyData.list []).depth = 1 := by simp [PyData.depth, PyData.depthAll]
    rw [this]; omega
  · have : PyData.eqv (.list ds) (.list []) = xs.isEmpty := by rw [PyData.eqv, eqvAll_nil, pys_isEmpty hp]
    rw [this]; exact h
end
end Mine

/-! part Ops6 -/
set_option maxRecDepth 100000
set_option Elab.async false
set_option linter.unusedVariables false
namespace Mine
open PySem PyProof.Rows PySem.Builtin.Re PySem.W PySem.Spec

theorem ent_tail {G : Gl} {L : Addr} {l : List (Str × V)} {ar ar₀ : List (Addr × List V)} : Ent G L ⟨l, ar ++ ar₀⟩ ⟨l, ar₀⟩ :=
  ent_less (fun _ _ h => h) (fun p hp => List.mem_append_right _ hp) fun h => by rw [List.map_append] at h; exact (List.nodup_append.mp h).2.1

section
variable {G : Gl} {A : Around} {env : Env} {st : St} {pos : Pos} {Q : V → St → Prop}
theorem Evs.mono {es : List Expr} {Q Q' : List V → St → Prop} (h : Evs G A env es st Q) (hQ : ∀ v st', Q v st' → Q' v st') : Evs G A env es st Q' := ⟨fun p => (h.run p).mono hQ⟩
/-- a call of a def whose lists are forgotten -/
theorem ev_callp {x : Str} {p : Pos} {es : List Expr} {e : Expr} {f : Addr} (hn : ∃ o fd, G.base.get? f = some o ∧ o.data = .func fd) (hp : (backTo pos (starEach (e :: es) env)).any (·.1) = false) (hs : starEach (e :: es) env = (false, eval e env) :: starEach es env)
    (h : Ev G A env (.Name x p) st fun v st₁ => v = .raw (.ref f) ∧ Evs G A env (e :: es) st₁ fun vs st₂ => Calls G A f vs [] fun v _ => Q v st₂) : Ev G A env (.Call (.Name x p) (e :: es) [] pos) st Q := by
  refine Ev.entv (ev_call hn hp hs (h.mono fun v st₁ ⟨hv, h₁⟩ => ⟨hv, h₁.mono fun vs st₂ h₂ => h₂.mono fun r ar q => ⟨r, st₂, EntV.of ?_, q⟩⟩))
  exact ent_tail
theorem Fn.isf {f : Addr} {name : Str} {ps : List Str} {body : List Stmt} {scope : Scope} {cd : Value} (F : Fn G f name ps body scope cd) : ∃ o fd, G.base.get? f = some o ∧ o.data = .func fd :=
  let ⟨o, params, pm, doc, h1, h2, _⟩ := F.obj; ⟨o, _, h1, h2⟩
theorem FnC.isf {f : Addr} {name x : Str} {ps : List Str} {body : List Stmt} {scope : Scope} {cd : Value} (F : FnC G f name ps body scope cd x) : ∃ o fd, G.base.get? f = some o ∧ o.data = .func fd :=
  let ⟨o, params, pm, doc, h1, h2, _⟩ := F.obj; ⟨o, _, h1, h2⟩
end
end Mine

/-! part Str1 -/
set_option maxRecDepth 100000
set_option Elab.async false
set_option linter.unusedVariables false
namespace Mine
open PySem PyProof.Rows PySem.Builtin.Re PySem.W PySem.Spec

theorem str_assoc (a b c : Str) : a ++ b ++ c = a ++ (b ++ c) := by
  show (⟨(a.cps ++ b.cps) ++ c.cps⟩ : Str) = ⟨a.cps ++ (b.cps ++ c.cps)⟩
  rw [Array.append_assoc]
theorem str_nil_app (a : Str) : Str.empty ++ a = a := by
  show (⟨#[] ++ a.cps⟩ : Str) = a
  cases a; simp
theorem str_app_nil (a : Str) : a ++ Str.empty = a := by
  show (⟨a.cps ++ #[]⟩ : Str) = a
  cases a; simp
theorem join_snoc (sep : Str) : ∀ (xs : List Str) (x : Str), Str.join sep (xs ++ [x]) = if xs.isEmpty then x else Str.join sep xs ++ sep ++ x
  | [], x => by simp [Str.join]
  | [y], x => by simp [Str.join]
  | y :: z :: r, x => by
    have ih := join_snoc sep (z :: r) x
    simp only [List.isEmpty_cons, Bool.false_eq_true, if_false] at ih ⊢
    show y ++ sep ++ Str.join sep ((z :: r) ++ [x]) = y ++ sep ++ Str.join sep (z :: r) ++ sep ++ x
    rw [ih]
    simp only [str_assoc]
theorem join_snoc_app (sep : Str) (xs : List Str) (x y : Str) : Str.join sep (xs ++ [x ++ y]) = Str.join sep (xs ++ [x]) ++ y := by
  rw [join_snoc, join_snoc]
  split
  · rfl
  · simp only [str_assoc]
theorem okS_join {sep : Str} (hs : okS sep) : ∀ xs : List Str, (∀ x ∈ xs, okS x) → okS (Str.join sep xs)
  | [], _ => okS_of fun c hc => by simp [Str.join, Str.empty] at hc
  | [x], h => by simpa [Str.join] using h x (.head _)
  | x :: y :: r, h => by
    show okS (x ++ sep ++ Str.join sep (y :: r))
    exact okS_append (okS_append (h x (.head _)) hs) (okS_join hs (y :: r) fun z hz => h z (.tail _ hz))

theorem okS_val {v : Str} (h : okS v) : okS (valS v) := by
  unfold valS
  split
  · exact h
  · refine okS_append (okS_append (by decide +kernel) (okS_of fun c hc => ?_)) (by decide +kernel)
    simp only [escL] at hc
    have hc' : c ∈ v.cps.toList.flatMap fun c => if isEsc c then [92, c] else [c] := by simpa using hc
    obtain ⟨a, ha, hb⟩ := List.mem_flatMap.mp hc'
    have := okS_mem h (by simpa using ha)
    split at hb
    · simp at hb
      rcases hb with rfl | rfl
      · decide
      · exact this
    · simp at hb
      rw [hb]; exact this
theorem okS_word {p : Pair} (hk : okS p.1) (hv : ∀ v, p.2 = some v → okS v) : okS (wordS p) := by
  obtain ⟨k, v⟩ := p
  cases v with
  | none => exact hk
  | some v =>
    show okS (Str.empty ++ k ++ Str.ofString "=" ++ valS v)
    exact okS_append (okS_append (okS_append (by decide +kernel) hk) (by decide +kernel)) (okS_val (hv v rfl))
theorem okS_joinS {ls : List (List Pair)} (h : ∀ ps ∈ ls, ∀ p ∈ ps, okS p.1 ∧ ∀ v, p.2 = some v → okS v) : okS (joinS ls) := by
  refine okS_join (by decide +kernel) _ fun x hx => ?_
  obtain ⟨ps, hps, rfl⟩ := List.mem_map.mp hx
  refine okS_join (by decide +kernel) _ fun y hy => ?_
  obtain ⟨p, hp, rfl⟩ := List.mem_map.mp hy
  have := h ps (List.mem_filter.mp hps).1 p hp
  exact okS_word this.1 this.2

theorem heads_snoc (ls : List (List Pair)) (ps : List Pair) : headsS (ls ++ [ps]) = if ps.isEmpty then headsS ls else headsS ls ++ [headS ps] := by
  unfold headsS
  rw [List.filter_append]
  cases ps <;> simp
theorem head_snoc (ps : List Pair) (p : Pair) : headS (ps ++ [p]) = if ps.isEmpty then wordS p else headS ps ++ Str.ofString "; " ++ wordS p := by
  unfold headS
  rw [List.map_append, List.map_cons, List.map_nil, join_snoc, List.isEmpty_map]
/-- one pair more -/
theorem joinS_snoc (ls : List (List Pair)) (qs : List Pair) (p : Pair) : joinS (ls ++ [qs ++ [p]]) =
    joinS (ls ++ [qs]) ++ (if (headsS (ls ++ [qs])).isEmpty then Str.empty else if 0 < qs.length then Str.ofString "; " else Str.ofString ", ") ++ wordS p := by
  unfold joinS
  rw [heads_snoc, heads_snoc, head_snoc]
  have h1 : (qs ++ [p]).isEmpty = false := by cases qs <;> rfl
  rw [h1]
  simp only [Bool.false_eq_true, if_false]
  cases qs with
  | nil =>
    simp only [List.isEmpty_nil, if_true, List.length_nil, Nat.lt_irrefl, if_false]
    rw [join_snoc]
    split
    · rename_i h
      rw [List.isEmpty_iff.mp h, str_app_nil]
      exact (str_nil_app _).symm
    · rfl
  | cons q r =>
    simp only [List.isEmpty_cons, Bool.false_eq_true, if_false, List.length_cons, Nat.zero_lt_succ, if_true]
    rw [str_assoc, join_snoc_app]
    have h2 : (headsS ls ++ [headS (q :: r)]).isEmpty = false := by cases headsS ls <;> rfl
    rw [h2]
    simp only [Bool.false_eq_true, if_false, str_assoc]
theorem heads_snoc_ne (ls : List (List Pair)) (qs : List Pair) (p : Pair) : (headsS (ls ++ [qs ++ [p]])).isEmpty = false := by
  rw [heads_snoc]
  have h1 : (qs ++ [p]).isEmpty = false := by cases qs <;> rfl
  rw [h1]
  simp
end Mine

/-! part J02 -/
set_option maxRecDepth 100000
set_option Elab.async false
set_option linter.unusedVariables false
namespace Mine
open PySem PyProof.Rows PySem.Builtin.Re PySem.W

def fnBody (p : Program) (i : Nat) : List Stmt := match p.main.body[i]? with
  | some (.FunctionDef _ _ b _ _ _ _ _ _ _) => b
  | _ => []
def fnScope (p : Program) (i : Nat) : Scope := match p.main.body[i]? with
  | some (.FunctionDef _ _ _ _ _ _ sc _ _ _) => sc
  | _ => default
def fnPos (p : Program) (i : Nat) : Pos := match p.main.body[i]? with
  | some (.FunctionDef _ _ _ _ _ _ _ _ _ pos) => pos
  | _ => default

abbrev PW := PySem.Challenge.pw_dm0155_02
abbrev jenv (L f : Addr) (cd : Value) : Env := envOf (Str.ofString "join_header_words") (fnScope PW 4) L f cd

abbrev LP : Pos := ⟨12, 50, 12, 87⟩
/-- what the join needs of the ground -/
structure JG (G : Gl) (tokP escP : Addr) (cj tP : Addr) : Prop where
  ok : GlOk G
  tok : Pat G tokP tokCode 0
  esc : Pat G escP escCode 1
  gtok : G.mg (Str.ofString "HEADER_JOIN_TOKEN_RE") = some (.ref tokP)
  gesc : G.mg (Str.ofString "HEADER_JOIN_ESCAPE_RE") = some (.ref escP)
  cdh : CodeHd G.base cj tP
  tab : (⟨tP, LP, Str.ofString "join_header_words" ++ Str.ofString ".<locals>." ++ Str.ofString "<lambda>"⟩ : Tab) ∈ G.tabs

section
variable {G : Gl} {A : Around} {L f : Addr} {cj tP : Addr} {tokP escP : Addr}

theorem join_body (J : JG G tokP escP cj tP) (R : Room A 3) (ls : List (List Pair)) (ok : OkLists ls) :
    Exs G A (jenv L f (.ref cj)) (fnBody PW 4) ⟨[(Str.ofString "lists", listsV ls)], []⟩ fun fl st' => fl = .ret (.str (joinS ls)) := by
  refine exs_cons ?_
  refine ex_assign rfl rfl rfl ?_
  refine ev_list ?_
  refine evs_nil ?_
  refine ⟨by decide, fun H hH => ?_⟩
  refine exs_cons ?_
  refine ex_for R.hd (fun _ => rfl) ?_
  refine ev_local rfl rfl rfl rfl ?_
  refine ⟨listsV ls, _, _, EntV.refl, rfl, ?_⟩
  refine for_inv pairsV (fun done st => st = ⟨[(Str.ofString "lists", listsV ls), (Str.ofString "headers", .list H)], [(H, (headsS done).map V.str)]⟩) ls rfl ?_ ?_
  · rintro done ps rest st e rfl
    refine asg_name rfl rfl ?_
    refine exs_cons ?_
    refine ex_assign rfl rfl rfl ?_
    refine ev_list ?_
    refine evs_nil ?_
    refine ⟨by decide, fun B hB => ?_⟩
    refine exs_cons ?_
    refine ex_for R.hd (fun _ => rfl) ?_
    refine ev_local rfl rfl rfl rfl ?_
    refine ⟨pairsV ps, _, _, EntV.refl, rfl, ?_⟩
    refine for_inv pairV (fun dn st => st = ⟨[(Str.ofString "lists", listsV ls), (Str.ofString "headers", .list H), (Str.ofString "pairs", pairsV ps), (Str.ofString "attr", .list B)], [(B, (dn.map wordS).map V.str), (H, (headsS done).map V.str)]⟩) ps rfl ?_ ?_
    · rintro dn ⟨k, v⟩ rs st e' rfl
      refine asg_tuple R.hd rfl (fun _ _ _ h => nomatch h) rfl rfl ?_
      refine asgs_cons rfl (asg_name rfl rfl ?_)
      refine asgs_cons rfl (asg_name rfl rfl ?_)
      refine asgs_nil ?_
      have hps : ps ∈ ls := by rw [e]; exact List.mem_append_right _ (.head _)
      have hkv : (k, v) ∈ ps := by rw [e']; exact List.mem_append_right _ (.head _)
      obtain ⟨hk, hv⟩ := ok.pairs ps hps (k, v) hkv
      have hdn : dn.length ≤ 1000000 := by
        have := ok.lens.2 ps hps
        rw [e'] at this; simp at this; omega
      refine exs_mid (fun st₁ => ∃ wv, st₁ = ⟨[(Str.ofString "lists", listsV ls), (Str.ofString "headers", .list H), (Str.ofString "pairs", pairsV ps), (Str.ofString "attr", .list B), (Str.ofString "k", .str (wordS (k, v))), (Str.ofString "v", wv)], [(B, (dn.map wordS).map V.str), (H, (headsS done).map V.str)]⟩) ?_ ?_
      · refine ex_if ?_
        refine tst_cmp rfl ?_
        refine ev_local rfl rfl rfl rfl ?_
        refine ev_none ?_
        cases v with
        | none =>
          refine op_isNot_none nn_none ⟨_, rfl, ?_⟩
          rw [if_neg (by decide)]
          exact exs_nil ⟨rfl, _, rfl⟩
        | some x =>
          refine op_isNot_none nn_str ⟨_, rfl, ?_⟩
          rw [if_pos (by decide)]
          have hx := hv x rfl
          refine exs_mid (fun st₁ => st₁ = ⟨[(Str.ofString "lists", listsV ls), (Str.ofString "headers", .list H), (Str.ofString "pairs", pairsV ps), (Str.ofString "attr", .list B), (Str.ofString "k", .str k), (Str.ofString "v", .str (valS x))], [(B, (dn.map wordS).map V.str), (H, (headsS done).map V.str)]⟩) ?_ ?_
          · refine ex_if ?_
            refine tst_not ?_
            refine tst_plain (fun _ => rfl) ?_
            refine ev_meth rfl rfl rfl rfl rfl ?_
            refine ev_global J.ok rfl rfl rfl rfl J.gtok ?_
            refine ⟨_, _, ⟨pa_pat, slot_pat_fullmatch, type_pat_fullmatch⟩, ty_pat J.tok, ?_⟩
            refine evs_cons rfl ?_
            refine ev_local rfl rfl rfl rfl ?_
            refine evs_nil ?_
            refine cb_fullmatch J.tok (by omega) ?_
            cases hb : tokB x.cps with
            | true =>
              simp only [if_true]
              intro sp
              refine tru_mat ?_
              rw [if_neg (by decide)]
              exact exs_nil ⟨rfl, by simp [valS, hb]; rfl⟩
            | false =>
              simp only [Bool.false_eq_true, if_false]
              refine tru_none ?_
              rw [if_pos (by decide)]
              refine exs_cons ?_
              refine ex_assign rfl rfl rfl ?_
              refine ev_sub (code := escCode) (g := fun g => 92 :: g) (mn := Str.ofString "_m") J.ok (by have := R.dp; show A.depth < _; omega) rfl rfl rfl ⟨⟨cj, _, rfl, J.cdh, J.tab, rfl, rfl, rfl⟩, rfl, rfl, rfl, (fun _ _ _ _ _ => rfl), rfl, rfl, rfl, rfl, by decide⟩ ?_
              refine ev_global J.ok rfl rfl rfl rfl J.gesc ?_
              refine ⟨escP, rfl, J.esc, ?_⟩
              refine ev_local rfl rfl rfl rfl ?_
              refine ⟨x, rfl, by omega, ?_, escL x.cps.toList, esc_subR _ [] _ (Nat.le_refl _) rfl, ?_, ?_⟩
              · intro L' f' c' st' a b c d hcd hd
                have hxs : (x.cps.extract c d).size ≤ 400000 := by
                  have : x.cps.size ≤ 400000 := hx
                  rw [Array.size_extract]; omega
                refine ev_bin ?_
                refine ev_str ?_
                refine ev_or ?_
                refine ev_meth rfl rfl rfl rfl rfl ?_
                refine ev_local rfl rfl rfl rfl ?_
                refine ⟨_, _, mf_group, ty_mat, ?_⟩
                refine evs_cons rfl ?_
                refine ev_int ?_
                refine evs_nil ?_
                refine cb_group (by omega) ?_
                refine tru_str (by show (x.cps.extract c d).size ≤ _; omega) ?_
                cases hz : ((⟨x.cps.extract c d⟩ : Str).length != 0) with
                | true =>
                  rw [if_pos rfl]
                  refine op_add_str ?_ ⟨rfl, ?_⟩
                  · rw [len_b]; show 1 + (x.cps.extract c d).size ≤ _; omega
                  · rw [back_app]
                | false =>
                  rw [if_neg (by decide)]
                  refine ev_bool_one ?_
                  refine ev_str ?_
                  have h0 : x.cps.extract c d = #[] := by
                    have : (x.cps.extract c d).size = 0 := by simpa [Str.length] using hz
                    exact Array.eq_empty_of_size_eq_zero this
                  refine op_add_str (by decide) ⟨rfl, ?_⟩
                  rw [h0]
                  exact congrArg V.str (by decide +kernel)
              · have := escL_length x.cps.toList
                have : x.cps.toList.length ≤ 400000 := by rw [Array.length_toList]; exact hx
                omega
              · refine exs_cons ?_
                refine ex_assign rfl rfl rfl ?_
                refine ev_bin ?_
                refine ev_str ?_
                refine ev_local rfl rfl rfl rfl ?_
                refine op_quote ?_ ?_
                · have := escL_length x.cps.toList
                  have : x.cps.toList.length ≤ 400000 := by rw [Array.length_toList]; exact hx
                  show (escL x.cps.toList).toArray.size ≤ _
                  rw [List.size_toArray]; omega
                · refine exs_nil ⟨rfl, ?_⟩
                  simp [valS, hb]; rfl
          · rintro st rfl
            refine exs_cons ?_
            refine ex_assign rfl rfl rfl ?_
            refine ev_joined ?_
            refine jn_cons ?_
            refine ev_fmt ?_
            refine ev_local rfl rfl rfl rfl ?_
            have hk' : k.length ≤ 400000 := hk
            have hvl : (valS x).length ≤ 800002 := valS_length x hx
            have l1 : (Str.empty ++ k).length = k.length := by rw [strLen_append]; show 0 + _ = _; omega
            have l2 : (Str.empty ++ k ++ Str.ofString "=").length = k.length + 1 := by rw [strLen_append, l1, len_e]
            refine ⟨k, rfl, by omega, k, rfl, by omega, ?_⟩
            refine jn_cons ?_
            refine ev_str ?_
            refine ⟨_, rfl, by omega, ?_⟩
            refine jn_cons ?_
            refine ev_fmt ?_
            refine ev_local rfl rfl rfl rfl ?_
            refine ⟨_, rfl, by omega, _, rfl, by rw [strLen_append, l2]; omega, ?_⟩
            refine jn_nil (by rw [strLen_append, l2]; omega) ?_
            exact exs_nil ⟨rfl, _, rfl⟩
      · rintro st ⟨wv, rfl⟩
        refine exs_cons ?_
        refine ex_expr rfl rfl ?_
        refine ev_meth rfl rfl rfl rfl rfl ?_
        refine ev_local rfl rfl rfl rfl ?_
        refine ⟨_, _, mf_append, ty_list (.head _), ?_⟩
        refine evs_cons rfl ?_
        refine ev_local rfl rfl rfl rfl ?_
        refine evs_nil ?_
        refine cb_append (.head _) (by simp; omega) ?_
        refine ⟨rfl, ?_⟩
        refine exs_nil ⟨_, ?_, rfl⟩
        exact ent_set (by simp [setA]) (.cons rfl (.cons rfl (.cons rfl (.cons rfl .nil))))
    · rintro st rfl
      have hps : ps ∈ ls := by rw [e]; exact List.mem_append_right _ (.head _)
      have hdone : done.length ≤ 1000000 := by
        have := ok.lens.1
        rw [e] at this; simp at this; omega
      have hHB : H ≠ B := hB (H, (headsS done).map V.str) (.head _)
      refine exs_nil ?_
      refine exs_cons ?_
      refine ex_if ?_
      refine tst_plain (fun _ => rfl) ?_
      refine ev_local rfl rfl rfl rfl ?_
      refine tru_list (.head _) (by have := ok.lens.2 ps hps; simp; omega) ?_
      have hemp : (((ps.map wordS).map V.str).isEmpty) = ps.isEmpty := by cases ps <;> rfl
      rw [hemp]
      cases hpe : ps.isEmpty with
      | true =>
        rw [if_neg (by decide)]
        refine exs_nil ?_
        refine exs_nil ⟨_, ?_, rfl⟩
        have : headsS (done ++ [ps]) = headsS done := by simp [headsS, List.filter_append, hpe]
        rw [this]
        exact ent_drop (.cons rfl (.cons rfl .nil))
      | false =>
        rw [if_pos (by decide)]
        refine exs_cons ?_
        refine ex_expr rfl rfl ?_
        refine ev_meth rfl rfl rfl rfl rfl ?_
        refine ev_local rfl rfl rfl rfl ?_
        refine ⟨_, _, mf_append, ty_list (.tail _ (.head _)), ?_⟩
        refine evs_cons rfl ?_
        refine ev_meth rfl rfl rfl rfl rfl ?_
        refine ev_str ?_
        refine ⟨_, _, mf_join, ty_str, ?_⟩
        refine evs_cons rfl ?_
        refine ev_local rfl rfl rfl rfl ?_
        refine evs_nil ?_
        refine cb_join (.head _) (by rw [len_sc]; have := ok.heads ps hps; omega) ?_
        refine evs_nil ?_
        refine cb_append (.tail _ (.head _)) ?_ ?_
        · have : (headsS done).length ≤ done.length := by
            simp only [headsS, List.length_map]; exact List.length_filter_le _ _
          simp; omega
        · refine ⟨rfl, ?_⟩
          refine exs_nil ?_
          refine exs_nil ⟨_, ?_, rfl⟩
          have : headsS (done ++ [ps]) = headsS done ++ [headS ps] := by simp [headsS, List.filter_append, hpe]
          rw [this]
          refine Ent.trans (ent_set (by simp only [setA, if_neg (Ne.symm hHB), if_true]; simp [headS]) (fun _ _ h => h)) (ent_drop (p := (B, (ps.map wordS).map V.str)) (ar := [(H, (headsS done ++ [headS ps]).map V.str)]) (.cons rfl (.cons rfl .nil)))
  · rintro st rfl
    refine exs_nil ?_
    refine exs_cons ?_
    refine ex_ret ?_
    refine ev_meth rfl rfl rfl rfl rfl ?_
    refine ev_str ?_
    refine ⟨_, _, mf_join, ty_str, ?_⟩
    refine evs_cons rfl ?_
    refine ev_local rfl rfl rfl rfl ?_
    refine evs_nil ?_
    refine cb_join (.head _) (by rw [len_cm]; have := ok.whole; omega) ?_
    rfl
end
end Mine

/-! part W02a -/
set_option maxRecDepth 100000
set_option Elab.async false
set_option linter.unusedVariables false
namespace Mine
open PySem PyProof.Rows PySem.Builtin.Re PySem.W

def signT : List Nat := [97, 90, 48, 46, 59, 44, 32, 61, 10, 233, 1635, 47, 126, 96, 64, 95]
def signC (n : Int) : Nat := if n < 0 then [34, 92].getD (n % 2).toNat 0 else if n < 64 then signT.getD (n % 16).toNat 0 else (n % 55296).toNat

/-- the built-in names -/
structure BG (G : Gl) : Prop where
  ok : GlOk G
  chr : G.mg (Str.ofString "chr") = none ∧ G.mb (Str.ofString "chr") = some (.builtin "chr")
  len : G.mg (Str.ofString "len") = none ∧ G.mb (Str.ofString "len") = some (.builtin "len")
  range : G.mg (Str.ofString "range") = none ∧ G.mb (Str.ofString "range") = some (.type "range")

theorem getD_of_lt {l : List Nat} {i : Nat} (h : i < l.length) (s : Str) (hs : s.cps = l.toArray) : s.cps[i]? = some (l.getD i 0) := by
  rw [hs, List.getElem?_toArray]; simp [h]

section
variable {G : Gl} {A : Around} {L f : Addr} {cd : Value}
abbrev senv (L f : Addr) (cd : Value) : Env := envOf (Str.ofString "_law_sign") (fnScope PW 6) L f cd
theorem sign_body (B : BG G) (n : Int) : Exs G A (senv L f cd) (fnBody PW 6) ⟨[(Str.ofString "n", .int n)], []⟩ fun fl st' => fl = .ret (.str ⟨#[signC n]⟩) ∧ st'.ar = [] := by
  refine exs_cons ?_
  refine ex_if ?_
  refine tst_cmp rfl ?_
  refine ev_local rfl rfl rfl rfl ?_
  refine ev_int ?_
  refine op_lti ⟨_, rfl, ?_⟩
  by_cases h0 : n < 0
  · rw [if_pos (by simpa using h0)]
    refine exs_cons ?_
    refine ex_ret ?_
    refine ev_subs ?_
    refine ev_str ?_
    refine ev_bin ?_
    refine ev_local rfl rfl rfl rfl ?_
    refine ev_int ?_
    refine op_mod (by decide) ?_
    have hm : (n % 2).toNat < [34, 92].length := by simp only [List.length_cons, List.length_nil]; omega
    refine sub_str (fun _ _ => rfl) (by omega) (getD_of_lt hm _ (by decide +kernel)) (by decide +kernel) ⟨?_, rfl⟩
    simp [signC, h0]
  · rw [if_neg (by simpa using h0)]
    refine exs_nil ?_
    refine exs_cons ?_
    refine ex_if ?_
    refine tst_cmp rfl ?_
    refine ev_local rfl rfl rfl rfl ?_
    refine ev_int ?_
    refine op_lti ⟨_, rfl, ?_⟩
    by_cases h1 : n < 64
    · rw [if_pos (by simpa using h1)]
      refine exs_cons ?_
      refine ex_ret ?_
      refine ev_subs ?_
      refine ev_str ?_
      refine ev_bin ?_
      refine ev_local rfl rfl rfl rfl ?_
      refine ev_int ?_
      refine op_mod (by decide) ?_
      have hm : (n % 16).toNat < signT.length := by show _ < 16; omega
      refine sub_str (fun _ _ => rfl) (by omega) (getD_of_lt hm _ (by decide +kernel)) (by decide +kernel) ⟨?_, rfl⟩
      simp [signC, h0, h1]
    · rw [if_neg (by simpa using h1)]
      refine exs_nil ?_
      refine exs_cons ?_
      refine ex_ret ?_
      refine ev_bcall (id := "chr") rfl rfl ?_
      refine ev_builtin B.ok rfl rfl rfl rfl rfl B.chr.1 B.chr.2 ?_
      refine ⟨rfl, ?_⟩
      refine evs_cons rfl ?_
      refine ev_bin ?_
      refine ev_local rfl rfl rfl rfl ?_
      refine ev_int ?_
      refine op_mod (by decide) ?_
      refine evs_nil ?_
      refine cb_chr (by omega) (by omega) ⟨?_, rfl⟩
      simp [signC, h0, h1]
end

def bareS : Str := Str.ofString "!#$%&'*+-.^_`|~0123456789ABCDEFGHIJKLMNOPQRSTUVWXYZabcdefghijklmnopqrstuvwxyz"
theorem bare_is : bareS.cps.toList = [33, 35, 36, 37, 38, 39, 42, 43, 45, 46, 94, 95, 96, 124, 126, 48, 49, 50, 51, 52, 53, 54, 55, 56, 57, 65, 66, 67, 68, 69, 70, 71, 72, 73, 74, 75, 76, 77, 78, 79, 80, 81, 82, 83, 84, 85, 86, 87, 88, 89, 90, 97, 98, 99, 100, 101, 102, 103, 104, 105, 106, 107, 108, 109, 110, 111, 112, 113, 114, 115, 116, 117, 118, 119, 120, 121, 122] := by decide +kernel
theorem bare_tok (c : Nat) : Txt.contains bareS ⟨#[c]⟩ = isTok c := by
  rw [contains_one]
  by_cases h : c < 256
  · have : ∀ c, c < 256 → bareS.cps.toList.contains c = isTok c := by rw [bare_is]; decide +kernel
    exact this c h
  · rw [tok_big h, bare_is]
    have : ∀ x ∈ [33, 35, 36, 37, 38, 39, 42, 43, 45, 46, 94, 95, 96, 124, 126, 48, 49, 50, 51, 52, 53, 54, 55, 56, 57, 65, 66, 67, 68, 69, 70, 71, 72, 73, 74, 75, 76, 77, 78, 79, 80, 81, 82, 83, 84, 85, 86, 87, 88, 89, 90, 97, 98, 99, 100, 101, 102, 103, 104, 105, 106, 107, 108, 109, 110, 111, 112, 113, 114, 115, 116, 117, 118, 119, 120, 121, 122], x < 256 := by decide
    cases q : List.contains [33, 35, 36, 37, 38, 39, 42, 43, 45, 46, 94, 95, 96, 124, 126, 48, 49, 50, 51, 52, 53, 54, 55, 56, 57, 65, 66, 67, 68, 69, 70, 71, 72, 73, 74, 75, 76, 77, 78, 79, 80, 81, 82, 83, 84, 85, 86, 87, 88, 89, 90, 97, 98, 99, 100, 101, 102, 103, 104, 105, 106, 107, 108, 109, 110, 111, 112, 113, 114, 115, 116, 117, 118, 119, 120, 121, 122] c with
    | false => rfl
    | true => exact absurd (this c (List.contains_iff_mem.mp q)) h
/-- what the law writes of a value -/
theorem join_empty : ∀ xs : List Str, Str.join Str.empty xs = ⟨(xs.flatMap fun x => x.cps.toList).toArray⟩
  | [] => rfl
  | [x] => by simp [Str.join]
  | x :: y :: r => by
    have ih := join_empty (y :: r)
    rw [List.flatMap_cons]
    show x ++ Str.empty ++ Str.join Str.empty (y :: r) = _
    rw [ih]
    show (⟨(x.cps ++ #[]) ++ _⟩ : Str) = _
    congr 1
    apply Array.ext'
    simp
theorem empty_is : Str.ofString "" = Str.empty := by decide +kernel
def escW (c : Nat) : Str := if isEsc c then Str.ofString "\\" ++ ⟨#[c]⟩ else ⟨#[c]⟩
theorem back_is : Str.ofString "\\" = ⟨#[92]⟩ := by decide +kernel
theorem escW_join (l : List Nat) : Str.join (Str.ofString "") (l.map escW) = sOf (escL l) := by
  rw [empty_is, join_empty]
  unfold escL sOf
  congr 2
  rw [List.flatMap_map]
  congr 1
  funext c
  unfold escW
  split
  · rw [back_is]; rfl
  · rfl
theorem escW_len (c : Nat) : (escW c).length ≤ 2 := by
  unfold escW
  split
  · rw [strLen_append, len_b]; exact Nat.le_refl _
  · exact Nat.le_succ 1
theorem mark_esc (c : Nat) : Txt.contains (Str.ofString "\"\\") ⟨#[c]⟩ = isEsc c := by
  rw [contains_one, show (Str.ofString "\"\\").cps.toList = [34, 92] by decide +kernel]
  unfold isEsc
  rw [Bool.eq_iff_iff]
  simp

section
variable {G : Gl} {A : Around} {L f : Addr} {cd : Value}
abbrev wenv (L f : Addr) (cd : Value) : Env := envOfC (Str.ofString "_law_written") (fnScope PW 8) L f cd
theorem written_body (B : BG G) (R : Room A 3) (v : Str) (hv : v.length ≤ 400000) (hok : okS v) (hc : (L + 1, .str bareS) ∈ G.cells) :
    Exs G A (wenv L f cd) (fnBody PW 8).tail ⟨[(Str.ofString "value", .str v)], []⟩ fun fl st' => fl = .ret (.str (valS v)) := by
  have hsz : v.cps.toList.length ≤ 400000 := by rw [Array.length_toList]; exact hv
  have rest : tokB v.cps = false → ∀ ar, Exs G A (wenv L f cd) (fnBody PW 8).tail.tail ⟨[(Str.ofString "value", .str v)], ar⟩ fun fl st' => fl = .ret (.str (valS v)) := by
    intro hb ar
    refine exs_cons ?_
    refine ex_ret ?_
    refine ev_bin ?_
    refine ev_bin ?_
    refine ev_str ?_
    refine ev_meth rfl rfl rfl rfl rfl ?_
    refine ev_str ?_
    refine ⟨_, _, mf_join, ty_str, ?_⟩
    refine evs_cons rfl ?_
    refine ev_comp (cl := []) R.hd rfl (by decide) rfl (by decide) (fun _ => rfl) ?_
    refine ev_local rfl rfl rfl rfl ?_
    refine ⟨_, _, _, EntV.refl, rfl, fun C D hD => ?_⟩
    refine cp_map (fun c => V.str ⟨#[c]⟩) (fun _ => true) (fun c => V.str (escW c)) v.cps.toList (by omega) ?_ ?_
    · intro c hcm ys
      refine asg_name rfl rfl ?_
      refine ifs_nil ⟨rfl, ?_⟩
      rw [if_pos rfl]
      refine ev_ite ?_
      refine tst_cmp rfl ?_
      refine ev_local rfl rfl rfl rfl ?_
      refine ev_str ?_
      refine op_in ⟨_, rfl, ?_⟩
      rw [mark_esc]
      cases he : isEsc c with
      | true =>
        rw [if_pos rfl]
        refine ev_bin ?_
        refine ev_str ?_
        refine ev_local rfl rfl rfl rfl ?_
        refine op_add_str (by rw [len_b]; exact (by decide : 1 + 1 ≤ 16777216)) ⟨?_, rfl⟩
        simp [escW, he]
      | false =>
        rw [if_neg (by decide)]
        refine ev_local rfl rfl rfl rfl ⟨?_, rfl⟩
        simp [escW, he]
    · intro l
      refine evs_nil ?_
      have e1 : (v.cps.toList.filter fun _ => true).map (fun c => V.str (escW c)) = (v.cps.toList.map escW).map V.str := by rw [List.filter_eq_self.mpr fun _ _ => rfl, List.map_map]; rfl
      rw [e1]
      refine cb_join (.head _) ?_ ?_
      · have : ((v.cps.toList.map escW).map fun x => x.length + (Str.ofString "").length).sum ≤ 2 * v.cps.toList.length := by
          generalize v.cps.toList = l
          induction l with
          | nil => simp
          | cons c l ih =>
            have h1 := escW_len c
            have h2 : (Str.ofString "").length = 0 := by decide +kernel
            simp only [List.map_cons, List.sum_cons, List.length_cons, h2] at ih ⊢
            omega
        omega
      · rw [escW_join]
        have hl : (sOf (escL v.cps.toList)).length ≤ 800000 := by
          have := escL_length v.cps.toList
          show (escL v.cps.toList).toArray.size ≤ _
          rw [List.size_toArray]; omega
        refine op_add_str (by rw [len_q]; omega) ?_
        refine ev_str ?_
        refine op_add_str (by rw [strLen_append, len_q]; omega) ?_
        simp [valS, hb]
  refine exs_cons ?_
  refine ex_if ?_
  refine tst_and ?_
  refine tst_cmp rfl ?_
  refine ev_local rfl rfl rfl rfl ?_
  refine ev_str ?_
  refine op_nes ⟨_, rfl, ?_⟩
  by_cases he : v = Str.ofString ""
  · rw [if_neg (by simp [he])]
    rw [if_neg (by decide)]
    refine exs_nil ?_
    exact rest (by rw [he]; decide +kernel) _
  · rw [if_pos (by simp [he])]
    refine tst_and ?_
    refine tst_cmp rfl ?_
    refine ev_comp (cl := [(Str.ofString "bare", L + 1)]) R.hd rfl (by decide) rfl (by decide) (fun _ => rfl) ?_
    refine ev_local rfl rfl rfl rfl ?_
    refine ⟨_, _, _, EntV.refl, rfl, fun C D hD => ?_⟩
    refine cp_map (fun c => V.str ⟨#[c]⟩) (fun c => !isTok c) (fun c => V.str ⟨#[c]⟩) v.cps.toList (by omega) ?_ ?_
    · intro c hcm ys
      refine asg_name rfl rfl ?_
      refine ifs_one ?_
      refine tst_cmp rfl ?_
      refine ev_local rfl rfl rfl rfl ?_
      refine ev_cell rfl rfl rfl hc rfl ?_
      refine op_notin ⟨_, rfl, ?_⟩
      rw [bare_tok]
      refine ⟨rfl, ?_⟩
      cases isTok c with
      | true => rw [if_neg (by decide)]; rfl
      | false =>
        rw [if_pos (by decide)]
        exact ev_local rfl rfl rfl rfl ⟨rfl, rfl⟩
    · intro l
      refine ev_list ?_
      refine evs_nil ⟨by decide, fun D2 hD2 => ?_⟩
      have hu : A.units + 1 < cLine := by have := R.un; omega
      refine op_eq_nil (.inr ⟨D, rfl, .tail _ (.head _)⟩) (.head _) (pys_map _ (fun c => .str ⟨#[c]⟩) (fun c => by simp [V.py]) _) (lay_map _ _ fun c hm => ?_) hu ⟨_, rfl, ?_⟩
      · simp only [PyData.canLay0]
        exact okS_one (okS_mem hok (List.mem_filter.mp hm).1)
      · have e1 : (List.map (fun c => V.str ⟨#[c]⟩) (v.cps.toList.filter fun c => !isTok c)).isEmpty = tokB v.cps := by
          unfold tokB
          have h0 : (v.cps.size != 0) = true := by
            cases q : v.cps.size != 0 with
            | true => rfl
            | false =>
              exfalso
              apply he
              have : v.cps = #[] := Array.eq_empty_of_size_eq_zero (by simpa using q)
              cases v
              simp only at this
              subst this
              decide +kernel
          rw [h0, Bool.true_and, List.isEmpty_map]
          induction v.cps.toList with
          | nil => rfl
          | cons c l ih =>
            rw [List.filter_cons, List.all_cons]
            cases isTok c with
            | true => simpa using ih
            | false => rfl
        rw [e1]
        cases hb : tokB v.cps with
        | true =>
          rw [if_pos rfl]
          refine tst_and_nil ?_
          rw [if_pos rfl]
          refine exs_cons ?_
          refine ex_ret ?_
          refine ev_local rfl rfl rfl rfl ?_
          simp [valS, hb]
        | false =>
          rw [if_neg (by decide), if_neg (by decide)]
          exact exs_nil (rest hb _)
end
end Mine

/-! part W02b -/
set_option maxRecDepth 100000
set_option Elab.async false
set_option linter.unusedVariables false
namespace Mine
open PySem PyProof.Rows PySem.Builtin.Re PySem.W PySem.Spec

def keysT : List Str := [Str.ofString "foo", Str.ofString "$Port", Str.ofString "", Str.ofString " a% ", Str.ofString "x=\"y\"; z"]
def keyOf (n : Int) : Str := keysT.getD (n % 5).toNat (Str.ofString "")
theorem keyOf_get (n : Int) : (keysT.map V.str)[(n % 5).toNat]? = some (.str (keyOf n)) := by
  have h : (n % 5).toNat < keysT.length := by show _ < 5; omega
  rw [List.getElem?_map]
  unfold keyOf
  rw [List.getD_eq_getElem?_getD, List.getElem?_eq_getElem h]
  rfl
theorem keyOf_mem (n : Int) : keyOf n ∈ keysT := by
  have h : (n % 5).toNat < keysT.length := by show _ < 5; omega
  unfold keyOf
  rw [List.getD_eq_getElem?_getD, List.getElem?_eq_getElem h]
  exact List.getElem_mem h

def addSign (last : List Pair) (k : Str) (c : Nat) : List Pair := match last.getLast? with
  | some (k', some v) => last.dropLast ++ [(k', some (v ++ ⟨#[c]⟩))]
  | _ => last ++ [(k, some ⟨#[c]⟩)]
def stepP (p : List (List Pair) × List Pair) (x : Int) : List (List Pair) × List Pair :=
  if x % 4 = 0 then (p.1 ++ [p.2], [])
  else if x % 4 = 1 then (p.1, p.2 ++ [(keyOf (x / 4), none)])
  else if x % 4 = 2 then (p.1, p.2 ++ [(keyOf (x / 4), some (Str.ofString ""))])
  else (p.1, addSign p.2 (keyOf (x / 4)) (signC (x / 4)))
def runP (ns : List Int) : List (List Pair) × List Pair := ns.foldl stepP ([], [])
def builtL (ns : List Int) : List (List Pair) := if ns = [] then [] else (runP ns).1 ++ [(runP ns).2]

def GoodP (m : Nat) (p : Pair) : Prop := p.1 ∈ keysT ∧ ∀ v, p.2 = some v → v.length ≤ m ∧ okS v
structure Good (m : Nat) (p : List (List Pair) × List Pair) : Prop where
  n : p.1.length ≤ m
  l : p.2.length ≤ m
  ll : ∀ ps ∈ p.1, ps.length ≤ m
  d : ∀ ps ∈ p.1, ∀ q ∈ ps, GoodP m q
  e : ∀ q ∈ p.2, GoodP m q

theorem signC_ok (n : Int) : signC n < 0x110000 := by
  unfold signC
  split
  · have : ∀ i, i < 2 → [34, 92].getD i 0 < 0x110000 := by decide
    exact this _ (by omega)
  · split
    · have : ∀ i, i < 16 → signT.getD i 0 < 0x110000 := by decide
      exact this _ (by omega)
    · omega

theorem GoodP.mono {m m' : Nat} (h : m ≤ m') {p : Pair} (g : GoodP m p) : GoodP m' p := ⟨g.1, fun v e => ⟨Nat.le_trans (g.2 v e).1 h, (g.2 v e).2⟩⟩
theorem good_step {m : Nat} {p : List (List Pair) × List Pair} (g : Good m p) (x : Int) : Good (m + 1) (stepP p x) := by
  obtain ⟨d, last⟩ := p
  obtain ⟨g1, g2, g3, g4, g5⟩ := g
  simp only at g1 g2 g3 g4 g5
  have gd : ∀ ps ∈ d, ∀ q ∈ ps, GoodP (m + 1) q := fun ps h q hq => (g4 ps h q hq).mono (Nat.le_succ m)
  have ge : ∀ q ∈ last, GoodP (m + 1) q := fun q hq => (g5 q hq).mono (Nat.le_succ m)
  have gl : ∀ ps ∈ d, ps.length ≤ m + 1 := fun ps h => Nat.le_succ_of_le (g3 ps h)
  have one : okS (⟨#[signC (x / 4)]⟩ : Str) := okS_one (signC_ok _)
  unfold stepP
  split
  · refine ⟨by simp; omega, by simp, fun ps h => ?_, fun ps h => ?_, fun q h => by simp at h⟩
    · rcases List.mem_append.mp h with h | h
      · exact gl ps h
      · simp at h; subst h; omega
    · rcases List.mem_append.mp h with h | h
      · exact gd ps h
      · simp at h; subst h; exact ge
  · split
    · refine ⟨by simp; omega, by simp; omega, gl, gd, fun q h => ?_⟩
      rcases List.mem_append.mp h with h | h
      · exact ge q h
      · simp at h; subst h; exact ⟨keyOf_mem _, fun v e => by cases e⟩
    · split
      · refine ⟨by simp; omega, by simp; omega, gl, gd, fun q h => ?_⟩
        rcases List.mem_append.mp h with h | h
        · exact ge q h
        · simp at h; subst h; exact ⟨keyOf_mem _, fun v e => by cases e; exact ⟨by rw [show (Str.ofString "").length = 0 by decide +kernel]; omega, by decide +kernel⟩⟩
      · unfold addSign
        split
        · rename_i k' v hl
          have hmem : (k', some v) ∈ last := List.mem_of_getLast? hl
          have hg := g5 _ hmem
          refine ⟨by simp; omega, ?_, gl, gd, fun q h => ?_⟩
          · have : 0 < last.length := List.length_pos_of_mem hmem
            simp; omega
          · rcases List.mem_append.mp h with h | h
            · exact ge q ((List.dropLast_sublist _).mem h)
            · simp at h; subst h
              refine ⟨hg.1, fun u e => ?_⟩
              cases e
              have := (hg.2 v rfl).1
              exact ⟨by rw [strLen_append]; show v.length + 1 ≤ m + 1; omega, okS_append (hg.2 v rfl).2 one⟩
        · refine ⟨by simp; omega, by simp; omega, gl, gd, fun q h => ?_⟩
          rcases List.mem_append.mp h with h | h
          · exact ge q h
          · simp at h; subst h; exact ⟨keyOf_mem _, fun v e => by cases e; exact ⟨by show 1 ≤ m + 1; omega, one⟩⟩
theorem good_run (ns : List Int) : Good ns.length (runP ns) := by
  have key : ∀ (l : List Int) (m : Nat) (p : List (List Pair) × List Pair), Good m p → Good (m + l.length) (l.foldl stepP p) := by
    intro l
    induction l with
    | nil => intro m p g; exact g
    | cons x l ih =>
      intro m p g
      have := ih (m + 1) (stepP p x) (good_step g x)
      simpa [Nat.add_assoc, Nat.add_comm 1] using this
  have := key ns 0 ([], []) ⟨by simp, by simp, (fun _ h => by cases h), (fun _ h => by cases h), (fun _ h => by cases h)⟩
  simpa [runP] using this
end Mine

/-! part W02c -/
set_option maxRecDepth 100000
set_option Elab.async false
set_option linter.unusedVariables false
namespace Mine
open PySem PyProof.Rows PySem.Builtin.Re PySem.W PySem.Spec

def optD : Option Str → PyData
  | none => .none
  | some v => .str v
def pairD (p : Pair) : PyData := .tuple [.str p.1, optD p.2]
theorem py_pair (p : Pair) : V.py (pairV p) = some (pairD p) := by
  obtain ⟨k, v⟩ := p
  cases v <;> simp [pairV, pairD, optV, optD, V.py, V.pys]
theorem keys_ok : ∀ k ∈ keysT, okS k := by decide +kernel
theorem lay_pair {m : Nat} {p : Pair} (g : GoodP m p) : (pairD p).canLay0 = true := by
  obtain ⟨k, v⟩ := p
  have hk : PyData.strOk k = true := keys_ok k g.1
  cases v with
  | none => simp [pairD, optD, PyData.canLay0, PyData.canLayAll0, hk]
  | some v =>
    have hv : PyData.strOk v = true := (g.2 v rfl).2
    simp [pairD, optD, PyData.canLay0, PyData.canLayAll0, hk, hv]
theorem pur_pair (p : Pair) : (pairV p).pur = true := by
  obtain ⟨k, v⟩ := p
  cases v <;> simp [pairV, optV, V.pur, V.purs]
theorem pur_pairs (ps : List Pair) : (pairsV ps).pur = true := by
  unfold pairsV
  simp only [V.pur, V.purs_eq, List.all_map, List.all_eq_true]
  intro p _
  exact pur_pair p
theorem pur_ints (ns : List Int) : (intsV ns).pur = true := by
  unfold intsV
  simp only [V.pur, V.purs_eq, List.all_map, List.all_eq_true]
  intro p _
  simp [V.pur]

structure SG (G : Gl) (fs : Addr) (cds : Value) : Prop where
  b : BG G
  gs : G.mg (Str.ofString "_law_sign") = some (.ref fs)
  fn : Fn G fs (Str.ofString "_law_sign") [Str.ofString "n"] (fnBody PW 6) (fnScope PW 6) cds

section
variable {G : Gl} {A : Around} {L f fs : Addr} {cd cds : Value}
theorem calls_sign (X : SG G fs cds) (R : Room A 1) (n : Int) : Calls G A fs [.int n] [] fun v _ => v = .str ⟨#[signC n]⟩ :=
  fn_call X.b.ok X.fn (by have := R.dp; omega) rfl fun L' => (sign_body X.b n).mono fun fl st' ⟨h, _⟩ => by subst h; rfl

/-- the lists while they are built -/
def inner (S : V) (O I : Addr) (p : List (List Pair) × List Pair) : St := ⟨[(Str.ofString "script", S), (Str.ofString "lists", .list O)], [(I, p.2.map pairV), (O, p.1.map pairsV ++ [.list I])]⟩
abbrev lenv (L f : Addr) (cd : Value) : Env := envOf (Str.ofString "_law_lists") (fnScope PW 7) L f cd

theorem fz_pairs (a : Addr) (xs : List V) (l : List (List Pair)) : V.fzs a xs (l.map pairsV) = l.map pairsV := by
  rw [V.fzs_eq, List.map_map]
  exact List.map_congr_left fun ps _ => V.fz_pur a xs _ (pur_pairs ps)
theorem fzs_append (a : Addr) (xs ys zs : List V) : V.fzs a xs (ys ++ zs) = V.fzs a xs ys ++ V.fzs a xs zs := by rw [V.fzs_eq, V.fzs_eq, V.fzs_eq, List.map_append]
theorem inner_fz {S : V} {O I : Addr} (hIO : I ≠ O) (hS : S.pur = true) (p : List (List Pair) × List Pair) :
    (inner S O I p).fz I (p.2.map pairV) = ⟨[(Str.ofString "script", S), (Str.ofString "lists", .list O)], [(O, (p.1 ++ [p.2]).map pairsV)]⟩ := by
  have h2 : O ≠ I := Ne.symm hIO
  simp only [inner, St.fz, List.map_cons, List.map_nil, V.fz_pur I _ S hS, V.fz, List.filter_cons, List.filter_nil, ne_eq, not_true_eq_false, decide_false, h2, not_false_eq_true, decide_true, if_true, Bool.false_eq_true, if_false,
    fzs_append, fz_pairs, List.map_append, V.fzs, pairsV]

theorem getLast_pair {last : List Pair} {q : Pair} (h : last.getLast? = some q) : last = last.dropLast ++ [q] := by
  obtain ⟨ys, rfl⟩ := List.getLast?_eq_some_iff.mp h
  simp

theorem get_last {α : Type} (xs : List α) (v : α) : (xs ++ [v])[(xs ++ [v]).length - 1]? = some v := by
  rw [List.getElem?_append_right (by simp)]
  simp
theorem ev_last {env : Env} {st : St} {Q : V → St → Prop} {value : Expr} {k : Nat} {p2 p3 p4 : Pos} (h : Ev G A env value st fun o st₁ => ∃ a xs v, o = .list a ∧ (a, xs ++ [v]) ∈ st₁.ar ∧ Q v st₁) :
    Ev G A env (.Subscript value (.UnaryOp .USub (.Constant (.int 1) k p2) p3) p4) st Q := by
  refine ev_subs (h.mono fun o st₁ ⟨a, xs, v, ho, ha, q⟩ => ?_)
  subst ho
  refine ev_un ?_
  refine ev_int ?_
  refine op_neg ?_
  exact sub_list ha (fun _ _ => rfl) (by decide) (by decide) (seqIndex_last (by simp)) (get_last xs v) q

theorem lists_body (X : SG G fs cds) (R : Room A 3) (ns : List Int) (hn : ns.length ≤ 63) : Exs G A (lenv L f cd) (fnBody PW 7) ⟨[(Str.ofString "script", intsV ns)], []⟩ fun fl st' => fl = .ret (listsV (builtL ns)) := by
  have hu : A.units + 1 < cLine := by have := R.un; omega
  refine exs_cons ?_
  refine ex_assign rfl rfl rfl ?_
  refine ev_ite ?_
  refine tst_cmp rfl ?_
  refine ev_local rfl rfl rfl rfl ?_
  refine ev_list ?_
  refine evs_nil ⟨by decide, fun D0 hD0 => ?_⟩
  refine op_ne_nil (.inl rfl) (.head _) (pys_map _ (fun i => .int i) (fun i => by simp [V.py]) _) (lay_map _ _ fun i _ => by simp [PyData.canLay0]) hu ⟨_, rfl, ?_⟩
  by_cases h0 : ns = []
  · subst h0
    rw [if_neg (by decide)]
    refine ev_list ?_
    refine evs_nil ⟨by decide, fun O hO => ?_⟩
    refine exs_cons ?_
    refine ex_for R.hd (fun _ => rfl) ?_
    refine ev_local rfl rfl rfl rfl ?_
    refine ⟨_, _, _, EntV.refl, rfl, ?_⟩
    refine for_nil ?_
    refine exs_nil ?_
    refine exs_cons ?_
    refine ex_ret ?_
    refine Ev.entv ?_
    refine ev_local rfl rfl rfl rfl ?_
    refine ⟨_, _, EntV.freeze (.head _), ?_⟩
    simp [V.fz, builtL, listsV]
  · rw [if_pos (by cases ns <;> simp_all)]
    refine ev_list ?_
    refine evs_cons rfl ?_
    refine ev_list ?_
    refine evs_nil ⟨by decide, fun I hI => ?_⟩
    refine evs_nil ⟨by simp, fun O hO => ?_⟩
    have hOI : I ≠ O := hO (I, []) (.head _)
    refine Exs.ent (st₀ := inner (intsV ns) O I ([], [])) (ent_less (.cons rfl (.cons rfl .nil)) ?_ ?_) ?_
    · intro p hp
      rcases List.mem_cons.mp hp with rfl | hp
      · exact .tail _ (.head _)
      · rcases List.mem_cons.mp hp with rfl | hp
        · exact .head _
        · cases hp
    · intro _
      simp [hOI]
    refine exs_cons ?_
    refine ex_for R.hd (fun _ => rfl) ?_
    refine ev_local rfl rfl rfl rfl ?_
    refine ⟨_, _, _, EntV.refl, rfl, ?_⟩
    refine for_inv V.int (fun dn st => ∃ I, I ≠ O ∧ st = inner (intsV ns) O I (runP dn)) ns ⟨I, hOI, rfl⟩ ?_ ?_
    · rintro dn x rest st e ⟨I, hIO, rfl⟩
      have hOI' : O ≠ I := Ne.symm hIO
      have hdn : dn.length + 1 ≤ 63 := by
        rw [e] at hn; simp at hn; omega
      have gd : Good dn.length (runP dn) := good_run dn
      have hstep : runP (dn ++ [x]) = stepP (runP dn) x := by simp [runP, List.foldl_append]
      revert gd hstep
      generalize runP dn = rp
      obtain ⟨done, last⟩ := rp
      intro gd hstep
      have g1 : done.length ≤ dn.length := gd.n
      have g2 : last.length ≤ dn.length := gd.l
      refine asg_name rfl rfl ?_
      refine exs_cons ?_
      refine ex_assign rfl rfl rfl ?_
      refine ev_bin ?_
      refine ev_local rfl rfl rfl rfl ?_
      refine ev_int ?_
      refine op_div (by decide) (by decide) ?_
      refine exs_cons ?_
      refine ex_assign rfl rfl rfl ?_
      refine ev_subs ?_
      refine ev_list ?_
      refine evs_cons rfl (ev_str ?_)
      refine evs_cons rfl (ev_str ?_)
      refine evs_cons rfl (ev_str ?_)
      refine evs_cons rfl (ev_str ?_)
      refine evs_cons rfl (ev_str ?_)
      refine evs_nil ⟨by simp, fun D hD => ?_⟩
      refine ev_bin ?_
      refine ev_local rfl rfl rfl rfl ?_
      refine ev_int ?_
      refine op_mod (by decide) ?_
      refine sub_list (.head _) (fun _ _ => rfl) (by omega) (by omega) (seqIndex_pos (by omega) (by show _ < ((5 : Nat) : Int); omega)) (keyOf_get (x / 4)) ?_
      refine Exs.ent (st₀ := ⟨[(Str.ofString "script", intsV ns), (Str.ofString "lists", .list O), (Str.ofString "x", .int x), (Str.ofString "n", .int (x / 4)), (Str.ofString "key", .str (keyOf (x / 4)))], [(I, last.map pairV), (O, done.map pairsV ++ [.list I])]⟩) (ent_drop (.cons rfl (.cons rfl (.cons rfl (.cons rfl (.cons rfl .nil)))))) ?_
      refine exs_cons ?_
      refine ex_if ?_
      refine tst_cmp rfl ?_
      refine ev_bin ?_
      refine ev_local rfl rfl rfl rfl ?_
      refine ev_int ?_
      refine op_mod (by decide) ?_
      refine ev_int ?_
      refine op_eqi ⟨_, rfl, ?_⟩
      by_cases c0 : x % 4 = 0
      · rw [if_pos (by simp [c0])]
        refine exs_cons ?_
        refine ex_expr rfl rfl ?_
        refine ev_meth rfl rfl rfl rfl rfl ?_
        refine ev_local rfl rfl rfl rfl ?_
        refine ⟨_, _, mf_append, ty_list (.tail _ (.head _)), ?_⟩
        refine evs_cons rfl ?_
        refine ev_list ?_
        refine evs_nil ⟨by simp, fun N hN => ?_⟩
        refine evs_nil ?_
        have hNI : I ≠ N := hN (I, last.map pairV) (.head _)
        have hNO : O ≠ N := hN (O, done.map pairsV ++ [.list I]) (.tail _ (.head _))
        refine cb_append (.tail _ (.tail _ (.head _))) (by simp; omega) ⟨rfl, ?_⟩
        refine exs_nil ?_
        refine exs_nil ?_
        refine ⟨inner (intsV ns) O N (runP (dn ++ [x])), ?_, N, Ne.symm hNO, rfl⟩
        have e1 : setA O (done.map pairsV ++ [V.list I] ++ [V.list N]) [(N, []), (I, last.map pairV), (O, done.map pairsV ++ [.list I])] = [(N, []), (I, last.map pairV), (O, done.map pairsV ++ [.list I] ++ [.list N])] := by
          simp [setA, Ne.symm hNO, hIO]
        refine Ent.trans (ent_set e1 (l₀ := [(Str.ofString "script", intsV ns), (Str.ofString "lists", .list O)]) (.cons rfl (.cons rfl .nil))) ?_
        refine Ent.trans (Ent.freeze (a := I) (xs := last.map pairV) (.tail _ (.head _))) ?_
        have e2 : St.fz ⟨[(Str.ofString "script", intsV ns), (Str.ofString "lists", .list O)], [(N, []), (I, last.map pairV), (O, done.map pairsV ++ [.list I] ++ [.list N])]⟩ I (last.map pairV) = inner (intsV ns) O N (runP (dn ++ [x])) := by
          rw [hstep]
          simp only [stepP, if_pos c0, inner, St.fz, List.map_cons, List.map_nil, V.fz_pur I _ _ (pur_ints ns), V.fz, hOI', Ne.symm hNI, List.filter_cons, List.filter_nil, ne_eq, not_true_eq_false, decide_false, not_false_eq_true, decide_true, if_true, Bool.false_eq_true, if_false, fzs_append, fz_pairs, List.map_append, V.fzs, pairsV]
        rw [e2]
        exact Ent.refl
      rw [if_neg (by simp [c0])]
      refine exs_cons ?_
      refine ex_if ?_
      refine tst_cmp rfl ?_
      refine ev_bin ?_
      refine ev_local rfl rfl rfl rfl ?_
      refine ev_int ?_
      refine op_mod (by decide) ?_
      refine ev_int ?_
      refine op_eqi ⟨_, rfl, ?_⟩
      by_cases c1 : x % 4 = 1
      · rw [if_pos (by simp [c1])]
        refine exs_cons ?_
        refine ex_expr rfl rfl ?_
        refine ev_meth rfl rfl rfl rfl rfl ?_
        refine ev_last ?_
        refine ev_local rfl rfl rfl rfl ⟨O, _, _, rfl, .tail _ (.head _), ?_⟩
        refine ⟨_, _, mf_append, ty_list (.head _), ?_⟩
        refine evs_cons rfl ?_
        refine ev_tuple ?_
        refine evs_cons rfl (ev_local rfl rfl rfl rfl ?_)
        refine evs_cons rfl (ev_none ?_)
        refine evs_nil ⟨by simp, ?_⟩
        refine evs_nil ?_
        refine cb_append (.head _) (by simp; omega) ⟨rfl, ?_⟩
        refine exs_nil ?_
        refine exs_nil ?_
        refine exs_nil ?_
        refine ⟨inner (intsV ns) O I (runP (dn ++ [x])), ?_, I, hIO, rfl⟩
        refine ent_set ?_ (.cons rfl (.cons rfl .nil))
        rw [hstep]
        simp [setA, stepP, c1, pairV, optV]
      rw [if_neg (by simp [c1])]
      refine exs_cons ?_
      refine ex_if ?_
      refine tst_cmp rfl ?_
      refine ev_bin ?_
      refine ev_local rfl rfl rfl rfl ?_
      refine ev_int ?_
      refine op_mod (by decide) ?_
      refine ev_int ?_
      refine op_eqi ⟨_, rfl, ?_⟩
      by_cases c2 : x % 4 = 2
      · rw [if_pos (by simp [c2])]
        refine exs_cons ?_
        refine ex_expr rfl rfl ?_
        refine ev_meth rfl rfl rfl rfl rfl ?_
        refine ev_last ?_
        refine ev_local rfl rfl rfl rfl ⟨O, _, _, rfl, .tail _ (.head _), ?_⟩
        refine ⟨_, _, mf_append, ty_list (.head _), ?_⟩
        refine evs_cons rfl ?_
        refine ev_tuple ?_
        refine evs_cons rfl (ev_local rfl rfl rfl rfl ?_)
        refine evs_cons rfl (ev_str ?_)
        refine evs_nil ⟨by simp, ?_⟩
        refine evs_nil ?_
        refine cb_append (.head _) (by simp; omega) ⟨rfl, ?_⟩
        refine exs_nil ?_
        refine exs_nil ?_
        refine exs_nil ?_
        refine exs_nil ?_
        refine ⟨inner (intsV ns) O I (runP (dn ++ [x])), ?_, I, hIO, rfl⟩
        refine ent_set ?_ (.cons rfl (.cons rfl .nil))
        rw [hstep]
        simp [setA, stepP, c2, pairV, optV]
      rw [if_neg (by simp [c2])]
      have hstep3 : runP (dn ++ [x]) = (done, addSign last (keyOf (x / 4)) (signC (x / 4))) := by rw [hstep]; simp [stepP, c0, c1, c2]
      refine exs_cons ?_
      refine ex_if ?_
      refine tst_or ?_
      refine tst_cmp rfl ?_
      refine ev_last ?_
      refine ev_local rfl rfl rfl rfl ⟨O, _, _, rfl, .tail _ (.head _), ?_⟩
      refine ev_list ?_
      refine evs_nil ⟨by decide, fun D1 hD1 => ?_⟩
      have hDI : I ≠ D1 := hD1 (I, last.map pairV) (.head _)
      have hDO : O ≠ D1 := hD1 (O, done.map pairsV ++ [.list I]) (.tail _ (.head _))
      refine op_eq_nil (.inr ⟨I, rfl, .tail _ (.head _)⟩) (.head _) (pys_map _ pairD py_pair _) (lay_map _ _ fun q hq => lay_pair (gd.e q hq)) hu ⟨_, rfl, ?_⟩
      have addIt : (∀ k' v, last.getLast? ≠ some (k', some v)) → Exs G A (lenv L f cd) [.Expr (.Call (.Attribute (.Subscript (.Name (Str.ofString "lists") ⟨38, 12, 38, 17⟩) (.UnaryOp .USub (.Constant (.int 1) 0 ⟨38, 19, 38, 20⟩) ⟨38, 18, 38, 20⟩) ⟨38, 12, 38, 21⟩) (Str.ofString "append") ⟨38, 12, 38, 28⟩) [.Tuple [.Name (Str.ofString "key") ⟨38, 30, 38, 33⟩, .Call (.Name (Str.ofString "_law_sign") ⟨38, 35, 38, 44⟩) [.Name (Str.ofString "n") ⟨38, 45, 38, 46⟩] [] ⟨38, 35, 38, 47⟩] 0 ⟨38, 29, 38, 48⟩] [] ⟨38, 12, 38, 49⟩) ⟨38, 12, 38, 49⟩]
          ⟨[(Str.ofString "script", intsV ns), (Str.ofString "lists", .list O), (Str.ofString "x", .int x), (Str.ofString "n", .int (x / 4)), (Str.ofString "key", .str (keyOf (x / 4)))], [(D1, []), (I, last.map pairV), (O, done.map pairsV ++ [.list I])]⟩
          fun fl st₁ => fl = .next ∧ Ent G L st₁ (inner (intsV ns) O I (runP (dn ++ [x]))) := by
        intro hne
        refine exs_cons ?_
        refine ex_expr rfl rfl ?_
        refine ev_meth rfl rfl rfl rfl rfl ?_
        refine ev_last ?_
        refine ev_local rfl rfl rfl rfl ⟨O, _, _, rfl, .tail _ (.tail _ (.head _)), ?_⟩
        refine ⟨_, _, mf_append, ty_list (.tail _ (.head _)), ?_⟩
        refine evs_cons rfl ?_
        refine ev_tuple ?_
        refine evs_cons rfl (ev_local rfl rfl rfl rfl ?_)
        refine evs_cons rfl ?_
        refine ev_callp X.fn.isf rfl rfl ?_
        refine ev_global X.b.ok rfl rfl rfl rfl X.gs ⟨rfl, ?_⟩
        refine evs_cons rfl (ev_local rfl rfl rfl rfl ?_)
        refine evs_nil ?_
        refine (calls_sign X (R.less (by decide)) (x / 4)).mono fun v _ hv => ?_
        subst hv
        refine evs_nil ⟨by simp, ?_⟩
        refine evs_nil ?_
        refine cb_append (.tail _ (.head _)) (by simp; omega) ⟨rfl, ?_⟩
        refine exs_nil ⟨rfl, ?_⟩
        have e1 : setA I (last.map pairV ++ [V.tup [.str (keyOf (x / 4)), .str ⟨#[signC (x / 4)]⟩]]) [(D1, []), (I, last.map pairV), (O, done.map pairsV ++ [.list I])] = (D1, []) :: [(I, (addSign last (keyOf (x / 4)) (signC (x / 4))).map pairV), (O, done.map pairsV ++ [.list I])] := by
          have : addSign last (keyOf (x / 4)) (signC (x / 4)) = last ++ [(keyOf (x / 4), some ⟨#[signC (x / 4)]⟩)] := by
            unfold addSign
            split
            · rename_i k' v h; exact absurd h (hne k' v)
            · rfl
          rw [this]
          simp [setA, Ne.symm hDI, pairV, optV]
        refine Ent.trans (ent_set e1 (fun _ _ h => h)) ?_
        rw [hstep3]
        exact ent_drop (.cons rfl (.cons rfl .nil))
      cases hl : last.getLast? with
      | none =>
        have hnil : last = [] := List.getLast?_eq_none_iff.mp hl
        rw [if_pos (by simp [hnil]), if_pos rfl]
        refine (addIt fun k' v h => by rw [hl] at h; cases h).mono fun fl st₁ ⟨h1, h2⟩ => ?_
        subst h1
        refine exs_nil ?_
        refine exs_nil ?_
        refine exs_nil ?_
        refine exs_nil ?_
        exact ⟨_, h2, I, hIO, rfl⟩
      | some q =>
        have hlast := getLast_pair hl
        rw [if_neg (by rw [hlast]; simp)]
        obtain ⟨k', v'⟩ := q
        have hq := gd.e (k', v') (by show (k', v') ∈ last; exact List.mem_of_getLast? hl)
        have hmap : last.map pairV = last.dropLast.map pairV ++ [pairV (k', v')] := by
          conv => lhs; rw [hlast]
          simp
        refine tst_or ?_
        refine tst_cmp rfl ?_
        refine ev_subs ?_
        refine ev_last ?_
        refine ev_last ?_
        refine ev_local rfl rfl rfl rfl ⟨O, _, _, rfl, .tail _ (.tail _ (.head _)), ?_⟩
        refine ⟨I, last.dropLast.map pairV, pairV (k', v'), rfl, by rw [← hmap]; exact .tail _ (.head _), ?_⟩
        refine ev_int ?_
        refine sub_tup (fun _ _ => rfl) (by decide) (by decide) (seqIndex_pos (by decide) (by show (1 : Int) < ((2 : Nat) : Int); decide)) rfl ?_
        refine ev_none ?_
        cases v' with
        | none =>
          refine op_is_none nn_none ⟨_, rfl, ?_⟩
          rw [if_pos rfl, if_pos rfl]
          refine (addIt fun k' v h => by rw [hl] at h; cases h).mono fun fl st₁ ⟨h1, h2⟩ => ?_
          subst h1
          refine exs_nil ?_
          refine exs_nil ?_
          refine exs_nil ?_
          refine exs_nil ?_
          exact ⟨_, h2, I, hIO, rfl⟩
        | some v =>
          refine op_is_none nn_str ⟨_, rfl, ?_⟩
          rw [if_neg (by decide)]
          refine tst_or_nil ?_
          rw [if_neg (by decide)]
          have hv := (hq.2 v rfl).1
          refine exs_cons ?_
          refine ex_assign_tup rfl rfl ?_
          refine ev_last ?_
          refine ev_last ?_
          refine ev_local rfl rfl rfl rfl ⟨O, _, _, rfl, .tail _ (.tail _ (.head _)), ?_⟩
          refine ⟨I, last.dropLast.map pairV, pairV (k', some v), rfl, by rw [← hmap]; exact .tail _ (.head _), ?_⟩
          refine asg_tuple R.hd rfl (fun _ _ _ h => nomatch h) rfl rfl ?_
          refine asgs_cons rfl (asg_name rfl rfl ?_)
          refine asgs_cons rfl (asg_name rfl rfl ?_)
          refine asgs_nil ?_
          refine exs_cons ?_
          refine ex_setlast rfl ?_
          refine ev_tuple ?_
          refine evs_cons rfl (ev_local rfl rfl rfl rfl ?_)
          refine evs_cons rfl ?_
          refine ev_bin ?_
          refine ev_local rfl rfl rfl rfl ?_
          refine ev_callp X.fn.isf rfl rfl ?_
          refine ev_global X.b.ok rfl rfl rfl rfl X.gs ⟨rfl, ?_⟩
          refine evs_cons rfl (ev_local rfl rfl rfl rfl ?_)
          refine evs_nil ?_
          refine (calls_sign X (R.less (by decide)) (x / 4)).mono fun w _ hw => ?_
          subst hw
          refine op_add_str (by show v.length + 1 ≤ _; omega) ?_
          refine evs_nil ⟨by simp, ?_⟩
          refine ev_last ?_
          refine ev_local rfl rfl rfl rfl ⟨O, _, _, rfl, .tail _ (.tail _ (.head _)), ?_⟩
          refine ev_un ?_
          refine ev_int ?_
          refine op_neg ⟨rfl, ?_⟩
          refine ⟨I, last.dropLast.map pairV, pairV (k', some v), rfl, by rw [← hmap]; exact .tail _ (.head _), ?_⟩
          refine exs_nil ?_
          refine exs_nil ?_
          refine exs_nil ?_
          refine exs_nil ?_
          refine exs_nil ?_
          refine ⟨_, ?_, I, hIO, rfl⟩
          have e1 : setA I (last.dropLast.map pairV ++ [V.tup [.str k', .str (v ++ ⟨#[signC (x / 4)]⟩)]]) [(D1, []), (I, last.map pairV), (O, done.map pairsV ++ [.list I])] = (D1, []) :: [(I, (addSign last (keyOf (x / 4)) (signC (x / 4))).map pairV), (O, done.map pairsV ++ [.list I])] := by
            simp [setA, Ne.symm hDI, pairV, optV, addSign, hl]
          refine Ent.trans (ent_set e1 (fun _ _ h => h)) ?_
          rw [hstep3]
          exact ent_drop (.cons rfl (.cons rfl .nil))
    · rintro st ⟨I, hIO, rfl⟩
      refine exs_nil ?_
      refine exs_cons ?_
      refine ex_ret ?_
      refine Ev.entv ?_
      refine ev_local rfl rfl rfl rfl ?_
      refine ⟨_, _, (EntV.freeze (a := I) (.head _)).trans (EntV.freeze (a := O) (xs := (builtL ns).map pairsV) ?_), ?_⟩
      · rw [inner_fz hIO (pur_ints ns)]
        simp only [builtL, if_neg h0]
        exact .head _
      · simp [V.fz, Ne.symm hIO, listsV]
end
end Mine

/-! part W02d -/
set_option maxRecDepth 100000
set_option Elab.async false
set_option linter.unusedVariables false
namespace Mine
open PySem PyProof.Rows PySem.Builtin.Re PySem.W PySem.Spec

theorem keys_len : ∀ k ∈ keysT, k.length ≤ 8 := by decide +kernel
theorem word_len {m : Nat} {p : Pair} (g : GoodP m p) (hm : m ≤ 64) : (wordS p).length ≤ 150 := by
  obtain ⟨k, v⟩ := p
  have hk := keys_len k g.1
  cases v with
  | none => show k.length ≤ 150; omega
  | some v =>
    have hv := (g.2 v rfl).1
    show (Str.empty ++ k ++ Str.ofString "=" ++ valS v).length ≤ 150
    have h2 : (valS v).length ≤ 2 * v.length + 2 := by
      unfold valS
      split
      · omega
      · rw [strLen_append, strLen_append, len_q]
        have := escL_length v.cps.toList
        have h3 : v.cps.toList.length = v.length := Array.length_toList
        show 1 + (escL v.cps.toList).toArray.size + 1 ≤ _
        rw [List.size_toArray]; omega
    rw [strLen_append, strLen_append, strLen_append, len_e]
    show 0 + k.length + 1 + _ ≤ _
    omega
theorem sum_le {xs : List Str} {b : Nat} (h : ∀ x ∈ xs, x.length ≤ b) : (xs.map fun x => x.length + 2).sum ≤ xs.length * (b + 2) := by
  induction xs with
  | nil => simp
  | cons x xs ih =>
    have h1 := h x (.head _)
    have h2 := ih fun y hy => h y (.tail _ hy)
    rw [List.map_cons, List.sum_cons, List.length_cons, Nat.add_mul]
    omega
theorem join_le {sep : Str} (hs : sep.length = 2) (xs : List Str) : (Str.join sep xs).length ≤ (xs.map fun x => x.length + 2).sum := by
  have := join_len_le sep xs
  rw [hs] at this
  exact this
structure GoodL (ls : List (List Pair)) : Prop where
  n : ls.length ≤ 64
  l : ∀ ps ∈ ls, ps.length ≤ 64
  p : ∀ ps ∈ ls, ∀ q ∈ ps, GoodP 64 q
theorem good_built {ns : List Int} (hn : ns.length ≤ 63) : GoodL (builtL ns) := by
  have g := good_run ns
  unfold builtL
  split
  · exact ⟨by simp, (fun _ h => by cases h), (fun _ h => by cases h)⟩
  · refine ⟨?_, fun ps h => ?_, fun ps h q hq => ?_⟩
    · have := g.n; simp; omega
    · rcases List.mem_append.mp h with h | h
      · have := g.ll ps h; omega
      · simp at h; subst h; have := g.l; omega
    · rcases List.mem_append.mp h with h | h
      · exact (g.d ps h q hq).mono (by omega)
      · simp at h; subst h; exact (g.e q hq).mono (by omega)
theorem head_len {ps : List Pair} (h : ps.length ≤ 64) (g : ∀ q ∈ ps, GoodP 64 q) : ((ps.map wordS).map fun x => x.length + 2).sum ≤ 9728 := by
  have := sum_le (xs := ps.map wordS) (b := 150) fun x hx => by
    obtain ⟨q, hq, rfl⟩ := List.mem_map.mp hx
    exact word_len (g q hq) (Nat.le_refl _)
  rw [List.length_map] at this
  have h2 : ps.length * 152 ≤ 64 * 152 := Nat.mul_le_mul_right _ h
  omega
theorem ok_lists {ls : List (List Pair)} (g : GoodL ls) : OkLists ls where
  pairs ps h p hp := by
    have := g.p ps h p hp
    refine ⟨?_, fun v e => ?_⟩
    · have := keys_len _ this.1; omega
    · have := (this.2 v e).1; omega
  heads ps h := by have := head_len (g.l ps h) (g.p ps h); omega
  whole := by
    have h1 : ∀ x ∈ headsS ls, x.length ≤ 9728 := fun x hx => by
      obtain ⟨ps, hps, rfl⟩ := List.mem_map.mp hx
      have hm := (List.mem_filter.mp hps).1
      exact Nat.le_trans (join_le len_sc _) (head_len (g.l ps hm) (g.p ps hm))
    have h2 := sum_le h1
    have h3 : (headsS ls).length ≤ 64 := by
      have : (headsS ls).length ≤ ls.length := by simp only [headsS, List.length_map]; exact List.length_filter_le _ _
      have := g.n; omega
    have h4 : (headsS ls).length * 9730 ≤ 64 * 9730 := Nat.mul_le_mul_right _ h3
    omega
  lens := ⟨by have := g.n; omega, fun ps h => by have := g.l ps h; omega⟩
theorem joinS_len {ls : List (List Pair)} (g : GoodL ls) : (joinS ls).length ≤ 700000 := by
  have h1 : ∀ x ∈ headsS ls, x.length ≤ 9728 := fun x hx => by
    obtain ⟨ps, hps, rfl⟩ := List.mem_map.mp hx
    have hm := (List.mem_filter.mp hps).1
    exact Nat.le_trans (join_le len_sc _) (head_len (g.l ps hm) (g.p ps hm))
  have h2 := sum_le h1
  have h3 : (headsS ls).length ≤ 64 := by
    have : (headsS ls).length ≤ ls.length := by simp only [headsS, List.length_map]; exact List.length_filter_le _ _
    have := g.n; omega
  have h4 : (headsS ls).length * 9730 ≤ 64 * 9730 := Nat.mul_le_mul_right _ h3
  have := join_le len_cm (headsS ls)
  show (Str.join (Str.ofString ", ") (headsS ls)).length ≤ _
  omega
theorem ok_joinS {ls : List (List Pair)} (g : GoodL ls) : okS (joinS ls) :=
  okS_joinS fun ps h p hp => ⟨keys_ok _ (g.p ps h p hp).1, fun v e => ((g.p ps h p hp).2 v e).2⟩
/-- a part of the lists -/
theorem GoodL.part {ls done : List (List Pair)} {ps : List Pair} {rest : List (List Pair)} (g : GoodL ls) (e : ls = done ++ ps :: rest) (n : Nat) : GoodL (done ++ [ps.take n]) := by
  have hps : ps ∈ ls := by rw [e]; exact List.mem_append_right _ (.head _)
  have hd : ∀ qs ∈ done, qs ∈ ls := fun qs h => by rw [e]; exact List.mem_append_left _ h
  have := g.n
  rw [e] at this
  simp at this
  refine ⟨by simp; omega, fun qs h => ?_, fun qs h q hq => ?_⟩
  · rcases List.mem_append.mp h with h | h
    · exact g.l _ (hd _ h)
    · simp at h; subst h
      have := g.l ps hps
      rw [List.length_take]; omega
  · rcases List.mem_append.mp h with h | h
    · exact g.p _ (hd _ h) q hq
    · simp at h; subst h
      exact g.p ps hps q (List.mem_of_mem_take hq)
end Mine

/-! part W02e -/
set_option maxRecDepth 100000
set_option Elab.async false
set_option linter.unusedVariables false
namespace Mine
open PySem PyProof.Rows PySem.Builtin.Re PySem.W PySem.Spec

structure LG (G : Gl) (tokP escP cj tP fj fs fl fw : Addr) (cdj cds cdl cdw : Value) : Prop where
  j : JG G tokP escP cj tP
  s : SG G fs cds
  hcj : cdj = .ref cj
  gj : G.mg (Str.ofString "join_header_words") = some (.ref fj)
  gl : G.mg (Str.ofString "_law_lists") = some (.ref fl)
  gw : G.mg (Str.ofString "_law_written") = some (.ref fw)
  fj : Fn G fj (Str.ofString "join_header_words") [Str.ofString "lists"] (fnBody PW 4) (fnScope PW 4) cdj
  fl : Fn G fl (Str.ofString "_law_lists") [Str.ofString "script"] (fnBody PW 7) (fnScope PW 7) cdl
  fw : FnC G fw (Str.ofString "_law_written") [Str.ofString "value"] (fnBody PW 8) (fnScope PW 8) cdw (Str.ofString "bare")

section
variable {G : Gl} {A : Around} {L f tokP escP cj tP fj fs fl fw : Addr} {cd cdj cds cdl cdw : Value}

theorem BG.cell {c : Addr} {v : V} (B : BG G) : BG (G.cell c v) := ⟨B.ok.cell c v, B.chr, B.len, B.range⟩

theorem calls_join (X : LG G tokP escP cj tP fj fs fl fw cdj cds cdl cdw) (R : Room A 4) (ls : List (List Pair)) (ok : OkLists ls) : Calls G A fj [listsV ls] [] fun v _ => v = .str (joinS ls) :=
  fn_call X.j.ok X.fj (by have := R.dp; omega) rfl fun L' => by
    rw [X.hcj]
    exact (join_body X.j (R.deeper _) ls ok).mono fun fl st' h => by subst h; rfl
theorem calls_lists (X : LG G tokP escP cj tP fj fs fl fw cdj cds cdl cdw) (R : Room A 4) (ns : List Int) (hn : ns.length ≤ 63) : Calls G A fl [intsV ns] [] fun v _ => v = listsV (builtL ns) :=
  fn_call X.j.ok X.fl (by have := R.dp; omega) rfl fun L' => (lists_body X.s (R.deeper _) ns hn).mono fun fl st' h => by subst h; rfl
theorem calls_written (X : LG G tokP escP cj tP fj fs fl fw cdj cds cdl cdw) (R : Room A 4) (v : Str) (hv : v.length ≤ 400000) (hok : okS v) : Calls G A fw [.str v] [] fun r _ => r = .str (valS v) :=
  fn_call_cell X.j.ok X.fw (by have := R.dp; omega) rfl (fun _ => rfl) fun L' => by
    refine ev_str ?_
    exact (written_body (X.s.b.cell) (R.deeper _) v hv hok (.head _)).mono fun fl st' h => by subst h; rfl

abbrev lawenv (L f : Addr) (cd : Value) : Env := envOf (Str.ofString "law") (fnScope PW 9) L f cd
theorem cut63 {ns : List Int} (hn : ns.length ≤ 63) : cutL (ns.map V.int) none (some 63) = ns.map V.int := by
  unfold cutL
  simp only [Option.elim, List.drop_zero, Nat.sub_zero]
  have : clipAt (ns.map V.int).length ((63 : Nat) : Int) = min 63 (ns.map V.int).length := clipAt_nat _ _
  change List.take (clipAt (ns.map V.int).length ((63 : Nat) : Int)) _ = _
  rw [this]
  apply List.take_of_length_le
  simp; omega
theorem rsize_ok (n : Nat) : Builtin.Range.rangeSize 0 (n : Int) 1 = (n : Int) := by
  unfold Builtin.Range.rangeSize
  rw [if_pos (by decide)]
  split
  · rw [Int.ediv_one]; omega
  · omega
theorem small_ok {n : Nat} (h : n ≤ 1000) : Builtin.Range.small 0 (n : Int) 1 = true := by
  unfold Builtin.Range.small
  rw [rsize_ok]
  unfold Builtin.Range.rangeFitsLong
  simp only [Bool.and_eq_true, decide_eq_true_eq, Bool.or_eq_true]
  simp
  omega

theorem law_body (X : LG G tokP escP cj tP fj fs fl fw cdj cds cdl cdw) (R : Room A 8) (ns : List Int) (hn : ns.length ≤ 63) :
    Exs G A (lawenv L f cd) (fnBody PW 9) ⟨[(Str.ofString "script", intsV ns)], []⟩ fun fl st' => fl = .ret (.bool true) := by
  have g := good_built hn
  refine exs_cons ?_
  refine ex_assign rfl rfl rfl ?_
  refine ev_slice_list (fun _ _ => rfl) ?_
  refine ev_local rfl rfl rfl rfl ?_
  refine pt_none ?_
  refine pt_some ?_
  refine ev_int ⟨_, rfl, ?_⟩
  refine ⟨ns.map V.int, .inl rfl, by simp; omega, fun D hD => ?_⟩
  rw [cut63 hn]
  refine Exs.ent (Ent.freeze (a := D) (.head _)) ?_
  refine Exs.ent (st₀ := ⟨[(Str.ofString "script", intsV ns)], []⟩) (ent_set ?_ (.cons ?_ .nil)) ?_
  · simp [St.set]
  · simp [V.fz, St.set, setL, intsV]
  refine exs_cons ?_
  refine ex_assign rfl rfl rfl ?_
  refine ev_callp X.fl.isf rfl rfl ?_
  refine ev_global X.j.ok rfl rfl rfl rfl X.gl ⟨rfl, ?_⟩
  refine evs_cons rfl (ev_local rfl rfl rfl rfl ?_)
  refine evs_nil ?_
  refine (calls_lists X (R.less (by decide)) ns hn).mono fun v _ hv => ?_
  subst hv
  generalize builtL ns = ls at g ⊢
  refine exs_cons ?_
  refine ex_assign rfl rfl rfl ?_
  refine ev_str ?_
  refine exs_cons ?_
  refine ex_assign rfl rfl rfl ?_
  refine ev_bool ?_
  refine exs_cons ?_
  refine ex_for R.hd (fun _ => rfl) ?_
  refine ev_local rfl rfl rfl rfl ?_
  refine ⟨_, _, _, EntV.refl, rfl, ?_⟩
  refine for_inv pairsV (fun done st => st = ⟨[(Str.ofString "script", intsV ns), (Str.ofString "lists", listsV ls), (Str.ofString "due", .str (joinS done)), (Str.ofString "begun", .bool (!(headsS done).isEmpty))], []⟩) ls ?_ ?_ ?_
  · simp only [joinS, headsS, List.filter_nil, List.map_nil, Str.join]
    rw [← empty_is]
    rfl
  · rintro done ps rest st e rfl
    have hps : ps ∈ ls := by rw [e]; exact List.mem_append_right _ (.head _)
    have hpl := g.l ps hps
    refine asg_name rfl rfl ?_
    refine exs_cons ?_
    refine ex_for R.hd (fun _ => rfl) ?_
    refine ev_tcall (T := "range") rfl rfl ?_
    refine ev_builtin X.j.ok rfl rfl rfl rfl rfl X.s.b.range.1 X.s.b.range.2 ⟨rfl, ?_⟩
    refine evs_cons rfl ?_
    refine ev_bcall (id := "len") rfl rfl ?_
    refine ev_builtin X.j.ok rfl rfl rfl rfl rfl X.s.b.len.1 X.s.b.len.2 ⟨rfl, ?_⟩
    refine evs_cons rfl (ev_local rfl rfl rfl rfl ?_)
    refine evs_nil ?_
    refine cb_len_fl (by simp; omega) ?_
    rw [List.length_map]
    refine evs_nil ?_
    refine ct_range1 ?_
    refine ⟨_, _, rngItems 0 (ps.length : Int) 1, EntV.refl, by simp only [iterItems]; rw [if_pos (small_ok (by omega))], ?_⟩
    have hr : rngItems 0 (ps.length : Int) 1 = (List.range ps.length).map fun (i : Nat) => V.int (0 + (i : Int) * 1) := by
      unfold rngItems
      rw [rsize_ok, Int.toNat_natCast]
    rw [hr]
    refine for_inv (fun (i : Nat) => V.int (0 + (i : Int) * 1)) (fun dn st => st = ⟨[(Str.ofString "script", intsV ns), (Str.ofString "lists", listsV ls), (Str.ofString "due", .str (joinS (done ++ [ps.take dn.length]))), (Str.ofString "begun", .bool (!(headsS (done ++ [ps.take dn.length])).isEmpty)), (Str.ofString "pairs", pairsV ps)], []⟩) (List.range ps.length) ?_ ?_ ?_
    · have h1 : headsS (done ++ [[]]) = headsS done := by rw [heads_snoc]; rfl
      simp only [List.length_nil, List.take_zero, joinS, h1]
      rfl
    · rintro dn i rs st e' rfl
      have hi : i = dn.length ∧ i < ps.length := by
        have h1 : (List.range ps.length)[dn.length]? = some i := by rw [e']; simp
        obtain ⟨h2, h3⟩ := List.getElem?_eq_some_iff.mp h1
        rw [List.getElem_range] at h3
        rw [List.length_range] at h2
        omega
      obtain ⟨hi1, hi2⟩ := hi
      subst hi1
      obtain ⟨p, hp⟩ : ∃ p, ps[dn.length]? = some p := ⟨_, List.getElem?_eq_getElem hi2⟩
      have htake : ps.take (dn.length + 1) = ps.take dn.length ++ [p] := by rw [List.take_add_one, hp]; rfl
      have hlen : (dn ++ [dn.length]).length = dn.length + 1 := by simp
      have hpm : p ∈ ps := List.mem_of_getElem? hp
      have gp := g.p ps hps p hpm
      have g1 := joinS_len (g.part e dn.length)
      have hql : (ps.take dn.length).length = dn.length := by rw [List.length_take]; omega
      have hsn := joinS_snoc done (ps.take dn.length) p
      have hne := heads_snoc_ne done (ps.take dn.length) p
      rw [← htake] at hsn hne
      rw [hlen]
      rw [hsn, hne]
      generalize joinS (done ++ [ps.take dn.length]) = J at g1 hsn ⊢
      generalize (headsS (done ++ [ps.take dn.length])).isEmpty = b at hsn ⊢
      rw [hql]
      refine asg_name rfl rfl ?_
      refine exs_mid (fun st₁ => st₁ = ⟨[(Str.ofString "script", intsV ns), (Str.ofString "lists", listsV ls), (Str.ofString "due", .str (J ++ (if b then Str.empty else if 0 < dn.length then Str.ofString "; " else Str.ofString ", "))), (Str.ofString "begun", .bool (!b)), (Str.ofString "pairs", pairsV ps), (Str.ofString "k", .int (0 + (dn.length : Int) * 1))], []⟩) ?_ ?_
      · refine ex_if ?_
        refine tst_plain (fun _ => rfl) ?_
        refine ev_local rfl rfl rfl rfl ?_
        refine tru_bool ?_
        cases b with
        | true =>
          rw [if_neg (by decide)]
          refine exs_nil ⟨rfl, ?_⟩
          simp only [if_true, str_app_nil]
          rfl
        | false =>
          rw [if_pos (by decide)]
          refine exs_cons ?_
          refine ex_assign rfl rfl rfl ?_
          refine ev_bin ?_
          refine ev_local rfl rfl rfl rfl ?_
          refine ev_ite ?_
          refine tst_cmp rfl ?_
          refine ev_local rfl rfl rfl rfl ?_
          refine ev_int ?_
          refine op_gti ⟨_, rfl, ?_⟩
          by_cases h0 : 0 < dn.length
          · rw [if_pos (by simp; omega)]
            refine ev_str ?_
            refine op_add_str (by rw [len_sc]; omega) ?_
            refine exs_nil ⟨rfl, ?_⟩
            simp only [Bool.false_eq_true, if_false, if_pos h0]
            rfl
          · rw [if_neg (by rw [show dn.length = 0 by omega]; decide)]
            refine ev_str ?_
            refine op_add_str (by rw [len_cm]; omega) ?_
            refine exs_nil ⟨rfl, ?_⟩
            simp only [Bool.false_eq_true, if_false, if_neg h0]
            rfl
      · rintro st rfl
        have g2 : (J ++ (if b then Str.empty else if 0 < dn.length then Str.ofString "; " else Str.ofString ", ")).length ≤ 700002 := by
          rw [strLen_append]
          have : (if b then Str.empty else if 0 < dn.length then Str.ofString "; " else Str.ofString ", ").length ≤ 2 := by
            split
            · decide
            · split
              · rw [len_sc]; exact Nat.le_refl _
              · rw [len_cm]; exact Nat.le_refl _
          omega
        generalize J ++ (if b then Str.empty else if 0 < dn.length then Str.ofString "; " else Str.ofString ", ") = J2 at g2 ⊢
        refine exs_cons ?_
        refine ex_assign rfl rfl rfl ?_
        refine ev_bool ?_
        refine exs_cons ?_
        refine ex_assign_tup rfl rfl ?_
        refine ev_subs ?_
        refine ev_local rfl rfl rfl rfl ?_
        refine ev_local rfl rfl rfl rfl ?_
        refine sub_fl (j := dn.length) (v := pairV p) (fun _ _ => rfl) (by omega) (by omega) ?_ (by rw [List.getElem?_map, hp]; rfl) ?_
        · rw [seqIndex_pos (by omega) (by rw [List.length_map]; omega)]
          congr 1
          omega
        obtain ⟨k, v⟩ := p
        have hk := keys_len k gp.1
        refine asg_tuple R.hd rfl (fun _ _ _ h => nomatch h) rfl rfl ?_
        refine asgs_cons rfl (asg_name rfl rfl ?_)
        refine asgs_cons rfl (asg_name rfl rfl ?_)
        refine asgs_nil ?_
        refine exs_cons ?_
        refine ex_assign rfl rfl rfl ?_
        refine ev_ite ?_
        refine tst_cmp rfl ?_
        refine ev_local rfl rfl rfl rfl ?_
        refine ev_none ?_
        cases v with
        | none =>
          refine op_is_none nn_none ⟨_, rfl, ?_⟩
          rw [if_pos rfl]
          refine ev_bin ?_
          refine ev_local rfl rfl rfl rfl ?_
          refine ev_local rfl rfl rfl rfl ?_
          refine op_add_str (by show J2.length + k.length ≤ _; omega) ?_
          refine exs_nil ⟨_, ?_, rfl⟩
          exact ent_loc (.cons rfl (.cons rfl (.cons rfl (.cons rfl (.cons rfl .nil)))))
        | some v =>
          have hv := gp.2 v rfl
          have hvl : (valS v).length ≤ 800002 := valS_length v (by omega)
          refine op_is_none nn_str ⟨_, rfl, ?_⟩
          rw [if_neg (by decide)]
          refine ev_bin ?_
          refine ev_bin ?_
          refine ev_bin ?_
          refine ev_local rfl rfl rfl rfl ?_
          refine ev_local rfl rfl rfl rfl ?_
          refine op_add_str (by show J2.length + k.length ≤ _; omega) ?_
          refine ev_str ?_
          have l1 : (J2 ++ k).length = J2.length + k.length := strLen_append _ _
          have l2 : (J2 ++ k ++ Str.ofString "=").length = J2.length + k.length + 1 := by rw [strLen_append, l1, len_e]
          refine op_add_str (by rw [len_e]; show (J2 ++ k).length + 1 ≤ _; omega) ?_
          refine ev_callp X.fw.isf rfl rfl ?_
          refine ev_global X.j.ok rfl rfl rfl rfl X.gw ⟨rfl, ?_⟩
          refine evs_cons rfl (ev_local rfl rfl rfl rfl ?_)
          refine evs_nil ?_
          refine (calls_written X (R.less (by decide)) v (by omega) hv.2).mono fun r _ hr => ?_
          subst hr
          refine op_add_str (by show (J2 ++ k ++ Str.ofString "=").length + _ ≤ _; omega) ?_
          have ew : J2 ++ wordS (k, some v) = J2 ++ k ++ Str.ofString "=" ++ valS v := by
            show J2 ++ (Str.empty ++ k ++ Str.ofString "=" ++ valS v) = _
            rw [str_nil_app]
            simp only [str_assoc]
          rw [ew]
          refine exs_nil ⟨_, ?_, rfl⟩
          exact ent_loc (.cons rfl (.cons rfl (.cons rfl (.cons rfl (.cons rfl .nil)))))
    · rintro st rfl
      refine exs_nil ?_
      refine exs_nil ⟨_, ?_, rfl⟩
      simp only [List.length_range, List.take_length]
      exact ent_loc (.cons rfl (.cons rfl (.cons rfl (.cons rfl .nil))))
  · rintro st rfl
    refine exs_nil ?_
    refine exs_cons ?_
    refine ex_ret ?_
    refine ev_cmp rfl ?_
    refine ev_list ?_
    refine evs_cons rfl ?_
    refine ev_callp X.fj.isf rfl rfl ?_
    refine ev_global X.j.ok rfl rfl rfl rfl X.gj ⟨rfl, ?_⟩
    refine evs_cons rfl (ev_local rfl rfl rfl rfl ?_)
    refine evs_nil ?_
    refine (calls_join X (R.less (by decide)) ls (ok_lists g)).mono fun v _ hv => ?_
    subst hv
    refine evs_cons rfl ?_
    refine ev_callp X.fj.isf rfl rfl ?_
    refine ev_global X.j.ok rfl rfl rfl rfl X.gj ⟨rfl, ?_⟩
    refine evs_cons rfl (ev_local rfl rfl rfl rfl ?_)
    refine evs_nil ?_
    refine (calls_join X (R.less (by decide)) ls (ok_lists g)).mono fun v _ hv => ?_
    subst hv
    refine evs_nil ⟨by simp, fun D1 hD1 => ?_⟩
    refine ev_list ?_
    refine evs_cons rfl (ev_local rfl rfl rfl rfl ?_)
    refine evs_cons rfl (ev_local rfl rfl rfl rfl ?_)
    refine evs_nil ⟨by simp, fun D2 hD2 => ?_⟩
    have hok : PyData.canLay0 (.list [.str (joinS ls), .str (joinS ls)]) = true := by
      have := ok_joinS g
      simp only [PyData.canLay0, PyData.canLayAll0]
      rw [show PyData.strOk (joinS ls) = true from this]; rfl
    refine op_eq (da := .list [.str (joinS ls), .str (joinS ls)]) (db := .list [.str (joinS ls), .str (joinS ls)]) (.own (.tail _ (.head _)) (by simp [V.pys, V.py])) (.own (.head _) (by simp [V.pys, V.py])) hok hok ?_ ?_
    · have : (PyData.list [.str (joinS ls), .str (joinS ls)]).depth = 1 := by simp [PyData.depth, PyData.depthAll]
      have := R.un
      omega
    · rw [PySem.SeqAt.eqv_refl _ hok]
end
end Mine

/-! part Try02 -/
open PySem PySem.W PyProof.Rows
set_option Elab.async false
theorem Mine.lg_of {G : Mine.Gl} {tokP escP cj tP fj fs fl fw : Addr} {cdj cds cdl cdw : Value} (O : Mine.GlOk G) (h : Mine.GlOk G → Mine.LG G tokP escP cj tP fj fs fl fw cdj cds cdl cdw) : Mine.LG G tokP escP cj tP fj fs fl fw cdj cds cdl cdw := h O
theorem Mine.one_of {ws : List Value} (h : ws.length = 1) : ∃ w, ws = [w] := List.length_eq_one_iff.mp h
set_option maxRecDepth 100000 in
set_option maxHeartbeats 8000000 in
theorem PySem.Challenge.cw_dm0155_02_holds : PySem.Challenge.rw_dm0155_02.Holds := by
  (w_on; o_law; k_head; (case hw => w_witness2); w_strict (k_go0; (all_goals try k_fold)))
  rename Frag.In _ _ => X
  rename Fr _ _ _ _ => F
  rename Top _ _ _ _ _ _ => T
  rename IntsAre _ _ => hI
  rename News _ _ _ _ => N
  rename ¬ ((63 : Int) < _) => hlen
  rename _ = #[] => hg
  refine Mine.law_run (tabs := [⟨43, Mine.LP, Str.ofString "join_header_words" ++ Str.ofString ".<locals>." ++ Str.ofString "<lambda>"⟩]) T (Mine.start_sim F rfl lifted hI hg rfl rfl (fun t ht => by simp at ht; subst ht; exact N _ (.head _)))
    (Mine.law_body (tokP := 36) (escP := 41) (cj := 47) (tP := 43) (fj := 48) (fs := 55) (fl := 62) (fw := 67) (cdj := .ref 47) (cds := .ref 54) (cdl := .ref 61) (cdw := .ref 66) ?J (Mine.room_caller _) _ ?hn) (fun s' hk hos hgn htb => ?_)
  case hn => omega
  case J =>
    refine Mine.lg_of (Mine.glOk_of T (fun bm h => by have e := mg_of (n := Str.ofString "__builtins__") (v := .ref 4) X T.g (by kernel_rfl); cases e.symm.trans h; decide) (by intro t ht t' ht' _; simp at ht ht'; rw [ht, ht'])) (fun O => ?_)
    exact {
      j := {
        ok := O
        tok := ⟨_, _, _, _, _, _, X 36 _ rfl, rfl, rfl, rfl, rfl, rfl, rfl, X 35 _ rfl, rfl, by decide +kernel⟩
        esc := ⟨_, _, _, _, _, _, X 41 _ rfl, rfl, rfl, rfl, rfl, rfl, rfl, X 40 _ rfl, rfl, by decide +kernel⟩
        gtok := mg_of X T.g (by kernel_rfl)
        gesc := mg_of X T.g (by kernel_rfl)
        cdh := codeHd
        tab := .head _ }
      s := {
        b := {
          ok := O
          chr := ⟨mg_none_of X T.g (by kernel_rfl), (T.builtins _ (by decide)).trans (by boot_fast)⟩
          len := ⟨mg_none_of X T.g (by kernel_rfl), (T.builtins _ (by decide)).trans (by boot_fast)⟩
          range := ⟨mg_none_of X T.g (by kernel_rfl), (T.builtins _ (by decide)).trans (by boot_fast)⟩ }
        gs := mg_of X T.g (by kernel_rfl)
        fn := ⟨⟨_, _, _, _, X 55 _ rfl, rfl, fun ws h => by obtain ⟨w, rfl⟩ := Mine.one_of h; rfl⟩, ⟨_, _, _, _, rfl, X _ _ rfl, rfl, rfl⟩, by decide, rfl, rfl, rfl, by decide⟩ }
      hcj := rfl
      gj := mg_of X T.g (by kernel_rfl)
      gl := mg_of X T.g (by kernel_rfl)
      gw := mg_of X T.g (by kernel_rfl)
      fj := ⟨⟨_, _, _, _, X 48 _ rfl, rfl, fun ws h => by obtain ⟨w, rfl⟩ := Mine.one_of h; rfl⟩, ⟨_, _, _, _, rfl, X _ _ rfl, rfl, rfl⟩, by decide, rfl, rfl, rfl, by decide⟩
      fl := ⟨⟨_, _, _, _, X 62 _ rfl, rfl, fun ws h => by obtain ⟨w, rfl⟩ := Mine.one_of h; rfl⟩, ⟨_, _, _, _, rfl, X _ _ rfl, rfl, rfl⟩, by decide, rfl, rfl, rfl, by decide⟩
      fw := ⟨⟨_, _, _, _, X 67 _ rfl, rfl, fun ws h => by obtain ⟨w, rfl⟩ := Mine.one_of h; rfl⟩, ⟨_, _, _, _, rfl, X _ _ rfl, rfl, rfl⟩, by decide, rfl, rfl, rfl, (fun _ => rfl), rfl⟩ }
  obtain ⟨ps, hps⟩ := htb _ (.head _)
  exact ⟨⟨.inl ⟨.bool true, .bool true, [], rfl, (fun _ => rfl), .bool true, postW_of (X := (true == true)) rfl (w_eq_bool (w_res rfl) w_lit) rfl, unshared_nil⟩, hk, hos, hgn⟩, ⟨ps, hps⟩, trivial⟩
