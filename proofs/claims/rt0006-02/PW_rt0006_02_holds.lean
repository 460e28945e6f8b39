import PyProof.Rows.All
import Wide.All
import OpenK.AllK
import Wide.FinOn
import KE.BitLaws
import PySem.Challenge.RW_rt0006_02
open PySem PySem.W PyProof.Rows
set_option Elab.async false
set_option linter.all false
namespace Mine
theorem PySem.W.holds_open {r : OpenRow} {q : Program} {loose : List Str} {Xt : Shared → Bool} {XP : (Str → Option Value) → Heap → Prop} {α : Type} {Yf : Shared → α} {Ya : World → α} {YP : World → Heap → Prop} {d : DefRec} {kwd : List (Str × Expr)} {N : Nat}
    (h1 : ∀ w, (openEnds treeTable r.prog w N).map (fun s => (openSeen q loose (importedModules r.prog.main.body) Xt true s, Yf s)) = some (openGood q loose, Ya w)) (h2 : ∀ w s, Yf s = Ya w → YP w s.heap)
    (h3 : ∀ w h h', YP w h → (∀ b o, h.get? b = some o → h'.get? b = some o) → YP w h') (h4 : ∀ s, Xt s = true → XP (s.heap.nsMap mainGlobals) s.heap) (h5 : ∀ mg h h', XP mg h → (∀ b o, h.get? b = some o → h'.get? b = some o) → XP mg h')
    (h6 : defOf q r.name = some (d, kwd)) (h7 : r.prog.theDef r.name = some (d.params, d.body, d.scope)) (h8 : kwWritten? d.params.kwonlyargs d.params.kw_defaults = some kwd) (h9 : ∀ s, Xt s = true → RecFacts r.records s.heap) (h10 : (!r.writes || r.records.isEmpty) = true)
    (h11 : r.wellSaid = true) (h12 : (chainsOk q && opensWell r.prog && (frees r.toRowW && r.within.isEmpty)) = true) (h13 : r.prog.bare) (h14 : r.toRowW.promised) (h15 : WalkO q loose XP YP r.toRowW d kwd fun f vs => PySem.call f vs) : r.Holds :=
  _root_.PySem.W.holds_open h1 h2 h3 h4 h5 h6 h7 h8 h9 h10 h11 h12 h13 h14 h15
set_option maxRecDepth 100000 in
set_option maxHeartbeats 8000000 in
open_top hd for PySem.Challenge.rw_rt0006_02
end Mine
open PySem.Calls
namespace Mine
section
theorem ns {α : Type} {d : α} {P : Prop} (e : (none : Option α) = some d) : P := nomatch e
theorem dead2 {α : Type} {x : Option α} {d : α} {P : Prop} (e : x = none) (e' : x = some d) : P := nomatch e.symm.trans e'
inductive D where
  | none | bool (b : Bool) | int (i : Int) | str (x : List Nat) | bytes (b : List UInt8)
  | list (ds : List D) | tuple (ds : List D) | range (a b c : Int) | cst (v : Value)

noncomputable abbrev Gh := Addr → Option Obj

inductive SeqAt (g : Gh) (T : String) (a : Addr) (vs : List Value) : Prop
  | mk (o : Obj) (n : Nat) (get : g a = some o) (cls : o.cls = .type T) (dat : o.data = .seq vs.toArray n) (nd : T = "list" → o.dict = Option.none)

mutual
noncomputable def Rep (g : Gh) : D → Value → Prop
  | .none, v => v = .none
  | .bool b, v => v = .bool b
  | .int i, v => ∃ t, v = .int i t
  | .str x, v => ∃ t, v = .str ⟨x.toArray⟩ t
  | .bytes b, v => ∃ t, v = .bytes b.toArray t
  | .cst c, v => v = c
  | .range a b c, v => ∃ r t u w, v = .ref r ∧ g r = some { cls := .type "range", dict := Option.none, data := .fields #[.int a t, .int b u, .int c w], slots := #[] }
  | .list ds, v => ∃ a vs, v = .ref a ∧ SeqAt g "list" a vs ∧ RepL g ds vs
  | .tuple ds, v => ∃ a vs, v = .ref a ∧ SeqAt g "tuple" a vs ∧ RepL g ds vs
noncomputable def RepL (g : Gh) : List D → List Value → Prop
  | [], vs => vs = []
  | d :: ds, vs => ∃ v r, vs = v :: r ∧ Rep g d v ∧ RepL g ds r
end

noncomputable def Sub (g g' : Gh) : Prop := ∀ a o, g a = some o → g' a = some o
theorem Sub.refl (g : Gh) : Sub g g := fun _ _ e => e
theorem Sub.trans {a b c : Gh} (x : Sub a b) (y : Sub b c) : Sub a c := fun k o e => y k o (x k o e)
theorem SeqAt.mono {g g' : Gh} {T a vs} (h : SeqAt g T a vs) (s : Sub g g') : SeqAt g' T a vs := let ⟨o, n, e, c, r, d⟩ := h; ⟨o, n, s _ _ e, c, r, d⟩
mutual
theorem Rep.mono {g g' : Gh} (s : Sub g g') : ∀ {d : D} {v : Value}, Rep g d v → Rep g' d v
  | .none, _, h => h
  | .bool _, _, h => h
  | .int _, _, h => h
  | .str _, _, h => h
  | .bytes _, _, h => h
  | .cst _, _, h => h
  | .range _ _ _, _, h => by
    obtain ⟨r, t, u, w, e, q⟩ := h
    exact ⟨r, t, u, w, e, s _ _ q⟩
  | .list _, _, h => by
    obtain ⟨a, vs, e, q, l⟩ := h
    exact ⟨a, vs, e, q.mono s, RepL.mono s l⟩
  | .tuple _, _, h => by
    obtain ⟨a, vs, e, q, l⟩ := h
    exact ⟨a, vs, e, q.mono s, RepL.mono s l⟩
theorem RepL.mono {g g' : Gh} (s : Sub g g') : ∀ {ds : List D} {vs : List Value}, RepL g ds vs → RepL g' ds vs
  | [], _, h => h
  | _ :: _, _, h => by
    obtain ⟨v, r, e, a, b⟩ := h
    exact ⟨v, r, e, Rep.mono s a, RepL.mono s b⟩
end

theorem RepL.length {g : Gh} : ∀ {ds : List D} {vs : List Value}, RepL g ds vs → vs.length = ds.length
  | [], _, h => by subst h; rfl
  | _ :: _, _, h => by obtain ⟨v, r, rfl, _, b⟩ := h; simp [RepL.length b]
theorem RepL.get {g : Gh} : ∀ {ds : List D} {vs : List Value} {i : Nat} {v : Value}, RepL g ds vs → vs[i]? = some v → ∃ d, ds[i]? = some d ∧ Rep g d v
  | [], _, _, _, h, e => by subst h; simp at e
  | d :: ds, _, i, v, h, e => by
    obtain ⟨x, r, rfl, a, b⟩ := h
    cases i with
    | zero => simp at e; subst e; exact ⟨d, by simp, a⟩
    | succ i => simp at e; obtain ⟨d', e', q⟩ := RepL.get b e; exact ⟨d', by simpa using e', q⟩
theorem RepL.get' {g : Gh} : ∀ {ds : List D} {vs : List Value} {i : Nat} {d : D}, RepL g ds vs → ds[i]? = some d → ∃ v, vs[i]? = some v ∧ Rep g d v
  | [], _, _, _, h, e => by simp at e
  | d :: ds, _, i, d', h, e => by
    obtain ⟨x, r, rfl, a, b⟩ := h
    cases i with
    | zero => simp at e; subst e; exact ⟨x, by simp, a⟩
    | succ i => simp at e; obtain ⟨v, e', q⟩ := RepL.get' b e; exact ⟨v, by simpa using e', q⟩
theorem RepL.append {g : Gh} : ∀ {ds es : List D} {vs ws : List Value}, RepL g ds vs → RepL g es ws → RepL g (ds ++ es) (vs ++ ws)
  | [], _, _, _, h, k => by subst h; exact k
  | _ :: _, _, _, _, h, k => by obtain ⟨v, r, rfl, a, b⟩ := h; exact ⟨v, r ++ _, rfl, a, RepL.append b k⟩
theorem RepL.one {g : Gh} {d : D} {v : Value} (h : Rep g d v) : RepL g [d] [v] := ⟨v, [], rfl, h, rfl⟩
theorem RepL.of_get {g : Gh} : ∀ {ds : List D} {vs : List Value}, vs.length = ds.length → (∀ (i : Nat) (d : D) (v : Value), ds[i]? = some d → vs[i]? = some v → Rep g d v) → RepL g ds vs
  | [], vs, h, _ => by cases vs with | nil => rfl | cons => simp at h
  | d :: ds, vs, h, q => by
    cases vs with
    | nil => simp at h
    | cons v vs =>
      refine ⟨v, vs, rfl, q 0 d v rfl rfl, RepL.of_get (by simpa using h) fun i d' v' e e' => q (i + 1) d' v' (by simpa using e) (by simpa using e')⟩

noncomputable def Kp (h h' : Heap) : Prop := ∀ b o, h.get? b = some o → h'.get? b = some o
theorem Kp.refl (h : Heap) : Kp h h := fun _ _ e => e
theorem Kp.trans {a b c : Heap} (x : Kp a b) (y : Kp b c) : Kp a c := fun k o e => y k o (x k o e)
theorem Kp.push (h : Heap) (o : Obj) : Kp h (h.push o) := fun _ _ e => Heap.get?_push_of_some o e

noncomputable def fz (h : Heap) (W : List Addr) : Gh := fun a => if a ∈ W then Option.none else h.get? a
theorem fz_some {h : Heap} {W : List Addr} {a : Addr} {o : Obj} : fz h W a = some o ↔ a ∉ W ∧ h.get? a = some o := by
  unfold fz
  by_cases e : a ∈ W <;> simp [e]
theorem fz_mono {h h' : Heap} {W : List Addr} (k : Kp h h') : Sub (fz h W) (fz h' W) := fun a o e => by
  obtain ⟨n, e⟩ := fz_some.mp e
  exact fz_some.mpr ⟨n, k _ _ e⟩
theorem fz_less {h : Heap} {W W' : List Addr} (s : ∀ a ∈ W', a ∈ W) : Sub (fz h W) (fz h W') := fun a o e => by
  obtain ⟨n, e⟩ := fz_some.mp e
  exact fz_some.mpr ⟨fun q => n (s _ q), e⟩
noncomputable def Al (W : List Addr) (h : Heap) : Prop := ∀ a ∈ W, ∃ o, h.get? a = some o
theorem Al.mono {W : List Addr} {h h' : Heap} (x : Al W h) (k : Kp h h') : Al W h' := fun a m => let ⟨o, e⟩ := x a m; ⟨o, k _ _ e⟩
theorem Al.fresh {W : List Addr} {h : Heap} (x : Al W h) {a : Addr} (q : h.get? a = Option.none) : a ∉ W := fun m => by
  obtain ⟨o, e⟩ := x a m
  first | exact dead2 (q) e | exact dead2 e (q) | (rw [q] at e; cases e)
theorem size_none (h : Heap) : h.get? h.objs.size = Option.none := by
  cases e : h.get? h.objs.size with
  | none => rfl
  | some o => exact absurd (Heap.lt_size e) (Nat.lt_irrefl _)
theorem ge_none {h : Heap} {a : Addr} (k : h.objs.size ≤ a) : h.get? a = Option.none := by
  cases e : h.get? a with
  | none => rfl
  | some o => exact absurd (Heap.lt_size e) (Nat.not_lt.mpr k)

theorem rep_list {h : Heap} {W : List Addr} {a : Addr} {vs : List Value} {ds : List D} (n : a ∉ W) (hl : ∃ o, h.get? a = some o ∧ o.cls = .type "list" ∧ ∃ k, o.data = .seq vs.toArray k ∧ o.dict = Option.none) (r : RepL (fz h W) ds vs) : Rep (fz h W) (.list ds) (.ref a) := by
  obtain ⟨o, e, c, k, q, z⟩ := hl
  exact ⟨a, vs, rfl, ⟨o, k, fz_some.mpr ⟨n, e⟩, c, q, fun _ => z⟩, r⟩
theorem rep_tuple {h : Heap} {W : List Addr} {a : Addr} {vs : List Value} {ds : List D} (n : a ∉ W) (hl : h.IsTuple a vs.toArray) (r : RepL (fz h W) ds vs) : Rep (fz h W) (.tuple ds) (.ref a) := by
  obtain ⟨o, e, c, k, q⟩ := hl
  exact ⟨a, vs, rfl, ⟨o, k, fz_some.mpr ⟨n, e⟩, c, q, fun z => by simp at z⟩, r⟩
theorem list_of {h : Heap} {W : List Addr} {a : Addr} {vs : List Value} (q : SeqAt (fz h W) "list" a vs) : h.IsList a vs.toArray ∧ a ∉ W := by
  obtain ⟨o, n, e, c, d, _⟩ := q
  obtain ⟨k, e⟩ := fz_some.mp e
  exact ⟨⟨o, e, c, n, d⟩, k⟩
theorem tuple_of {h : Heap} {W : List Addr} {a : Addr} {vs : List Value} (q : SeqAt (fz h W) "tuple" a vs) : h.IsTuple a vs.toArray ∧ a ∉ W := by
  obtain ⟨o, n, e, c, d, _⟩ := q
  obtain ⟨k, e⟩ := fz_some.mp e
  exact ⟨⟨o, e, c, n, d⟩, k⟩

structure Amb (A : Around) (n : Nat) : Prop where
  hd : A.handled = Option.none
  dp : A.depth + n < recursionLimit
  un : A.units + 4 * n < cLine
theorem Amb.in1 {A : Around} {n : Nat} (h : Amb A (n + 1)) : Amb A.in1 n := ⟨h.hd, Nat.lt_of_le_of_lt (Nat.add_le_add_left (Nat.le_succ n) _) h.dp, by have := h.un; show A.units + 1 + 4 * n < cLine; omega⟩
theorem Amb.deeper {A : Around} {n : Nat} (h : Amb A (n + 1)) (env : Env) : Amb (A.deeper env) n := ⟨h.hd, by have := h.dp; show A.depth + 1 + n < recursionLimit; omega, by have := h.un; show A.units + 3 + 4 * n < cLine; omega⟩
theorem Amb.less {A : Around} {n m : Nat} (h : Amb A n) (k : m ≤ n) : Amb A m := ⟨h.hd, by have := h.dp; omega, by have := h.un; omega⟩
theorem Amb.room {A : Around} {n : Nat} (h : Amb A n) : A.depth < recursionLimit := by have := h.dp; (first | lia | omega)
theorem Amb.units {A : Around} {n : Nat} (h : Amb A n) : A.units < cLine := by have := h.un; (first | lia | omega)


noncomputable def Gx {α : Type} (prog : Program) (w : World) (n : Nat) (W : List Addr) (t : Sem α) (R : Gh → α → Prop) (h : Heap) : Prop :=
  ∀ (A : Around) (s : Shared) (Q : α → Shared → Prop) (E : Value → Shared → Prop), Kp h s.heap → Amb A n →
    (∀ a h' tk', Kp s.heap h' → R (fz h' W) a → Q a { s with heap := h', toks := tk' }) → wpAny (model prog w) A t Q E s
section
variable {prog : Program} {w : World} {n : Nat} {W : List Addr} {h : Heap} {α β : Type}
theorem Gx.bind {t : Sem α} {k : α → Sem β} {R : Gh → α → Prop} {S : Gh → β → Prop} (x : Gx prog w n W t R h)
    (y : ∀ a h1, Kp h h1 → R (fz h1 W) a → Gx prog w n W (k a) S h1) : Gx prog w n W (t >>= k) S h := fun A s Q E hk am hq =>
  wpAny_bind (x A s _ E hk am fun a h' tk' k1 r => y a h' (hk.trans k1) r A { s with heap := h', toks := tk' } Q E (Kp.refl _) am fun b h'' tk'' k2 q => hq b h'' tk'' (k1.trans k2) q)
theorem Gx.pure {a : α} {R : Gh → α → Prop} (r : ∀ h1, Kp h h1 → R (fz h1 W) a) : Gx prog w n W (Pure.pure a : Sem α) R h := fun _ s Q _ hk _ hq =>
  wpAny_pure (by have := hq a s.heap s.toks (Kp.refl _) (r _ hk); exact this)
theorem Gx.mono {t : Sem α} {R S : Gh → α → Prop} (x : Gx prog w n W t R h) (y : ∀ a h1, Kp h h1 → R (fz h1 W) a → S (fz h1 W) a) : Gx prog w n W t S h := fun A s Q E hk am hq =>
  x A s Q E hk am fun a h' tk' k1 r => hq a h' tk' k1 (y a h' (hk.trans k1) r)
theorem Gx.up {t : Sem α} {R : Gh → α → Prop} {h1 : Heap} (x : Gx prog w n W t R h) (k : Kp h h1) : Gx prog w n W t R h1 := fun A s Q E hk am hq => x A s Q E (k.trans hk) am hq
theorem Gx.more {t : Sem α} {R : Gh → α → Prop} {m : Nat} (x : Gx prog w n W t R h) (k : n ≤ m) : Gx prog w m W t R h := fun A s Q E hk am hq => x A s Q E hk (am.less k) hq
theorem Gx.holding {vs : List Value} {t : Sem α} {R : Gh → α → Prop} (x : Gx prog w n W t R h) : Gx prog w n W (PySem.holding vs t) R h := fun A s Q E hk am hq => wpAny_holding (x A s Q E hk am hq)
theorem Gx.rule {tag : String} {k : Unit → Sem α} {R : Gh → α → Prop} (x : Gx prog w n W (k ()) R h) : Gx prog w n W (PySem.rule tag >>= k) R h := fun A s Q E hk am hq => wpAny_bind (wpAny_rule (x A s Q E hk am hq))
theorem Gx.eq {t t' : Sem α} {R : Gh → α → Prop} (e : t = t') (x : Gx prog w n W t' R h) : Gx prog w n W t R h := e ▸ x
theorem Gx.of {t : Sem α} {R : Gh → α → Prop} (x : ∀ (A : Around) (s : Shared) (Q : α → Shared → Prop) (E : Value → Shared → Prop), Kp h s.heap → Amb A n →
    (∀ a h' tk', Kp s.heap h' → R (fz h' W) a → Q a { s with heap := h', toks := tk' }) → wpAny (model prog w) A t Q E s) : Gx prog w n W t R h := x
theorem Gx.fresh {k : Tok → Sem α} {R : Gh → α → Prop} (x : ∀ t, Gx prog w n W (k t) R h) : Gx prog w n W (PySem.fresh >>= k) R h := fun A s Q E hk am hq =>
  wpAny_bind (wpAny_fresh (x s.toks A { s with toks := s.toks + 1 } Q E hk am fun a h' tk' k1 r => hq a h' tk' k1 r))
end
noncomputable abbrev Gv (prog : Program) (w : World) (n : Nat) (W : List Addr) (t : Sem Value) (d : D) (h : Heap) : Prop := Gx prog w n W t (fun g v => Rep g d v) h
noncomputable abbrev GvL (prog : Program) (w : World) (n : Nat) (W : List Addr) (t : Sem (List Value)) (ds : List D) (h : Heap) : Prop := Gx prog w n W t (fun g vs => RepL g ds vs) h
noncomputable abbrev GvB (prog : Program) (w : World) (n : Nat) (W : List Addr) (t : Sem Bool) (b : Bool) (h : Heap) : Prop := Gx prog w n W t (fun _ c => c = b) h
section
variable {prog : Program} {w : World} {n : Nat} {W : List Addr} {h : Heap}
theorem Gv.operate {vs : List Value} {t : Sem Value} {d : D} (x : Gv prog w n W t d h) : Gv prog w n W (PySem.operate vs t) d h := by
  unfold PySem.operate
  refine Gx.bind (Gx.holding x) fun v h1 k r => ?_
  intro A s Q E hk am hq
  refine wpAny_bind (wpAny_release (wpAny_pure ?_))
  exact hq v s.heap s.toks (Kp.refl _) (Rep.mono (fz_mono hk) r)
end
end
section
section
variable {prog : Program} {w : World} {n : Nat} {W : List Addr} {h : Heap}

theorem gv_of {t : Sem Value} {d : D} (x : ∀ (A : Around) (s : Shared) (Q : Value → Shared → Prop) (E : Value → Shared → Prop), Amb A n → (∀ v tk, Rep (fz s.heap W) d v → Q v { s with toks := tk }) → wpAny (model prog w) A t Q E s) : Gv prog w n W t d h :=
  fun A s Q E _ am hq => x A s Q E am fun v tk r => hq v s.heap tk (Kp.refl _) r

theorem g_int (i : Int) (k : Nat) (p : Pos) (env : Env) : Gv prog w n W (eval (.Constant (.int i) k p) env) (.int i) h := gv_of fun _ s _ _ _ hq => wpAny_Constant_int (hq _ _ ⟨_, rfl⟩)
theorem g_none (k : Nat) (p : Pos) (env : Env) : Gv prog w n W (eval (.Constant .none k p) env) .none h := gv_of fun _ s _ _ _ hq => wpAny_Constant_none (hq _ s.toks rfl)
theorem g_bool (b : Bool) (k : Nat) (p : Pos) (env : Env) : Gv prog w n W (eval (.Constant (.bool b) k p) env) (.bool b) h := gv_of fun _ s _ _ _ hq => wpAny_Constant_bool (hq _ s.toks rfl)
theorem g_str (x : Str) (k : Nat) (p : Pos) (env : Env) : Gv prog w n W (eval (.Constant (.str x) k p) env) (.str x.cps.toList) h := gv_of fun _ s _ _ _ hq => Calls.Constant_str (hq _ _ ⟨s.toks, by simp⟩)

theorem b_add {i j : Int} {t u : Tok} : Gv prog w n W (binaryOp .Add (.int i t) (.int j u)) (.int (i + j)) h := gv_of fun _ s _ _ _ hq => P.add_int (hq _ _ ⟨_, rfl⟩)
theorem b_sub {i j : Int} {t u : Tok} : Gv prog w n W (binaryOp .Sub (.int i t) (.int j u)) (.int (i - j)) h := gv_of fun _ s _ _ _ hq => P.sub_int (hq _ _ ⟨_, rfl⟩)
theorem b_mul {i j : Int} {t u : Tok} (hi : i.natAbs < 2 ^ 64) : Gv prog w n W (binaryOp .Mult (.int i t) (.int j u)) (.int (i * j)) h := gv_of fun _ s _ _ _ hq => P.mul_int (hq _ _ ⟨_, rfl⟩) (IntMulOk.of_left (by
  unfold Builtin.Int.intBits; split
  · (first | lia | omega)
  · rename_i h0
    have := (Nat.log2_lt (n := i.natAbs) (k := 64) (by simpa using h0)).mpr hi
    omega))
theorem fdiv_pos {a b : Int} (hb : 0 < b) : a.fdiv b = a / b := Int.fdiv_eq_ediv_of_nonneg _ (Int.le_of_lt hb)
theorem fmod_pos {a b : Int} (hb : 0 < b) : a.fmod b = a % b := Int.fmod_eq_emod_of_nonneg _ (Int.le_of_lt hb)
theorem b_div {i j : Int} {t u : Tok} (hj : 0 < j) (hk : j < 1073741824) : Gv prog w n W (binaryOp .FloorDiv (.int i t) (.int j u)) (.int (i / j)) h := gv_of fun _ s _ _ _ hq =>
  floordiv_int (by (first | lia | omega)) (by rw [fdiv_pos hj]; exact hq _ _ ⟨_, rfl⟩) (Or.inl (PyProof.noPylong_small (by (first | lia | omega))))
theorem b_mod {i j : Int} {t u : Tok} (hj : 0 < j) : Gv prog w n W (binaryOp .Mod (.int i t) (.int j u)) (.int (i % j)) h := gv_of fun _ s _ _ _ hq =>
  mod_int (by (first | lia | omega)) (by rw [fmod_pos hj]; exact hq _ _ ⟨_, rfl⟩)
theorem b_and {i j : Int} {t u : Tok} : Gv prog w n W (binaryOp .BitAnd (.int i t) (.int j u)) (.int (Builtin.bitAnd i j)) h := gv_of fun _ s _ _ _ hq => and_int (hq _ _ ⟨_, rfl⟩)
theorem b_or {i j : Int} {t u : Tok} : Gv prog w n W (binaryOp .BitOr (.int i t) (.int j u)) (.int (Builtin.bitOr i j)) h := gv_of fun _ s _ _ _ hq => or_int (hq _ _ ⟨_, rfl⟩)
theorem b_shr {i j : Int} {t u : Tok} (hj : 0 ≤ j) : Gv prog w n W (binaryOp .RShift (.int i t) (.int j u)) (.int (i / 2 ^ j.toNat)) h := gv_of fun _ s _ _ _ hq =>
  rshift_int hj (by rw [fdiv_pos (Int.pow_pos (by decide))]; exact hq _ _ ⟨_, rfl⟩)
theorem b_shl {i j : Int} {t u : Tok} (hj : 0 ≤ j) (hk : j ≤ 1000) (hi : i.natAbs < 2 ^ 64) : Gv prog w n W (binaryOp .LShift (.int i t) (.int j u)) (.int (i * 2 ^ j.toNat)) h := gv_of fun _ s _ _ _ hq =>
  lshift_int_small hj (by (first | lia | omega)) hi (hq _ _ ⟨_, rfl⟩)
theorem b_pow {i j : Int} {t u : Tok} (hj : 0 ≤ j) (hk : j ≤ 1000) (hi : i.natAbs < 2 ^ 64) : Gv prog w n W (binaryOp .Pow (.int i t) (.int j u)) (.int (i ^ j.toNat)) h := gv_of fun _ s _ _ _ hq =>
  pow_int_small hj (by (first | lia | omega)) hi (hq _ _ ⟨_, rfl⟩)
theorem u_neg {i : Int} {t : Tok} : Gv prog w n W (unaryOp .USub (.int i t)) (.int (-i)) h := gv_of fun _ s _ _ _ hq => P.neg_int (hq _ _ ⟨_, rfl⟩)
theorem c_ne_int {i j : Int} {t u : Tok} : Gv prog w n W (compareOp .NotEq (.int i t) (.int j u)) (.bool (i != j)) h := gv_of fun _ s _ _ _ hq => P.ne_int (hq _ s.toks rfl)
theorem c_lt_int {i j : Int} {t u : Tok} : Gv prog w n W (compareOp .Lt (.int i t) (.int j u)) (.bool (decide (i < j))) h := gv_of fun _ s _ _ _ hq => P.lt_int (hq _ s.toks rfl)
theorem c_gt_int {i j : Int} {t u : Tok} : Gv prog w n W (compareOp .Gt (.int i t) (.int j u)) (.bool (decide (i > j))) h := gv_of fun _ s _ _ _ hq => P.gt_int (hq _ s.toks rfl)
theorem c_le_int {i j : Int} {t u : Tok} : Gv prog w n W (compareOp .LtE (.int i t) (.int j u)) (.bool (decide (i ≤ j))) h := gv_of fun _ s _ _ _ hq => P.le_int (hq _ s.toks rfl)
theorem c_ge_int {i j : Int} {t u : Tok} : Gv prog w n W (compareOp .GtE (.int i t) (.int j u)) (.bool (decide (i ≥ j))) h := gv_of fun _ s _ _ _ hq => P.ge_int (hq _ s.toks rfl)

theorem c_ne_str {x y : List Nat} {t u : Tok} : Gv prog w n W (compareOp .NotEq (.str ⟨x.toArray⟩ t) (.str ⟨y.toArray⟩ u)) (.bool (x != y)) h := gv_of fun _ s _ _ _ hq => P.ne_str (hq _ s.toks rfl)
theorem b_cat {x y : List Nat} {t u : Tok} (hz : x.length + y.length ≤ 1048576) : Gv prog w n W (binaryOp .Add (.str ⟨x.toArray⟩ t) (.str ⟨y.toArray⟩ u)) (.str (x ++ y)) h := gv_of fun _ s _ _ _ hq =>
  KOpn.add (by show x.toArray.size + y.toArray.size ≤ _; simp; (first | lia | omega)) fun t' k _ => hq _ _ ⟨t', by show Value.str ⟨x.toArray ++ y.toArray⟩ t' = _; simp⟩
theorem c_in_str {x y : List Nat} {t u : Tok} : Gv prog w n W (compareOp .In (.str ⟨y.toArray⟩ u) (.str ⟨x.toArray⟩ t)) (.bool (!(Builtin.Str.occurrences ⟨x.toArray⟩ ⟨y.toArray⟩ 0 x.length 1).isEmpty)) h := gv_of fun _ s _ _ _ hq => P.in_str (hq _ s.toks (by show Value.bool (!(Builtin.Str.occurrences ⟨x.toArray⟩ ⟨y.toArray⟩ 0 (List.toArray x).size 1).isEmpty) = _; simp))
theorem c_is {a b : Value} (hp : plainIs a b = true) : Gv prog w n W (compareOp .Is a b) (.bool (a == b)) h := gv_of fun _ s _ _ _ hq => wpAny_is_plain hp (hq _ s.toks rfl)
theorem c_isNot {a b : Value} (hp : plainIs a b = true) : Gv prog w n W (compareOp .IsNot a b) (.bool (!(a == b))) h := gv_of fun _ s _ _ _ hq => wpAny_isNot_plain hp (hq _ s.toks rfl)
end
end
section
noncomputable def clip (v : Option Int) (d n : Nat) : Nat := match v with
  | none => d
  | some i => (max 0 (min (if i < 0 then i + n else i) (n : Int))).toNat
noncomputable def sliceD {α : Type} (xs : List α) (lo hi : Option Int) : List α := (xs.take (clip hi xs.length xs.length)).drop (clip lo 0 xs.length)
theorem clip_le (v : Option Int) {d n : Nat} (h : d ≤ n) : clip v d n ≤ n := by
  cases v with
  | none => exact h
  | some i => exact Int.toNat_le.mpr (Int.max_le.mpr ⟨Int.natCast_nonneg n, Int.min_le_right _ _⟩)
theorem range_pick {α : Type} (xs : List α) (a : Nat) : ∀ c, a + c ≤ xs.length → (((List.range c).map fun k => a + k).filterMap (xs[·]?)) = (xs.drop a).take c
  | 0, _ => by simp
  | c + 1, h => by
    rw [List.range_succ, List.map_append, List.filterMap_append, range_pick xs a c (by (first | lia | omega)), List.take_add_one]
    congr 1
    have : a + c < xs.length := by (first | lia | omega)
    simp [this]
theorem cnt_eq (a b : Nat) : (if (a : Int) < b then ((b : Int) - a + 1 - 1) / 1 else 0).toNat = b - a := by
  by_cases h : (a : Int) < b
  · rw [if_pos h, Int.add_sub_cancel, Int.ediv_one]; exact Int.toNat_sub b a
  · rw [if_neg h]; exact (Nat.sub_eq_zero_of_le (Int.ofNat_le.mp (Int.not_lt.mp h))).symm
theorem pick_eq {α : Type} (xs : List α) (a b : Nat) (hb : b ≤ xs.length) : ((sliceRange (a : Int) (b : Int) 1).filterMap (xs[·]?)) = (xs.take b).drop a := by
  unfold sliceRange
  simp only [show (1 : Int) > 0 by decide, if_true]
  rw [cnt_eq]
  by_cases h : a ≤ b
  · have e2 : ((List.range (b - a)).map fun (k : Nat) => ((a : Int) + 1 * (k : Int)).toNat) = (List.range (b - a)).map fun k => a + k := by
      apply List.map_congr_left; intro k _; rw [Int.one_mul]; rfl
    rw [e2, range_pick xs a (b - a) (by rw [Nat.add_sub_of_le h]; exact hb), List.drop_take]
  · have h' := Nat.le_of_not_le h
    rw [Nat.sub_eq_zero_of_le h']
    simp only [List.range_zero, List.map_nil, List.filterMap_nil]
    rw [List.drop_eq_nil_of_le]
    rw [List.length_take]; exact Nat.le_trans (Nat.min_le_left _ _) h'
theorem clipI (v : Option Int) (d n : Nat) : (match v with | none => (d : Int) | some i => max 0 (min (if i < 0 then i + n else i) (n : Int))) = (clip v d n : Int) := by
  cases v with
  | none => rfl
  | some i => exact (Int.toNat_of_nonneg (Int.le_max_left 0 _)).symm
theorem bounds_eq (lo hi : Option Int) (n : Nat) : sliceBounds lo hi none n = ((clip lo 0 n : Int), (clip hi n n : Int), 1) := by
  rw [← clipI lo 0 n, ← clipI hi n n]
  cases lo <;> cases hi <;> rfl
theorem slicePick_eq (vs : List Value) (lo hi : Option Int) : slicePick vs.toArray lo hi none = (sliceD vs lo hi).toArray := by
  unfold slicePick sliceD
  simp only [List.size_toArray, bounds_eq]
  have h := pick_eq vs (clip lo 0 vs.length) (clip hi vs.length vs.length) (clip_le _ (Nat.le_refl _))
  rw [← h]
  congr 1; congr 1; funext i; simp
theorem strIdx (lo hi : Option Int) (n : Nat) : Builtin.Str.strSliceIndices lo hi 1 n = sliceRange (clip lo 0 n : Int) (clip hi n n : Int) 1 := by
  rw [← clipI lo 0 n, ← clipI hi n n]
  cases lo <;> cases hi <;> rfl
theorem RepL.take {g : Gh} : ∀ {ds : List D} {vs : List Value} (k : Nat), RepL g ds vs → RepL g (ds.take k) (vs.take k)
  | _, _, 0, _ => rfl
  | [], _, _ + 1, h => by cases (show _ = [] from h); rfl
  | _ :: _, _, k + 1, h => by obtain ⟨v, r, rfl, a, b⟩ := h; exact ⟨v, _, rfl, a, RepL.take k b⟩
theorem RepL.drop {g : Gh} : ∀ {ds : List D} {vs : List Value} (k : Nat), RepL g ds vs → RepL g (ds.drop k) (vs.drop k)
  | _, _, 0, h => h
  | [], _, _ + 1, h => by cases (show _ = [] from h); rfl
  | _ :: _, _, k + 1, h => by obtain ⟨v, r, rfl, a, b⟩ := h; exact RepL.drop k b
theorem RepL.slice {g : Gh} {ds : List D} {vs : List Value} (lo hi : Option Int) (h : RepL g ds vs) : RepL g (sliceD ds lo hi) (sliceD vs lo hi) := by
  unfold sliceD; rw [h.length]; exact (h.take _).drop _

noncomputable def Part (v : Value) (k : Option Int) : Prop := (v = .none ∧ k = Option.none) ∨ ∃ i t, v = .int i t ∧ k = some i
theorem Part.is {v : Value} {k : Option Int} (h : Part v k) : IsPart v k := by
  rcases h with ⟨rfl, rfl⟩ | ⟨i, t, rfl, rfl⟩
  · exact .none
  · exact .int i t
theorem Part.of {v : Value} {k : Option Int} (h : Part v k) : ∃ l : Option (Int × Tok), v = partValue l ∧ l.map (·.1) = k := by
  rcases h with ⟨rfl, rfl⟩ | ⟨i, t, rfl, rfl⟩
  · exact ⟨Option.none, rfl, rfl⟩
  · exact ⟨some (i, t), rfl, rfl⟩

section
variable {prog : Program} {w : World} {n : Nat} {W : List Addr} {h : Heap}
theorem s_list {ds : List D} {v a b : Value} {lo hi : Option Int} {sl : Addr} (hz : ds.length ≤ 1048576) (r : Rep (fz h W) (.list ds) v) (pa : Part a lo) (pb : Part b hi) (al : Al W h) (hs : h.IsSliceOf sl a b .none) :
    Gv prog w n W (getItem v (.ref sl)) (.list (sliceD ds lo hi)) h := by
  obtain ⟨l, vs, rfl, q, rl⟩ := r
  intro A s Q E hk am hq
  obtain ⟨hl, hn⟩ := list_of (SeqAt.mono q (fz_mono hk))
  have hlen := rl.length
  refine wpAny_getItem_list_slice hl ?_ pa.is pb.is .none (by (first | exact List.mem_cons_self | exact List.mem_cons_of_mem _ List.mem_cons_self | decide | simp)) ?_ ?_
  · obtain ⟨o, e, r⟩ := hs; exact ⟨o, hk _ _ e, r⟩
  · rw [slicePick_eq]
    refine hq _ _ s.toks (Kp.push _ _) (rep_list ((al.mono hk).fresh (size_none _)) ⟨_, Heap.get?_push_size _ rfl, rfl, 0, rfl, rfl⟩ ?_)
    exact RepL.mono (Sub.trans (fz_mono hk) (fz_mono (Kp.push _ _))) (rl.slice lo hi)
  · simp only [List.size_toArray]; rw [hlen, sizeLine_eq]; (first | lia | omega)
theorem s_str {x : List Nat} {v a b : Value} {lo hi : Option Int} {sl : Addr} (hz : x.length ≤ 1048576) (r : Rep (fz h W) (.str x) v) (pa : Part a lo) (pb : Part b hi) (hs : h.IsSliceOf sl a b .none) :
    Gv prog w n W (getItem v (.ref sl)) (.str (sliceD x lo hi)) h := by
  obtain ⟨t, rfl⟩ := r
  obtain ⟨l, rfl, rfl⟩ := pa.of
  obtain ⟨u, rfl, rfl⟩ := pb.of
  intro A s Q E hk am hq
  obtain ⟨o, e, r⟩ := hs
  refine wpAny_getItem_str_slice (l := l) (u := u) (st := none) ⟨o, hk _ _ e, r.1, r.2⟩ rfl ?_
  have key : ((slicePicked ⟨x.toArray⟩ l u none).filterMap (x.toArray[·]?)) = sliceD x (l.map (·.1)) (u.map (·.1)) := by
    have hb : slicePicked ⟨x.toArray⟩ l u none = sliceRange (clip (l.map (·.1)) 0 x.length : Int) (clip (u.map (·.1)) x.length x.length : Int) 1 := by
      have hn : (PySem.Str.length ⟨x.toArray⟩) = x.length := by show x.toArray.size = _; simp
      unfold slicePicked
      simp only [Option.map_none, Option.getD_none]
      rw [hn, strIdx]
    rw [hb]
    have h2 := pick_eq x (clip (l.map (·.1)) 0 x.length) (clip (u.map (·.1)) x.length x.length) (clip_le _ (Nat.le_refl _))
    unfold sliceD
    rw [← h2]
    congr 1; funext i; simp
  have len1 : ((slicePicked ⟨x.toArray⟩ l u none).filterMap (x.toArray[·]?)).length ≤ x.length := by
    rw [key]; unfold sliceD; rw [List.length_drop, List.length_take]; exact Nat.le_trans (Nat.sub_le _ _) (Nat.min_le_right _ _)
  unfold sliceMade
  split
  · rename_i hc
    simp only [Option.map_none, Option.getD_none, Bool.and_eq_true, beq_iff_eq] at hc
    have hn : (PySem.Str.length ⟨x.toArray⟩) = x.length := by show x.toArray.size = _; simp
    rw [hn] at hc
    have full : sliceD x (l.map (·.1)) (u.map (·.1)) = x := by
      have hlen : (slicePicked ⟨x.toArray⟩ l u none).length = x.length := hc.2
      have c1 := clip_le (n := x.length) (l.map (·.1)) (Nat.zero_le x.length)
      have c2 := clip_le (n := x.length) (u.map (·.1)) (Nat.le_refl x.length)
      have hb : (slicePicked ⟨x.toArray⟩ l u none).length = clip (u.map (·.1)) x.length x.length - clip (l.map (·.1)) 0 x.length := by
        unfold slicePicked
        simp only [Option.map_none, Option.getD_none]
        rw [hn, strIdx]
        unfold sliceRange
        simp only [show (1 : Int) > 0 by decide, if_true, List.length_map, List.length_range]
        exact cnt_eq _ _
      rw [hb] at hlen
      unfold sliceD
      by_cases h0 : x.length = 0
      · have : x = [] := List.length_eq_zero_iff.mp h0
        subst this; simp
      · have e2 : clip (u.map (·.1)) x.length x.length = x.length := Nat.le_antisymm c2 (by rw [← hlen]; exact Nat.le_trans (Nat.sub_le _ _) (by rw [hlen]; exact Nat.le_refl _))
        have e1 : clip (l.map (·.1)) 0 x.length = 0 := by
          rw [e2] at hlen
          exact Nat.eq_zero_of_not_pos fun h => absurd hlen (Nat.ne_of_lt (Nat.sub_lt (Nat.pos_of_ne_zero h0) h))
        rw [e1, e2]; simp
    rw [full] at hq
    exact hq _ s.heap s.toks (Kp.refl _) ⟨t, rfl⟩
  · refine ⟨?_, ?_⟩
    · show (((slicePicked ⟨x.toArray⟩ l u none).filterMap (x.toArray[·]?)).toArray).size ≤ sizeLine
      rw [List.size_toArray, sizeLine_eq]; (first | lia | omega)
    · refine hq _ s.heap _ (Kp.refl _) ⟨s.toks, ?_⟩
      rw [← key]
end
end
section
section
variable {prog : Program} {w : World} {n : Nat} {W : List Addr} {h : Heap}

theorem new_list {vs : List Value} {ds : List D} (al : Al W h) (hz : ds.length ≤ 1048576) (r : RepL (fz h W) ds vs) : Gv prog w n W (newList vs) (.list ds) h := by
  intro A s Q E hk am hq
  refine wpAny_newObj_type ?_ (by show vs.toArray.size ≤ sizeLine; rw [List.size_toArray, r.length, sizeLine_eq]; (first | lia | omega))
  refine hq _ _ s.toks (Kp.push _ _) (rep_list ((al.mono hk).fresh (size_none _)) ⟨_, Heap.get?_push_size _ rfl, rfl, 0, rfl, rfl⟩ ?_)
  exact RepL.mono (Sub.trans (fz_mono hk) (fz_mono (Kp.push _ _))) r
theorem new_tuple {vs : List Value} {ds : List D} (al : Al W h) (hz : ds.length ≤ 1048576) (r : RepL (fz h W) ds vs) : Gv prog w n W (newTuple vs) (.tuple ds) h := by
  intro A s Q E hk am hq
  refine wpAny_newObj_type ?_ (by show vs.toArray.size ≤ sizeLine; rw [List.size_toArray, r.length, sizeLine_eq]; (first | lia | omega))
  refine hq _ _ s.toks (Kp.push _ _) (rep_tuple ((al.mono hk).fresh (size_none _)) ⟨_, Heap.get?_push_size _ rfl, rfl, 0, rfl⟩ ?_)
  exact RepL.mono (Sub.trans (fz_mono hk) (fz_mono (Kp.push _ _))) r

noncomputable def ix (i : Int) (n : Nat) : Option Nat := if 0 ≤ i then (if i < n then some i.toNat else none) else (if 0 ≤ i + n then some (i + n).toNat else none)
theorem ix_seq (i : Int) (n : Nat) : seqIndex? i n = ix i n := by
  unfold seqIndex? ix
  by_cases h0 : 0 ≤ i
  · have : ¬ i < 0 := by (first | lia | omega)
    rw [if_pos h0, if_neg this]
    by_cases h1 : i < n
    · rw [if_pos h1, if_pos (by simp [h0, h1])]
    · rw [if_neg h1, if_neg (by simp [h1])]
  · have : i < 0 := by (first | lia | omega)
    rw [if_neg h0, if_pos this]
    by_cases h1 : 0 ≤ i + n
    · rw [if_pos h1, if_pos (by simp [h1]; (first | lia | omega))]
    · rw [if_neg h1, if_neg (by simp [h1])]
theorem i_list {ds : List D} {d : D} {v : Value} {i : Int} {t : Tok} {j : Nat} (hz : ds.length ≤ 1048576) (r : Rep (fz h W) (.list ds) v) (hj : ix i ds.length = some j) (hd : ds[j]? = some d) :
    Gv prog w n W (getItem v (.int i t)) d h := by
  obtain ⟨l, vs, rfl, q, rl⟩ := r
  intro A s Q E hk am hq
  obtain ⟨hl, hn⟩ := list_of (SeqAt.mono q (fz_mono hk))
  obtain ⟨x, hx, rx⟩ := rl.get' hd
  have hlen := rl.length
  have fin : Q x s := by have := hq x s.heap s.toks (Kp.refl _) (Rep.mono (fz_mono hk) rx); exact this
  unfold ix at hj
  by_cases h0 : 0 ≤ i
  · rw [if_pos h0] at hj
    split at hj
    · first | with_reducible exact ns hj | cases hj
      exact wpAny_getItem_list hl h0 (by (first | lia | omega)) (by simpa using hx) fin
    · first | with_reducible exact ns hj | cases hj
  · rw [if_neg h0] at hj
    split at hj
    · rename_i h1
      first | with_reducible exact ns hj | cases hj
      refine wpAny_getItem_list_neg hl (by (first | lia | omega)) ?_ (by (first | lia | omega)) ?_ fin
      · simp only [List.size_toArray]; (first | lia | omega)
      · simp only [List.size_toArray, hlen]; simpa using hx
    · first | with_reducible exact ns hj | cases hj
theorem i_tuple {ds : List D} {d : D} {v : Value} {i : Int} {t : Tok} {j : Nat} (hz : ds.length ≤ 1048576) (r : Rep (fz h W) (.tuple ds) v) (hj : ix i ds.length = some j) (hd : ds[j]? = some d) :
    Gv prog w n W (getItem v (.int i t)) d h := by
  obtain ⟨l, vs, rfl, q, rl⟩ := r
  intro A s Q E hk am hq
  obtain ⟨hl, hn⟩ := tuple_of (SeqAt.mono q (fz_mono hk))
  obtain ⟨x, hx, rx⟩ := rl.get' hd
  have hlen := rl.length
  have fin : Q x s := by have := hq x s.heap s.toks (Kp.refl _) (Rep.mono (fz_mono hk) rx); exact this
  have hi : -(ds.length : Int) ≤ i ∧ i < ds.length := by
    unfold ix at hj
    by_cases h0 : 0 ≤ i
    · rw [if_pos h0] at hj; split at hj
      · (first | lia | omega)
      · first | with_reducible exact ns hj | cases hj
    · rw [if_neg h0] at hj; split at hj
      · (first | lia | omega)
      · first | with_reducible exact ns hj | cases hj
  exact PyProof.Rows.getItem_tuple hl (by (first | lia | omega)) (by (first | lia | omega)) (by rw [List.size_toArray, hlen, ix_seq]; exact hj) (by simpa using hx) fin
theorem ix_range {i : Int} {n j : Nat} (hj : ix i n = some j) : -(n : Int) ≤ i ∧ i < n ∧ j < n := by
  unfold ix at hj
  by_cases h0 : 0 ≤ i
  · rw [if_pos h0] at hj
    by_cases h1 : i < n
    · rw [if_pos h1] at hj
      cases hj
      exact ⟨Int.le_trans (Int.neg_nonpos_of_nonneg (Int.natCast_nonneg n)) h0, h1, (Int.toNat_lt h0).mpr h1⟩
    · rw [if_neg h1] at hj; cases hj
  · rw [if_neg h0] at hj
    by_cases h1 : 0 ≤ i + n
    · rw [if_pos h1] at hj
      cases hj
      have h2 := Int.not_le.mp h0
      refine ⟨?_, Int.lt_of_lt_of_le h2 (Int.natCast_nonneg n), (Int.toNat_lt h1).mpr ?_⟩
      · have := Int.add_le_add_right h1 (-(n : Int))
        rwa [Int.zero_add, Int.add_neg_cancel_right] at this
      · have := Int.add_lt_add_right h2 (n : Int)
        rwa [Int.zero_add] at this
    · rw [if_neg h1] at hj; cases hj
theorem i_str {x : List Nat} {v : Value} {i : Int} {t : Tok} {j c : Nat} (hz : x.length ≤ 1048576) (r : Rep (fz h W) (.str x) v) (hj : ix i x.length = some j) (hc : x[j]? = some c) :
    Gv prog w n W (getItem v (.int i t)) (.str [c]) h := by
  obtain ⟨u, rfl⟩ := r
  have hb := ix_range hj
  refine gv_of fun _ s _ _ _ hq => P.getItem_str ?_ ?_ (hq _ _ ⟨_, rfl⟩)
  · have a1 : ¬ i < -(2 ^ 63 : Int) := by (first | lia | omega)
    have a2 : ¬ i ≥ 2 ^ 63 := by (first | lia | omega)
    rw [decide_eq_false a1, decide_eq_false a2]; rfl
  · have e : PySem.Str.length ⟨x.toArray⟩ = x.length := by show x.toArray.size = _; simp
    rw [e, ix_seq, hj]
    simpa using hc
theorem i_bytes {x : List UInt8} {v : Value} {i : Int} {t : Tok} {c : UInt8} (hz : x.length ≤ 1048576) (r : Rep (fz h W) (.bytes x) v) (h0 : 0 ≤ i) (hc : x[i.toNat]? = some c) :
    Gv prog w n W (getItem v (.int i t)) (.int c.toNat) h := by
  obtain ⟨u, rfl⟩ := r
  have hlt : i.toNat < x.length := (List.getElem?_eq_some_iff.mp hc).1
  refine gv_of fun _ s _ _ _ hq => PySem.W.getItem_bytes (by (first | lia | omega)) h0 (by (first | lia | omega)) ?_
  have e : x.getD i.toNat 0 = c := by rw [List.getD_eq_getElem?_getD, hc]; rfl
  rw [e]
  exact hq _ _ ⟨_, rfl⟩
end
end
section
section
variable {prog : Program} {w : World} {n : Nat} {W : List Addr} {h : Heap}

theorem sub_key (slice : Expr) (o i : Value) : ∃ ops, subscripted slice false o i = operate ops (getItem o i) := by
  cases slice <;> first | exact ⟨_, rfl⟩ | skip
  rename_i st _
  cases st <;> exact ⟨_, rfl⟩
theorem tail_ok {value slice : Expr} {o i : Value} {T id : String} {d : D} (hT : ∀ s : Shared, Kp h s.heap → s.TypeIs o T) (hl : typeLookup (.type T) "__getitem__" = pure (some (.builtin id)))
    (hg : Gv prog w n W (getItem o i) d h) : Gv prog w n W (subscriptTail value slice o i) d h := by
  intro A s Q E hk am hq
  obtain ⟨ops, e⟩ := sub_key slice o i
  exact tail_any (hT s hk) hl (hg A s Q E hk am hq) e
theorem sub_ok {value slice : Expr} {pos : Pos} {env : Env} {R : Gh → Value → Prop} {S : Gh → Value → Prop} {d : D} (h1 : Gx prog w n W (eval value env) R h) (h2 : ∀ h', Kp h h' → Gx prog w n W (eval slice env) S h')
    (h3 : ∀ o i h1 h2, Kp h h1 → Kp h1 h2 → R (fz h1 W) o → S (fz h2 W) i → Gv prog w n W (subscriptTail value slice o i) d h2) : Gv prog w n W (eval (.Subscript value slice pos) env) d h := by
  intro A s Q E hk am hq
  refine Subscript_ (h1 A s _ E hk am fun o h' tk' k1 r1 => ?_)
  refine h2 h' (hk.trans k1) A _ _ E (Kp.refl _) am fun i h'' tk'' k2 r2 => ?_
  exact h3 o i h' h'' (hk.trans k1) k2 r1 r2 A _ Q E (Kp.refl _) am fun v h3 tk3 k3 r3 => hq v h3 tk3 ((k1.trans k2).trans k3) r3
theorem tail_list {value slice : Expr} {ds : List D} {o i : Value} {d : D} (r : Rep (fz h W) (.list ds) o) (hg : Gv prog w n W (getItem o i) d h) : Gv prog w n W (subscriptTail value slice o i) d h := by
  obtain ⟨l, vs, rfl, q, rl⟩ := r
  exact tail_ok (fun s hk => (list_of (SeqAt.mono q (fz_mono hk))).1.typeIs) slot_list_getitem.lookup hg
theorem tail_tuple {value slice : Expr} {ds : List D} {o i : Value} {d : D} (r : Rep (fz h W) (.tuple ds) o) (hg : Gv prog w n W (getItem o i) d h) : Gv prog w n W (subscriptTail value slice o i) d h := by
  obtain ⟨l, vs, rfl, q, rl⟩ := r
  exact tail_ok (fun s hk => (tuple_of (SeqAt.mono q (fz_mono hk))).1.typeIs) F.slot_tuple_getitem.lookup hg
theorem tail_str {value slice : Expr} {x : List Nat} {o i : Value} {d : D} (r : Rep (fz h W) (.str x) o) (hg : Gv prog w n W (getItem o i) d h) : Gv prog w n W (subscriptTail value slice o i) d h := by
  obtain ⟨t, rfl⟩ := r
  exact tail_ok (fun s _ => typeIs_str s _ _) F.slot_str_getitem.lookup hg
theorem tail_bytes {value slice : Expr} {x : List UInt8} {o i : Value} {d : D} (r : Rep (fz h W) (.bytes x) o) (hg : Gv prog w n W (getItem o i) d h) : Gv prog w n W (subscriptTail value slice o i) d h := by
  obtain ⟨t, rfl⟩ := r
  exact tail_ok (fun s _ => PySem.W.typeIs_bytes s _ _) FB.slot_bytes_getitem.lookup hg

theorem b_list {ds es : List D} {v u : Value} (hz : ds.length + es.length ≤ 1048576) (al : Al W h) (r : Rep (fz h W) (.list ds) v) (r' : Rep (fz h W) (.list es) u) : Gv prog w n W (binaryOp .Add v u) (.list (ds ++ es)) h := by
  obtain ⟨l, vs, rfl, q, rl⟩ := r
  obtain ⟨b, ws, rfl, q', rl'⟩ := r'
  intro A s Q E hk am hq
  obtain ⟨hl, -⟩ := list_of (SeqAt.mono q (fz_mono hk))
  obtain ⟨hb, -⟩ := list_of (SeqAt.mono q' (fz_mono hk))
  obtain ⟨⟨cls, dd, data, sl⟩, ho, hc, n1, hd⟩ := id hl
  obtain ⟨⟨cls2, dd2, data2, sl2⟩, ho2, hc2, n2, hd2⟩ := id hb
  first | dsimp only at hc hd hc2 hd2 | simp only at hc hd hc2 hd2
  subst hc hd hc2 hd2
  have e : vs.toArray ++ ws.toArray = (vs ++ ws).toArray := by simp
  refine concat_meets ⟨_, ho, rfl⟩ ⟨_, ho2, rfl⟩ noFill_list_add seq_list_add PySem.F.slot_list_add PySem.F.entry_list_add (PySem.F.args_list_add_2 _ _) (list_addW l b vs.toArray ws.toArray n1 n2 dd dd2 sl sl2 ?_) ⟨ho, ho2, ?_⟩
  · have := rl.length; have := rl'.length
    simp only [List.size_toArray]; rw [sizeLine_eq]; (first | lia | omega)
  · rw [e]
    refine hq _ _ s.toks (Kp.push _ _) (rep_list ((al.mono hk).fresh (size_none _)) ⟨_, Heap.get?_push_size _ rfl, rfl, 0, rfl, rfl⟩ ?_)
    exact RepL.mono (Sub.trans (fz_mono hk) (fz_mono (Kp.push _ _))) (rl.append rl')
theorem RepL.rep {g : Gh} {ds : List D} {vs : List Value} (r : RepL g ds vs) : ∀ k : Nat, RepL g (List.replicate k ds).flatten (List.replicate k vs).flatten
  | 0 => rfl
  | k + 1 => by
    rw [List.replicate_succ, List.replicate_succ, List.flatten_cons, List.flatten_cons]
    exact RepL.append r (RepL.rep r k)
theorem b_lmul {ds : List D} {v : Value} {j : Int} {u : Tok} (h0 : 0 ≤ j) (h1 : j ≤ 64) (hz : ds.length ≤ 1000) (al : Al W h) (r : Rep (fz h W) (.list ds) v) : Gv prog w n W (binaryOp .Mult v (.int j u)) (.list (List.replicate j.toNat ds).flatten) h := by
  obtain ⟨l, vs, rfl, q, rl⟩ := r
  intro A s Q E hk am hq
  obtain ⟨hl, hn⟩ := list_of (SeqAt.mono q (fz_mono hk))
  obtain ⟨⟨cls, d, data, sl⟩, ho, hcl, k, hd⟩ := id hl
  first | dsimp only at hcl hd | simp only at hcl hd
  subst hcl hd
  have hvl : vs.toArray.size = ds.length := by simp [rl.length]
  have hsz' : vs.toArray.size * j.toNat ≤ 64000 := by
    rw [hvl]; exact Nat.le_trans (Nat.mul_le_mul hz (show j.toNat ≤ 64 by (first | lia | omega))) (by decide)
  have hsz2 : vs.length * j.toNat ≤ 64000 := by simpa using hsz'
  refine wpAny_binaryOp_repeat_ref (T := "list") (U := "int") (by decide) ⟨_, ho, rfl⟩ (fun s' => typeIs_int s' j u) noFill_list_mul F.fills_int_mul F.slot_int_rmul repeat_list F.slot_int_index.lookup
    (call_meets F.slot_int_rmul (typeIs_int s j u) F.entry_int_rmul (F.args_int_rmul_2 _ _) (lm_int_rmul_list_any j u l vs.toArray k d sl)
      ⟨ho, rfl, ⟨_, ho, rfl⟩, call_meets F.slot_list_mul ⟨_, ho, rfl⟩ F.entry_list_mul (F.args_list_mul_2 _ _)
        (lm_list_mul_any l vs.toArray k d sl j u (by simp [Builtin.List.listFitsIndex]; (first | lia | omega)) (by (first | lia | omega)) (by simp [Builtin.List.listTooLong, sizeLine]; (first | lia | omega)))
        ⟨ho, ?_⟩⟩)
  refine hq _ _ s.toks (Kp.push _ _) (rep_list ((al.mono hk).fresh (size_none _)) ⟨_, Heap.get?_push_size _ rfl, rfl, 0, by rw [listMul_foldl_if], rfl⟩ ?_)
  exact RepL.mono (Sub.trans (fz_mono hk) (fz_mono (Kp.push _ _))) (rl.rep _)
theorem l_list {ds : List D} {v : Value} (hz : ds.length ≤ 1048576) (r : Rep (fz h W) (.list ds) v) : Gv prog w n W (call (.builtin "len") [v]) (.int ds.length) h := by
  obtain ⟨l, vs, rfl, q, rl⟩ := r
  intro A s Q E hk am hq
  obtain ⟨hl, -⟩ := list_of (SeqAt.mono q (fz_mono hk))
  have hlen := rl.length
  refine call_len_list hl (by simp only [List.size_toArray]; (first | lia | omega)) ?_
  simp only [List.size_toArray, hlen]
  exact hq _ s.heap _ (Kp.refl _) ⟨_, rfl⟩
noncomputable def asInt : D → Option Int
  | .int i => some i
  | _ => none
noncomputable def asStr : D → Option (List Nat)
  | .str x => some x
  | _ => none
theorem asInt_inv {d : D} {i : Int} (h : asInt d = some i) : d = .int i := by cases d <;> first | (cases h; done) | (cases h; rfl)
theorem asStr_inv {d : D} {x : List Nat} (h : asStr d = some x) : d = .str x := by cases d <;> first | (cases h; done) | (cases h; rfl)
theorem ite_inv {α : Type} {c : Prop} [Decidable c] {a d : α} (h : (if c then some a else none) = some d) : c ∧ a = d := by
  by_cases q : c
  · rw [if_pos q] at h; cases h; exact ⟨q, rfl⟩
  · rw [if_neg q] at h; cases h
theorem ifn_inv {α : Type} {c : Prop} [Decidable c] {x : Option α} {d : α} (h : (if c then none else x) = some d) : ¬ c ∧ x = some d := by
  by_cases q : c
  · exact ns ((if_pos q).symm.trans h)
  · exact ⟨q, (if_neg q).symm.trans h⟩
theorem ift_inv {α : Type} {c : Prop} [Decidable c] {x : Option α} {d : α} (h : (if c then x else none) = some d) : c ∧ x = some d := by
  by_cases q : c
  · exact ⟨q, (if_pos q).symm.trans h⟩
  · exact ns ((if_neg q).symm.trans h)
theorem bind_inv {α β : Type} {o : Option α} {f : α → Option β} {d : β} (h : o.bind f = some d) : ∃ a, o = some a ∧ f a = some d := by
  cases o with
  | none => first | with_reducible exact ns h | cases h
  | some a => exact ⟨a, rfl, h⟩
noncomputable def eqL (f : D → D → Option Bool) : List D → List D → Option Bool
  | d :: ds, e :: es => (f d e).bind fun a => (eqL f ds es).bind fun b => some (a && b)
  | _, _ => some true
noncomputable def asList : D → Option (List D)
  | .list ds => some ds
  | _ => none
theorem asList_inv {d : D} {ds : List D} (h : asList d = some ds) : d = .list ds := by cases d <;> first | exact ns h | (cases h; rfl)
noncomputable def eqA (d e : D) : Option Bool := match d with
  | .int i => (match e with | .int j => some (i == j) | _ => none)
  | .bool b => (match e with | .bool c => some (b == c) | _ => none)
  | .str x => (match e with | .str y => some (x == y) | _ => none)
  | _ => none
noncomputable def eqD : Nat → D → D → Option Bool
  | 0, d, e => eqA d e
  | k + 1, d, e => match asList d with
    | some ds => (asList e).bind fun es => if ds.length = es.length then eqL (eqD k) ds es else some false
    | none => eqA d e
inductive EqA : D → D → Bool → Prop
  | int (i j : Int) : EqA (.int i) (.int j) (i == j)
  | bool (b c : Bool) : EqA (.bool b) (.bool c) (b == c)
  | str (x y : List Nat) : EqA (.str x) (.str y) (x == y)
theorem eqA_inv {d e : D} {b : Bool} (h : eqA d e = some b) : EqA d e b := by
  cases d <;> first | exact ns h | skip
  all_goals cases e <;> first | exact ns h | skip
  · rw [← Option.some.inj (show some _ = some b from h)]; exact .bool _ _
  · rw [← Option.some.inj (show some _ = some b from h)]; exact .int _ _
  · rw [← Option.some.inj (show some _ = some b from h)]; exact .str _ _
theorem eqD_inv {k : Nat} {d e : D} {b : Bool} (h : eqD (k + 1) d e = some b) : EqA d e b ∨ ∃ ds es, d = .list ds ∧ e = .list es ∧ (if ds.length = es.length then eqL (eqD k) ds es else some false) = some b := by
  have h : (match asList d with
    | some ds => (asList e).bind fun es => if ds.length = es.length then eqL (eqD k) ds es else some false
    | none => eqA d e) = some b := h
  cases q : asList d with
  | none => rw [q] at h; exact .inl (eqA_inv h)
  | some ds =>
    rw [q] at h
    obtain ⟨es, he, h⟩ := Option.bind_eq_some_iff.mp h
    exact .inr ⟨ds, es, asList_inv q, asList_inv he, h⟩
theorem eqL_get {f : D → D → Option Bool} : ∀ {ds es : List D} {b : Bool}, ds.length = es.length → eqL f ds es = some b →
    (∀ (i : Nat) (d e : D), ds[i]? = some d → es[i]? = some e → ∃ c, f d e = some c) ∧ b = (List.range ds.length).all fun i => (f (ds.getD i .none) (es.getD i .none)).getD false
  | [], [], b, _, h => by
    cases (show some true = some b from h)
    exact ⟨fun i d e h1 => by simp at h1, by simp⟩
  | d :: ds, e :: es, b, hl, h => by
    obtain ⟨a, ha, h⟩ := Option.bind_eq_some_iff.mp (show ((f d e).bind fun a => (eqL f ds es).bind fun b => some (a && b)) = some b from h)
    obtain ⟨c, hc, h⟩ := Option.bind_eq_some_iff.mp h
    cases h
    obtain ⟨h1, h2⟩ := eqL_get (Nat.succ.inj hl) hc
    refine ⟨fun i d' e' x y => ?_, ?_⟩
    · cases i with
      | zero => cases x; cases y; exact ⟨a, ha⟩
      | succ i => exact h1 i d' e' x y
    · rw [List.length_cons, List.range_succ_eq_map, List.all_cons, List.all_map, h2]
      show _ = ((f d e).getD false && _)
      rw [ha]; rfl
theorem same_atom {g : Gh} {d e : D} {v : Value} {b : Bool} (q : EqA d e b) (r : Rep g d v) (r' : Rep g e v) : b = true := by
  cases q with
  | int i j => obtain ⟨t, rfl⟩ := r; obtain ⟨t', e'⟩ := r'; cases e'; simp
  | bool x y => cases (Eq.trans (Eq.symm r) r' : Value.bool x = Value.bool y); simp
  | str x y =>
    obtain ⟨t, rfl⟩ := r; obtain ⟨t', e'⟩ := r'
    injection e' with e1 e2; injection e1 with e1; have := congrArg Array.toList e1; simp at this; subst this; simp
theorem eqD_same {g : Gh} : ∀ (k : Nat) {d e : D} {v : Value} {b : Bool}, Rep g d v → Rep g e v → eqD k d e = some b → b = true := by
  intro k
  induction k with
  | zero => intro d e v b r r' q; exact same_atom (eqA_inv q) r r'
  | succ k ih =>
    intro d e v b r r' q
    rcases eqD_inv q with q | ⟨ds, es, rfl, rfl, q⟩
    · exact same_atom q r r'
    · obtain ⟨a, vs, rfl, sq, rl⟩ := r
      obtain ⟨a', vs', e', sq', rl'⟩ := r'
      cases e'
      obtain ⟨o, n1, g1, c1, d1⟩ := sq
      obtain ⟨o', n2, g2, c2, d2⟩ := sq'
      cases Option.some.inj (g1.symm.trans g2)
      injection d1.symm.trans d2 with d2 _
      have : vs = vs' := by simpa using congrArg Array.toList d2
      subst this
      have hl : ds.length = es.length := by rw [← rl.length, ← rl'.length]
      obtain ⟨h1, rfl⟩ := eqL_get hl ((if_pos hl).symm.trans q)
      rw [List.all_eq_true]
      intro i hi
      have hi' : i < ds.length := by simpa using hi
      have e1 : ds[i]? = some ds[i] := by simp [hi']
      have e2 : es[i]? = some es[i] := by simp [hl ▸ hi']
      obtain ⟨c, hc⟩ := h1 i _ _ e1 e2
      obtain ⟨x, hx, rx⟩ := rl.get' e1
      obtain ⟨y, hy, ry⟩ := rl'.get' e2
      cases Option.some.inj (hx.symm.trans hy)
      have := ih rx ry hc
      subst this
      simp [List.getD_eq_getElem?_getD, e1, e2, hc]
theorem at_atom {A : Around} {s : Shared} {W : List Addr} {d e : D} {v u : Value} {b : Bool} (q : EqA d e b) (r : Rep (fz s.heap W) d v) (r' : Rep (fz s.heap W) e u) : SeqAt.RcAt A s v u b ∧ SeqAt.EqAt A s v u b := by
  cases q with
  | bool x y => have r : v = _ := r; have r' : u = _ := r'; subst r r'; exact ⟨SeqAt.RcAt.bool_bool _ _, SeqAt.EqAt.bool_bool _ _⟩
  | int i j => obtain ⟨t, rfl⟩ := r; obtain ⟨t', rfl⟩ := r'; exact ⟨SeqAt.RcAt.int_int _ _ _ _, SeqAt.EqAt.int_int _ _ _ _⟩
  | str x y =>
    obtain ⟨t, rfl⟩ := r; obtain ⟨t', rfl⟩ := r'
    have e1 : ((⟨x.toArray⟩ : Str) == ⟨y.toArray⟩) = (x == y) := by rw [← SeqAt.str_beq]
    have a := SeqAt.RcAt.str_str (A := A) (s := s) ⟨x.toArray⟩ t ⟨y.toArray⟩ t'
    have c := SeqAt.EqAt.str_str (A := A) (s := s) ⟨x.toArray⟩ t ⟨y.toArray⟩ t'
    rw [e1] at a c
    exact ⟨a, c⟩
theorem eq_at {s : Shared} {W : List Addr} : ∀ (k : Nat) {A : Around} {d e : D} {v u : Value} {b : Bool}, A.units + k < cLine → Rep (fz s.heap W) d v → Rep (fz s.heap W) e u → eqD k d e = some b →
    SeqAt.RcAt A s v u b ∧ SeqAt.EqAt A s v u b := by
  intro k
  induction k with
  | zero => intro A d e v u b hu r r' q; exact at_atom (eqA_inv q) r r'
  | succ k ih =>
    intro A d e v u b hu r r' q
    rcases eqD_inv q with q' | ⟨ds, es, rfl, rfl, q'⟩
    · exact at_atom q' r r'
    · have whole := q
      have R := r
      have R' := r'
      have q := q'
      clear q'
      obtain ⟨a, vs, rfl, sq, rl⟩ := r
      obtain ⟨a', vs', rfl, sq', rl'⟩ := r'
      obtain ⟨hl, -⟩ := list_of sq
      obtain ⟨hl', -⟩ := list_of sq'
      have l1 := rl.length
      have l2 := rl'.length
      have rc : SeqAt.RcAt A s (.ref a) (.ref a') b := by
        by_cases hlen : ds.length = es.length
        · rw [if_pos hlen] at q
          obtain ⟨h1, rfl⟩ := eqL_get hlen q
          have key := SeqAt.RcAt.lists (A := A) (e := fun i => (eqD k (ds.getD i .none) (es.getD i .none)).getD false) hl hl' (by simp [l1, l2, hlen]) (by (first | lia | omega)) (fun j h2 h3 => by
            simp only [List.size_toArray] at h2 h3
            have e1 : ds[j]? = some ds[j] := by simp [l1 ▸ h2]
            have e2 : es[j]? = some es[j] := by simp [l2 ▸ h3]
            obtain ⟨c, hc⟩ := h1 j _ _ e1 e2
            obtain ⟨x, hx, rx⟩ := rl.get' e1
            obtain ⟨y, hy, ry⟩ := rl'.get' e2
            have g1 : vs.toArray[j] = x := by have := List.getElem?_eq_some_iff.mp hx; obtain ⟨_, q1⟩ := this; simpa using q1
            have g2 : vs'.toArray[j] = y := by have := List.getElem?_eq_some_iff.mp hy; obtain ⟨_, q1⟩ := this; simpa using q1
            have := (ih (A := A.in1) (by show A.units + 1 + k < cLine; (first | lia | omega)) rx ry hc).2
            simp only [List.getD_eq_getElem?_getD, e1, e2, Option.getD_some, hc, g1, g2]
            exact this)
          simp only [List.size_toArray, l1] at key
          exact key
        · rw [if_neg hlen] at q
          first | with_reducible exact ns q | cases q
          exact SeqAt.RcAt.lists_lengths hl hl' (by simp [l1, l2, hlen]) (by (first | lia | omega))
      refine ⟨rc, ?_⟩
      by_cases hne : a = a'
      · subst hne
        have := eqD_same (k + 1) R R' whole
        subst this
        exact SeqAt.EqAt.same _
      · exact SeqAt.EqAt.of_refs hne rc
end
section
variable {prog : Program} {w : World} {n : Nat} {W : List Addr} {h : Heap}
theorem c_eq {d e : D} {v u : Value} {b : Bool} (k : Nat) (hn : k ≤ 4 * n) (r : Rep (fz h W) d v) (r' : Rep (fz h W) e u) (q : eqD k d e = some b) : Gv prog w n W (compareOp .Eq v u) (.bool b) h := by
  intro A s Q E hk am hq
  have := am.un
  exact (eq_at k (by (first | lia | omega)) (Rep.mono (fz_mono hk) r) (Rep.mono (fz_mono hk) r') q).1 prog w E Q (hq _ s.heap s.toks (Kp.refl _) rfl)
noncomputable def anyD (f : D → Option Bool) : List D → Option Bool
  | [] => some false
  | d :: ds => (f d).bind fun a => (anyD f ds).bind fun b => some (a || b)
theorem anyD_get {f : D → Option Bool} : ∀ {ds : List D} {b : Bool}, anyD f ds = some b → (∀ d ∈ ds, ∃ c, f d = some c) ∧ b = ds.any fun d => (f d).getD false
  | [], b, h => by cases (show some false = some b from h); exact ⟨fun _ h => (nomatch h), rfl⟩
  | d :: ds, b, h => by
    obtain ⟨a, ha, h⟩ := Option.bind_eq_some_iff.mp (show ((f d).bind fun a => (anyD f ds).bind fun b => some (a || b)) = some b from h)
    obtain ⟨c, hc, h⟩ := Option.bind_eq_some_iff.mp h
    cases h
    obtain ⟨h1, rfl⟩ := anyD_get hc
    refine ⟨fun e he => ?_, by rw [List.any_cons, ha]; rfl⟩
    rcases List.mem_cons.mp he with rfl | he
    · exact ⟨a, ha⟩
    · exact h1 e he
theorem items_eq {s : Shared} {k : Nat} {A : Around} {x : D} {u : Value} (hu : A.units + 1 + k < cLine) (ru : Rep (fz s.heap W) x u) : ∀ {ds : List D} {vs : List Value} {b : Bool}, RepL (fz s.heap W) ds vs → anyD (fun d => eqD k d x) ds = some b →
    ∃ e : Value → Bool, (∀ y, y ∈ vs.toArray → SeqAt.EqAt A.in1 s y u (e y)) ∧ vs.any e = b := by
  intro ds vs b rl q
  obtain ⟨h1, rfl⟩ := anyD_get q
  classical
  refine ⟨fun y => decide (∃ (j : Nat) (d : D), vs[j]? = some y ∧ ds[j]? = some d ∧ eqD k d x = some true), fun y hy => ?_, ?_⟩
  · have hy' : y ∈ vs := by simpa using hy
    obtain ⟨i, hi, rfl⟩ := List.mem_iff_getElem.mp hy'
    obtain ⟨d, hd, rd⟩ := rl.get (i := i) (v := vs[i]) (by simp [hi])
    obtain ⟨c, hc⟩ := h1 d (List.mem_of_getElem? hd)
    by_cases hex : ∃ (j : Nat) (d : D), vs[j]? = some vs[i] ∧ ds[j]? = some d ∧ eqD k d x = some true
    · have e1 : decide (∃ (j : Nat) (d : D), vs[j]? = some vs[i] ∧ ds[j]? = some d ∧ eqD k d x = some true) = true := decide_eq_true hex
      show SeqAt.EqAt A.in1 s vs[i] u (decide _)
      rw [e1]
      obtain ⟨j, d', hv, hd', hc'⟩ := hex
      obtain ⟨d'', hd'', rd''⟩ := rl.get hv
      first | exact dead2 (hd') hd'' | exact dead2 hd'' (hd') | (rw [hd'] at hd''; cases hd'')
      exact (eq_at k (A := A.in1) hu rd'' ru hc').2
    · have e1 : decide (∃ (j : Nat) (d : D), vs[j]? = some vs[i] ∧ ds[j]? = some d ∧ eqD k d x = some true) = false := decide_eq_false hex
      show SeqAt.EqAt A.in1 s vs[i] u (decide _)
      rw [e1]
      have : c = false := by
        cases c with
        | false => rfl
        | true => exact absurd ⟨i, d, by simp [hi], hd, hc⟩ hex
      subst this
      exact (eq_at k (A := A.in1) hu rd ru hc).2
  · rw [Bool.eq_iff_iff, List.any_eq_true, List.any_eq_true]
    constructor
    · rintro ⟨y, hy, h2⟩
      obtain ⟨j, d, hv, hd, hc⟩ := of_decide_eq_true h2
      exact ⟨d, List.mem_of_getElem? hd, by rw [hc]; rfl⟩
    · rintro ⟨d, hd, h2⟩
      obtain ⟨c, hc⟩ := h1 d hd
      rw [hc] at h2
      have h2' : c = true := h2
      subst h2'
      obtain ⟨j, hj, rfl⟩ := List.mem_iff_getElem.mp hd
      obtain ⟨y, hy, ry⟩ := rl.get' (i := j) (d := ds[j]) (by simp [hj])
      exact ⟨y, List.mem_of_getElem? hy, decide_eq_true ⟨j, ds[j], hy, by simp [hj], hc⟩⟩
theorem c_in_list {x : D} {ds : List D} {u v : Value} {b : Bool} (k : Nat) (hn : k + 1 ≤ 4 * n) (r : Rep (fz h W) x u) (r' : Rep (fz h W) (.list ds) v) (q : anyD (fun d => eqD k d x) ds = some b) : Gv prog w n W (compareOp .In u v) (.bool b) h := by
  obtain ⟨l, vs, rfl, sq, rl⟩ := r'
  intro A s Q E hk am hq
  have := am.un
  obtain ⟨e, he, hb⟩ := items_eq (s := s) (A := A) (k := k) (by (first | lia | omega)) (Rep.mono (fz_mono hk) r) (RepL.mono (fz_mono hk) rl) q
  exact SeqAt.in_listAt e (list_of (SeqAt.mono sq (fz_mono hk))).1 he (by
    have e1 : vs.toArray.any e = b := by rw [← hb]; simp
    rw [e1]; exact hq _ s.heap s.toks (Kp.refl _) rfl)
theorem c_nin_list {x : D} {ds : List D} {u v : Value} {b : Bool} (k : Nat) (hn : k + 1 ≤ 4 * n) (r : Rep (fz h W) x u) (r' : Rep (fz h W) (.list ds) v) (q : anyD (fun d => eqD k d x) ds = some b) : Gv prog w n W (compareOp .NotIn u v) (.bool (!b)) h := by
  obtain ⟨l, vs, rfl, sq, rl⟩ := r'
  intro A s Q E hk am hq
  have := am.un
  obtain ⟨e, he, hb⟩ := items_eq (s := s) (A := A) (k := k) (by (first | lia | omega)) (Rep.mono (fz_mono hk) r) (RepL.mono (fz_mono hk) rl) q
  exact SeqAt.notIn_listAt e (list_of (SeqAt.mono sq (fz_mono hk))).1 he (by
    have e1 : vs.toArray.any e = b := by rw [← hb]; simp
    rw [e1]; exact hq _ s.heap s.toks (Kp.refl _) rfl)
theorem c_in_tuple {x : D} {ds : List D} {u v : Value} {b : Bool} (k : Nat) (hn : k + 1 ≤ 4 * n) (r : Rep (fz h W) x u) (r' : Rep (fz h W) (.tuple ds) v) (q : anyD (fun d => eqD k d x) ds = some b) : Gv prog w n W (compareOp .In u v) (.bool b) h := by
  obtain ⟨l, vs, rfl, sq, rl⟩ := r'
  intro A s Q E hk am hq
  have := am.un
  obtain ⟨e, he, hb⟩ := items_eq (s := s) (A := A) (k := k) (by (first | lia | omega)) (Rep.mono (fz_mono hk) r) (RepL.mono (fz_mono hk) rl) q
  exact SeqAt.in_tupleAt e (tuple_of (SeqAt.mono sq (fz_mono hk))).1 he (by
    have e1 : vs.toArray.any e = b := by rw [← hb]; simp
    rw [e1]; exact hq _ s.heap s.toks (Kp.refl _) rfl)
theorem c_nin_tuple {x : D} {ds : List D} {u v : Value} {b : Bool} (k : Nat) (hn : k + 1 ≤ 4 * n) (r : Rep (fz h W) x u) (r' : Rep (fz h W) (.tuple ds) v) (q : anyD (fun d => eqD k d x) ds = some b) : Gv prog w n W (compareOp .NotIn u v) (.bool (!b)) h := by
  obtain ⟨l, vs, rfl, sq, rl⟩ := r'
  intro A s Q E hk am hq
  have := am.un
  obtain ⟨e, he, hb⟩ := items_eq (s := s) (A := A) (k := k) (by (first | lia | omega)) (Rep.mono (fz_mono hk) r) (RepL.mono (fz_mono hk) rl) q
  exact SeqAt.notIn_tupleAt e (tuple_of (SeqAt.mono sq (fz_mono hk))).1 he (by
    have e1 : vs.toArray.any e = b := by rw [← hb]; simp
    rw [e1]; exact hq _ s.heap s.toks (Kp.refl _) rfl)
end
end
section
theorem strL (x : List Nat) : PySem.Str.length ⟨x.toArray⟩ = x.length := by show x.toArray.size = _; simp

noncomputable def putC (k : Nat) : List (List Nat) → List (List Nat)
  | [] => [[k]]
  | p :: r => (k :: p) :: r
noncomputable def splitC (c : Nat) : List Nat → List (List Nat)
  | [] => [[]]
  | k :: x => if k = c then [] :: splitC c x else putC k (splitC c x)
noncomputable def glueC (c : Nat) : List (List Nat) → List Nat
  | [] => []
  | [p] => p
  | p :: q :: r => p ++ c :: glueC c (q :: r)
theorem splitC_ne (c : Nat) (x : List Nat) : splitC c x ≠ [] := by
  cases x with
  | nil => exact fun e => nomatch e
  | cons k x =>
    show (if k = c then [] :: splitC c x else putC k (splitC c x)) ≠ []
    by_cases q : k = c
    · rw [if_pos q]; exact fun e => nomatch e
    · rw [if_neg q]; cases splitC c x <;> exact fun e => nomatch e
theorem splitC_free {c : Nat} : ∀ {x : List Nat}, c ∉ x → splitC c x = [x]
  | [], _ => rfl
  | k :: x, h => by
    have hk : k ≠ c := fun e => h (by rw [e]; exact .head _)
    exact (if_neg hk).trans (congrArg (putC k) (splitC_free fun e => h (.tail _ e)))
theorem splitC_cat {c : Nat} (x : List Nat) : ∀ {p : List Nat}, c ∉ p → splitC c (p ++ c :: x) = p :: splitC c x
  | [], _ => if_pos rfl
  | k :: p, h => by
    have hk : k ≠ c := fun e => h (by rw [e]; exact .head _)
    exact (if_neg hk).trans (congrArg (putC k) (splitC_cat x fun e => h (.tail _ e)))
theorem splitC_glue {c : Nat} : ∀ {ps : List (List Nat)}, ps ≠ [] → (∀ p ∈ ps, c ∉ p) → splitC c (glueC c ps) = ps
  | [p], _, h => splitC_free (h p (.head _))
  | p :: q :: r, _, h => by
    exact (splitC_cat (glueC c (q :: r)) (h p (.head _))).trans (congrArg (p :: ·) (splitC_glue (fun e => nomatch e) fun a m => h a (.tail _ m)))
theorem glue_join (c : Nat) : ∀ ps : List Str, (Str.join ⟨#[c]⟩ ps).cps.toList = glueC c (ps.map (·.cps.toList))
  | [] => rfl
  | [p] => rfl
  | p :: q :: r => by
    rw [PyProof.Rows.join_cons_cons]
    show _ = p.cps.toList ++ c :: glueC c ((q :: r).map (·.cps.toList))
    rw [← glue_join c (q :: r)]
    simp [Str.cps_append]
theorem split_is (x : List Nat) (c : Nat) : (Txt.split ⟨x.toArray⟩ ⟨#[c]⟩).map (·.cps.toList) = splitC c x := by
  have h1 := StrLaws.join_split ⟨x.toArray⟩ ⟨#[c]⟩
  have h2 := StrLaws.split_free ⟨x.toArray⟩ c
  have h3 := PyProof.Rows.split_pos ⟨x.toArray⟩ ⟨#[c]⟩
  have h4 := glue_join c (Txt.split ⟨x.toArray⟩ ⟨#[c]⟩)
  rw [h1] at h4
  have h5 : x = glueC c ((Txt.split ⟨x.toArray⟩ ⟨#[c]⟩).map (·.cps.toList)) := by simpa using h4
  conv => rhs; rw [h5]
  refine (splitC_glue ?_ ?_).symm
  · intro e
    have := congrArg List.length e
    simp at this
    rw [this] at h3; simp at h3
  · intro p hp
    obtain ⟨q, hq, rfl⟩ := List.mem_map.mp hp
    exact h2 q hq

section
variable {prog : Program} {w : World} {n : Nat} {W : List Addr} {h : Heap}
theorem rep_strs {g : Gh} : ∀ {l : List (Str × Tok)}, RepL g ((l.map (·.1)).map fun x => D.str x.cps.toList) (strValues l)
  | [] => rfl
  | (x, t) :: l => ⟨.str x t, strValues l, rfl, ⟨t, by simp⟩, rep_strs (l := l)⟩
open Builtin Builtin.Str in
theorem m_split {x : List Nat} {c : Nat} {t u : Tok} (al : Al W h) (hz : x.length ≤ 1048576) : Gv prog w n W (call (.builtin "str.split") [.str ⟨x.toArray⟩ t, .str ⟨#[c]⟩ u]) (.list ((splitC c x).map D.str)) h := by
  intro A s Q E hk am hq
  have key : ∀ (l : List (Str × Tok)) (tk : Nat), l.map (·.1) = Txt.split ⟨x.toArray⟩ ⟨#[c]⟩ → Q (.ref s.heap.objs.size) { s with heap := s.heap.push { cls := .type "list", data := .seq (strValues l).toArray }, toks := tk } := fun l tk e => by
    refine hq _ _ tk (Kp.push _ _) (rep_list ((al.mono hk).fresh (size_none _)) ⟨_, Heap.get?_push_size _ rfl, rfl, 0, rfl, rfl⟩ ?_)
    have := rep_strs (g := fz (s.heap.push { cls := .type "list", data := .seq (strValues l).toArray }) W) (l := l)
    rw [e] at this
    rw [← split_is, List.map_map]
    exact this
  have hy : (PySem.Str.length (⟨#[c]⟩ : Str) == 0) = false := rfl
  have hx : PySem.Str.length ⟨x.toArray⟩ ≤ sizeLine := by rw [strL, sizeLine_eq]; (first | lia | omega)
  cases h1 : (decide (PySem.Str.length ⟨x.toArray⟩ < PySem.Str.length (⟨#[c]⟩ : Str)) || decide (strKind ⟨x.toArray⟩ < strKind ⟨#[c]⟩))
  · cases hf : (occurrences ⟨x.toArray⟩ ⟨#[c]⟩ 0 (PySem.Str.length ⟨x.toArray⟩) (PySem.Str.length ⟨x.toArray⟩ + 1)).isEmpty
    · have hpl : (partsBetween ⟨x.toArray⟩ (occurrences ⟨x.toArray⟩ ⟨#[c]⟩ 0 (PySem.Str.length ⟨x.toArray⟩) (PySem.Str.length ⟨x.toArray⟩ + 1)) (PySem.Str.length (⟨#[c]⟩ : Str))).length ≤ sizeLine := by
        have h4 := PyProof.Rows.split_le ⟨x.toArray⟩ ⟨#[c]⟩
        unfold Txt.split at h4
        rw [if_neg (ne_true_of_eq_false h1), if_neg (ne_true_of_eq_false hf)] at h4
        rw [strL] at h4 ⊢
        rw [sizeLine_eq]; (first | lia | omega)
      refine call_meets F.slot_str_split (typeIs_str _ _ _) F.entry_str_split (F.args_str_split_2 _ _) (meets_str_split_sep _ _ t u h1 hy hf hx hpl) ?_
      show wants Q E _ { s with toks := _, heap := s.heap.push { cls := .type "list", data := .seq (strsFrom s.toks (partsBetween ⟨x.toArray⟩ (occurrences ⟨x.toArray⟩ ⟨#[c]⟩ 0 (PySem.Str.length ⟨x.toArray⟩) (PySem.Str.length ⟨x.toArray⟩ + 1)) (PySem.Str.length (⟨#[c]⟩ : Str)))).toArray } }
      rw [strsFrom_eq]
      exact key (numbered s.toks _) _ ((numbered_texts _ _).trans ((if_neg (ne_true_of_eq_false h1)).trans (if_neg (ne_true_of_eq_false hf))).symm)
    · exact call_meets F.slot_str_split (typeIs_str _ _ _) F.entry_str_split (F.args_str_split_2 _ _) (meets_str_split_not_found _ _ t u h1 hy hf)
        (key [(_, t)] s.toks ((if_neg (ne_true_of_eq_false h1)).trans (if_pos hf)).symm)
  · exact call_meets F.slot_str_split (typeIs_str _ _ _) F.entry_str_split (F.args_str_split_2 _ _) (meets_str_split_cannot_occur _ _ t u h1)
      (key [(_, t)] s.toks (if_pos h1).symm)

noncomputable def lowC (c : Nat) : Nat := if 65 ≤ c ∧ c ≤ 90 then c + 32 else c
theorem lo1_is : ∀ c, c < 128 → lo1 c = lowC c := by decide +kernel
theorem m_lower {x : List Nat} {t : Tok} (hz : x.length ≤ 1048576) (ha : x.all (fun c => decide (c < 128)) = true) : Gv prog w n W (call (.builtin "str.lower") [.str ⟨x.toArray⟩ t]) (.str (x.map lowC)) h := by
  have hA : ∀ c ∈ x, c < 128 := fun c hc => of_decide_eq_true (List.all_eq_true.mp ha c hc)
  refine gv_of fun A s Q E _ hq => SCL.lower (by rw [strL]; (first | lia | omega)) fun _ => ?_
  rw [lower_ascii (by simpa using hA)]
  refine hq _ _ ⟨s.toks, ?_⟩
  have : (x.map lo1) = x.map lowC := List.map_congr_left fun c hc => lo1_is c (hA c hc)
  simp [← this]

noncomputable def inL (y : List Nat) : List Nat → Bool
  | [] => y.isEmpty
  | c :: x => y.isPrefixOf (c :: x) || inL y x
theorem prefix_take (y : List Nat) : ∀ x : List Nat, y.isPrefixOf x = (x.take y.length == y) := by
  induction y with
  | nil => intro x; simp [List.isPrefixOf]
  | cons a y ih =>
    intro x
    cases x with
    | nil => rfl
    | cons b x => 
      simp only [List.isPrefixOf, List.length_cons, List.take_succ_cons, ih x]
      rw [List.cons_beq_cons]
      congr 1
      by_cases e : a = b
      · subst e; simp
      · rw [beq_eq_false_iff_ne.mpr e, beq_eq_false_iff_ne.mpr (Ne.symm e)]
theorem inL_iff (y : List Nat) : ∀ x : List Nat, inL y x = true ↔ ∃ i, i + y.length ≤ x.length ∧ ((x.drop i).take y.length == y) = true
  | [] => by
    constructor
    · intro e
      cases List.isEmpty_iff.mp e; exact ⟨0, Nat.le_refl _, rfl⟩
    · rintro ⟨i, h1, _⟩
      exact List.isEmpty_iff.mpr (List.length_eq_zero_iff.mp (Nat.le_zero.mp (Nat.le_trans (Nat.le_add_left _ _) h1)))
  | c :: x => by
    show (y.isPrefixOf (c :: x) || inL y x) = true ↔ _
    rw [Bool.or_eq_true, prefix_take, inL_iff y x]
    constructor
    · rintro (e | ⟨i, h1, h2⟩)
      · refine ⟨0, ?_, by simpa using e⟩
        have := congrArg List.length (eq_of_beq e)
        simp only [List.length_take, List.length_cons] at this ⊢
        (first | lia | omega)
      · exact ⟨i + 1, by simp only [List.length_cons]; omega, by simpa using h2⟩
    · rintro ⟨i, h1, h2⟩
      cases i with
      | zero => exact .inl (by simpa using h2)
      | succ i => exact .inr ⟨i, by simp only [List.length_cons] at h1; omega, by simpa using h2⟩
open Builtin Builtin.Str in
theorem found_is (x y : List Nat) : (!(occurrences ⟨x.toArray⟩ ⟨y.toArray⟩ 0 x.length 1).isEmpty) = inL y x := by
  have h1 := StrLaws.found_iff ⟨x.toArray⟩ ⟨y.toArray⟩
  rw [strL] at h1
  rw [Bool.eq_iff_iff, h1, inL_iff]
  simp only [strL, StrLaws.subAt_eq]
theorem c_in_text {x y : List Nat} {t u : Tok} : Gv prog w n W (compareOp .In (.str ⟨y.toArray⟩ u) (.str ⟨x.toArray⟩ t)) (.bool (inL y x)) h := by
  have := c_in_str (prog := prog) (w := w) (n := n) (W := W) (h := h) (x := x) (y := y) (t := t) (u := u)
  rw [found_is] at this; exact this
end
end
section
section
variable {prog : Program} {w : World} {n : Nat} {W : List Addr} {h : Heap}
open Builtin Builtin.Str in
theorem m_index {x : List Nat} {c j : Nat} {t u : Tok} (hj : x.findIdx? (fun k => k == c) = some j) : Gv prog w n W (call (.builtin "str.index") [.str ⟨x.toArray⟩ t, .str ⟨#[c]⟩ u]) (.int j) h := by
  rw [List.findIdx?_eq_some_iff_getElem] at hj
  obtain ⟨hlt, h1, h2⟩ := hj
  refine gv_of fun A s Q E am hq => ?_
  rcases StrLaws.occ_head ⟨x.toArray⟩ ⟨#[c]⟩ 1 (Nat.le_refl _) with ⟨-, hn⟩ | ⟨i, r, ho, ha, hb⟩
  · exact absurd ((StrLaws.subAt_one _ c j).mpr (by simp [hlt]; exact eq_of_beq h1)) (hn j)
  · have e1 := (StrLaws.subAt_one _ c i).mp ha
    have e1' : x[i]? = some c := by simpa using e1
    have hij : i = j := by
      rcases Nat.lt_trichotomy i j with q | q | q
      · have := h2 i q
        have hi : i < x.length := by (first | lia | omega)
        simp only [List.getElem?_eq_getElem hi, Option.some.injEq] at e1'
        rw [e1'] at this; simp at this
      · exact q
      · exact absurd ((StrLaws.subAt_one _ c j).mpr (by simp [hlt]; exact eq_of_beq h1)) (hb j q)
    subst hij
    exact SC.index ho (hq _ _ ⟨_, rfl⟩)

noncomputable def strsD : List D → Option (List (List Nat))
  | [] => some []
  | d :: ds => (asStr d).bind fun x => (strsD ds).map (x :: ·)
noncomputable def intsD : List D → Option (List Int)
  | [] => some []
  | d :: ds => (asInt d).bind fun i => (intsD ds).map (i :: ·)
theorem intsD_inv {d : D} {ds : List D} {xs : List Int} (h : intsD (d :: ds) = some xs) : ∃ x ys, d = .int x ∧ intsD ds = some ys ∧ xs = x :: ys := by
  obtain ⟨x, hx, h⟩ := bind_inv (show ((asInt d).bind fun x => (intsD ds).map (x :: ·)) = some xs from h)
  obtain ⟨ys, hy, rfl⟩ := Option.map_eq_some_iff.mp h
  exact ⟨x, ys, asInt_inv hx, hy, rfl⟩
theorem strsD_inv {d : D} {ds : List D} {xs : List (List Nat)} (h : strsD (d :: ds) = some xs) : ∃ x ys, d = .str x ∧ strsD ds = some ys ∧ xs = x :: ys := by
  obtain ⟨x, hx, h⟩ := bind_inv (show ((asStr d).bind fun x => (strsD ds).map (x :: ·)) = some xs from h)
  obtain ⟨ys, hy, rfl⟩ := Option.map_eq_some_iff.mp h
  exact ⟨x, ys, asStr_inv hx, hy, rfl⟩
theorem strs_are {g : Gh} : ∀ {ds : List D} {vs : List Value} {xs : List (List Nat)}, RepL g ds vs → strsD ds = some xs → StrsAre vs (xs.map fun x => ⟨x.toArray⟩)
  | [], _, _, r, e => by cases (show _ = [] from r); cases e; exact .nil
  | d :: ds, _, xs, r, e => by
    obtain ⟨v, vs, rfl, a, b⟩ := r
    obtain ⟨x, ys, rfl, hy, rfl⟩ := strsD_inv e
    obtain ⟨t, rfl⟩ := a
    exact .cons _ t (strs_are b hy)
theorem ints_are {g : Gh} : ∀ {ds : List D} {vs : List Value} {xs : List Int}, RepL g ds vs → intsD ds = some xs → IntsAre vs xs
  | [], _, _, r, e => by cases (show _ = [] from r); cases e; exact .nil
  | d :: ds, _, xs, r, e => by
    obtain ⟨v, vs, rfl, a, b⟩ := r
    obtain ⟨x, ys, rfl, hy, rfl⟩ := intsD_inv e
    obtain ⟨t, rfl⟩ := a
    exact .cons _ t (ints_are b hy)
theorem join_flat : ∀ xs : List (List Nat), (Txt.join ⟨#[]⟩ (xs.map fun x => (⟨x.toArray⟩ : Str))) = ⟨xs.flatten.toArray⟩ := by
  intro xs
  have e : Txt.join ⟨#[]⟩ (xs.map fun x => (⟨x.toArray⟩ : Str)) = Str.join ⟨#[]⟩ (xs.map fun x => (⟨x.toArray⟩ : Str)) := eq_of_beq (PyProof.Rows.join_plain_closes ⟨#[]⟩ _)
  rw [e]
  clear e
  induction xs with
  | nil => rfl
  | cons x xs ih =>
    rw [List.map_cons, PyProof.Rows.join_nil_cons, ih]
    apply Str.ext'
    simp [Str.cps_append]
theorem m_join {ds : List D} {xs : List (List Nat)} {v : Value} {t : Tok} (r : Rep (fz h W) (.list ds) v) (hx : strsD ds = some xs) (hz : xs.flatten.length ≤ 1048576) :
    Gv prog w n W (call (.builtin "str.join") [.str ⟨#[]⟩ t, v]) (.str xs.flatten) h := by
  obtain ⟨l, vs, rfl, q, rl⟩ := r
  intro A s Q E hk am hq
  refine join_list (list_of (SeqAt.mono q (fz_mono hk))).1 (by simpa using strs_are rl hx) ?_ fun t' k => ?_
  · have e : ((xs.map fun x => (⟨x.toArray⟩ : Str)).map (·.length)).sum = xs.flatten.length := by
      rw [List.length_flatten, List.map_map]; congr 1
    rw [e]
    have : (PySem.Str.length ⟨#[]⟩) = 0 := rfl
    rw [this]; (first | lia | omega)
  · rw [join_flat]
    exact hq _ s.heap k (Kp.refl _) ⟨t', rfl⟩
theorem f_chr {i : Int} {t : Tok} (h0 : 0 ≤ i) (h1 : i ≤ 1114111) : Gv prog w n W (call (.builtin "chr") [.int i t]) (.str [i.toNat]) h := gv_of fun _ s _ _ _ hq => chr_of_range h0 h1 (hq _ _ ⟨_, rfl⟩)
theorem f_min {i j : Int} {t u : Tok} : Gv prog w n W (call (.builtin "min") [.int i t, .int j u]) (.int (if j < i then j else i)) h := by
  intro A s Q E hk am hq
  refine min_two_ints am.hd fun h' tk k => hq _ h' tk k ?_
  split <;> exact ⟨_, rfl⟩
theorem f_sum {ds : List D} {xs : List Int} {v : Value} (r : Rep (fz h W) (.list ds) v) (hx : intsD ds = some xs) : Gv prog w n W (call (.builtin "sum") [v]) (.int xs.sum) h := by
  obtain ⟨l, vs, rfl, q, rl⟩ := r
  intro A s Q E hk am hq
  have hi := ints_are rl hx
  have hl := (list_of (SeqAt.mono q (fz_mono hk))).1
  obtain ⟨ys, hy⟩ := hi.allInts.items
  have hn : numsOf vs.toArray.toList = xs := by rw [show vs.toArray.toList = vs from rfl, hi.numsOf]
  rw [hy] at hl hn
  rw [nums_intItems] at hn
  refine sum_intListG am.hd hl fun h' tk t' k => ?_
  rw [preSum_eq, List.take_of_length_le (by (first | exact List.mem_cons_self | exact List.mem_cons_of_mem _ List.mem_cons_self | decide | simp)), hn]
  exact hq _ h' tk k ⟨t', rfl⟩
theorem f_list {ds : List D} {v : Value} (al : Al W h) (hz : ds.length ≤ 1048576) (r : Rep (fz h W) (.list ds) v) : Gv prog w n W (call (.type "list") [v]) (.list ds) h := by
  obtain ⟨l, vs, rfl, q, rl⟩ := r
  intro A s Q E hk am hq
  obtain ⟨o, n1, e, c, d, _⟩ := SeqAt.mono q (fz_mono hk)
  have e' := (fz_some.mp e).2
  refine call_list_seq l (.inl rfl) e' c d (fun h' c' k hl => ?_) (by rw [List.size_toArray, rl.length, sizeLine_eq]; (first | lia | omega))
  exact hq _ h' s.toks k (rep_list ((al.mono hk).fresh (size_none _)) ⟨_, hl, rfl, c', rfl, rfl⟩ (RepL.mono (Sub.trans (fz_mono hk) (fz_mono k)) rl))
theorem f_bytes {ds : List D} {xs : List Int} {v : Value} (hz : ds.length ≤ 1048576) (r : Rep (fz h W) (.list ds) v) (hx : intsD ds = some xs) (hr : xs.all (fun i => decide (0 ≤ i ∧ i < 256)) = true) :
    Gv prog w n W (call (.type "bytes") [v]) (.bytes (xs.map fun i => i.toNat.toUInt8)) h := by
  obtain ⟨l, vs, rfl, q, rl⟩ := r
  intro A s Q E hk am hq
  refine call_bytes_ints (list_of (SeqAt.mono q (fz_mono hk))).1 (ints_are rl hx) (fun i hi => of_decide_eq_true (List.all_eq_true.mp hr i hi)) (by rw [rl.length, sizeLine_eq]; (first | lia | omega)) am.hd fun h' t k kp => ?_
  exact hq _ h' k kp ⟨t, rfl⟩
theorem f_range1 {i : Int} {t : Tok} (al : Al W h) : Gv prog w n W (call (.type "range") [.int i t]) (.range 0 i 1) h := fun A s Q E hk am hq =>
  call_range_1 (hq _ _ _ (Kp.push _ _) ⟨_, _, _, _, rfl, fz_some.mpr ⟨(al.mono hk).fresh (size_none _), Heap.get?_push_size _ rfl⟩⟩)
theorem f_range2 {i j : Int} {t u : Tok} (al : Al W h) : Gv prog w n W (call (.type "range") [.int i t, .int j u]) (.range i j 1) h := fun A s Q E hk am hq =>
  call_range_2 (hq _ _ _ (Kp.push _ _) ⟨_, _, _, _, rfl, fz_some.mpr ⟨(al.mono hk).fresh (size_none _), Heap.get?_push_size _ rfl⟩⟩)
theorem f_range3 {i j k : Int} {t u x : Tok} (al : Al W h) (h0 : 0 < k) (h1 : k < 1000) : Gv prog w n W (call (.type "range") [.int i t, .int j u, .int k x]) (.range i j k) h := fun A s Q E hk am hq =>
  PySem.call_range_3 (by (first | lia | omega)) (hq _ _ _ (Kp.push _ _) ⟨_, _, _, _, rfl, fz_some.mpr ⟨(al.mono hk).fresh (size_none _), Heap.get?_push_size _ rfl⟩⟩) (Or.inl (PyProof.noPylong_small (by (first | lia | omega))))

noncomputable def rangeL (a c : Int) (n : Nat) : List D := (List.range n).map fun (i : Nat) => D.int (a + (i : Int) * c)
noncomputable def iterD : D → Option (List D)
  | .list ds => some ds
  | .tuple ds => some ds
  | .bytes x => some (x.map fun c => D.int c.toNat)
  | .range a b c => if 0 < c ∧ c < 1000 ∧ -1000000 ≤ a ∧ a ≤ 1000000 ∧ b ≤ 1000000 ∧ -1000000 ≤ b then some (rangeL a c (Builtin.Range.rangeSize a b c).toNat) else none
  | _ => none
noncomputable def Calm (o : Obj) : Prop := ∃ T, o.cls = .type T ∧ ["enumerate", "zip", "dict_itemiterator", "dict_reverseitemiterator", "odict_iterator", "itertools.zip_longest", "itertools.pairwise"].contains T = false
inductive Itr (prog : Program) (w : World) (W Y : List Addr) (h : Heap) (ds : List D) (I : Addr) (h' : Heap) : Prop
  | mk (fp : List Addr) (P : Nat → Value → Prop) (St : Nat → Heap → Prop) (wk : ∀ A : Around, A.handled = none → Walks prog w A I fp [I] ds.length P St) (hst : St 0 h') (hI : h.get? I = none) (hI2 : ∃ o, h'.get? I = some o) (hfp : ∀ b ∈ fp, b = I ∨ ((b ∉ W ∨ b ∈ Y) ∧ ∃ o, h.get? b = some o))
    (hP : ∀ i v, P i v → ∃ d, ds[i]? = some d ∧ Rep (fz h W) d v) (hlive : ∀ i h, St i h → ∃ o, h.get? I = some o ∧ Calm o)
theorem iter_ok {d : D} {ds : List D} {v : Value} (r : Rep (fz h W) d v) (e : iterD d = some ds) {A : Around} {s : Shared} {Q : Value → Shared → Prop} {E : Value → Shared → Prop} (hk : Kp h s.heap)
    (hq : ∀ I h', Kp s.heap h' → Itr prog w W [] s.heap ds I h' → Q (.ref I) { s with heap := h' }) : wpAny (model prog w) A (pyIter v) Q E s := by
  have live : ∀ {l : Addr} {o : Obj}, s.heap.get? l = some o → l ≠ s.heap.objs.size := fun e => Nat.ne_of_lt (Heap.lt_size e)
  cases d <;> first | exact ns e | skip
  · -- bytes
    obtain ⟨t, rfl⟩ := r
    first | with_reducible exact ns e | cases e
    rename_i x
    refine KBw.pyIter_bytes ?_
    refine hq _ _ (Kp.push _ _) ⟨[s.heap.objs.size], (fun i v => ∃ c u, x.toArray[i]? = some c ∧ v = .int (c.toNat : Int) u), (fun i h => KBw.IsBytesIter h s.heap.objs.size x.toArray t i), fun A hA => ?_, ⟨_, Heap.get?_push_size _ rfl, rfl, rfl⟩, size_none _, ⟨_, Heap.get?_push_size _ rfl⟩, fun b hb => .inl (by simpa using hb), fun i v hv => ?_, fun i h st => let ⟨o, ho, hc, _⟩ := st; ⟨o, ho, _, hc, by decide⟩⟩
    · have := KBw.walks (prog := prog) (w := w) hA s.heap.objs.size x.toArray t
      simpa using this
    · obtain ⟨c, u, hc, rfl⟩ := hv
      have hc' : x[i]? = some c := by simpa using hc
      exact ⟨.int c.toNat, by simp [hc'], ⟨u, rfl⟩⟩
  · -- list
    obtain ⟨l, vs, rfl, q, rl⟩ := r
    first | with_reducible exact ns e | cases e
    obtain ⟨hl, hn⟩ := list_of (SeqAt.mono q (fz_mono hk))
    have hl' := hl
    obtain ⟨o, ho, -⟩ := hl'
    refine wpAny_pyIter_list hl ?_
    refine hq _ _ (Kp.push _ _) ⟨[s.heap.objs.size, l], (fun i v => vs.toArray[i]? = some v), (fun i h => h.IsListIter s.heap.objs.size l i ∧ h.IsList l vs.toArray), fun A hA => ?_, ⟨⟨_, Heap.get?_push_size _ rfl, rfl, rfl⟩, hl.push _⟩, size_none _, ⟨_, Heap.get?_push_size _ rfl⟩, fun b hb => ?_, fun i v hv => ?_, fun i h st => let ⟨o, ho, hc, _⟩ := st.1; ⟨o, ho, _, hc, by decide⟩⟩
    · have := Walks.list (prog := prog) (w := w) hA s.heap.objs.size l (live ho) vs.toArray
      have e : vs.toArray.size = ds.length := by simp [rl.length]
      rw [e] at this
      exact this
    · rcases List.mem_cons.mp hb with rfl | hb
      · exact .inl rfl
      · rw [List.mem_singleton.mp hb]; exact .inr ⟨.inl hn, o, ho⟩
    · obtain ⟨d, hd, rd⟩ := rl.get (i := i) (v := v) (by simpa using hv)
      exact ⟨d, hd, Rep.mono (fz_mono hk) rd⟩
  · -- tuple
    obtain ⟨l, vs, rfl, q, rl⟩ := r
    first | with_reducible exact ns e | cases e
    obtain ⟨hl, hn⟩ := tuple_of (SeqAt.mono q (fz_mono hk))
    have hl' := hl
    obtain ⟨o, ho, -⟩ := hl'
    refine wpAny_pyIter_tuple hl ?_
    refine hq _ _ (Kp.push _ _) ⟨[s.heap.objs.size, l], (fun i v => vs.toArray[i]? = some v), (fun i h => h.IsTupleIter s.heap.objs.size l i ∧ h.IsTuple l vs.toArray), fun A hA => ?_, ⟨⟨_, Heap.get?_push_size _ rfl, rfl, rfl⟩, hl.at fun o e => Heap.get?_push_of_some _ e⟩, size_none _, ⟨_, Heap.get?_push_size _ rfl⟩, fun b hb => ?_, fun i v hv => ?_, fun i h st => let ⟨o, ho, hc, _⟩ := st.1; ⟨o, ho, _, hc, by decide⟩⟩
    · have := Walks.tuple (prog := prog) (w := w) hA s.heap.objs.size l (live ho) vs.toArray
      have e : vs.toArray.size = ds.length := by simp [rl.length]
      rw [e] at this
      exact this
    · rcases List.mem_cons.mp hb with rfl | hb
      · exact .inl rfl
      · rw [List.mem_singleton.mp hb]; exact .inr ⟨.inl hn, o, ho⟩
    · obtain ⟨d, hd, rd⟩ := rl.get (i := i) (v := v) (by simpa using hv)
      exact ⟨d, hd, Rep.mono (fz_mono hk) rd⟩
  · -- range
    obtain ⟨r, t, u, x, rfl, g⟩ := r
    rename_i a b c
    obtain ⟨hc, e⟩ := ite_inv e
    · cases e
      have g' : IsRange s.heap r a b c t u x := hk _ _ (fz_some.mp g).2
      obtain ⟨c1, c2, c3, c4, c5, c6⟩ := hc
      have hsize : 0 ≤ Builtin.Range.rangeSize a b c ∧ Builtin.Range.rangeSize a b c ≤ 2000001 := by
        unfold Builtin.Range.rangeSize
        rw [if_pos (by (first | lia | omega))]
        split
        · have h1 : 0 ≤ (b - a - 1) / c := Int.ediv_nonneg (by (first | lia | omega)) (by (first | lia | omega))
          have h2 : (b - a - 1) / c ≤ b - a - 1 := Int.ediv_le_self _ (by (first | lia | omega))
          (first | lia | omega)
        · (first | lia | omega)
      have hsmall : Builtin.Range.small a b c = true := by
        unfold Builtin.Range.small Builtin.Range.rangeFitsLong
        rw [if_pos (by (first | lia | omega))]
        simp only [Bool.and_eq_true, Bool.or_eq_true, decide_eq_true_eq]
        refine ⟨⟨⟨⟨?_, ?_⟩, ?_⟩, ?_⟩, .inr ?_⟩ <;> constructor <;> (first | lia | omega)
      refine wpAny_pyIter_range g' hsmall ?_
      refine hq _ _ (Kp.push _ _) ⟨[s.heap.objs.size], (fun i v => i < (Builtin.Range.rangeSize a b c).toNat ∧ ∃ t, v = .int (a + i * c) t), (fun i h => IsRangeIter h s.heap.objs.size (a + (i : Nat) * c) (((Builtin.Range.rangeSize a b c).toNat : Int) - (i : Nat)) c), fun A hA => ?_, ?_, size_none _, ⟨_, Heap.get?_push_size _ rfl⟩, fun b hb => .inl (by simpa using hb), fun i v hv => ?_, fun i h st => ⟨_, st, _, rfl, by decide⟩⟩
      · have := (Walks.range (prog := prog) (w := w) hA s.heap.objs.size a c (Builtin.Range.rangeSize a b c).toNat).bound
        have e : (rangeL a c (Builtin.Range.rangeSize a b c).toNat).length = (Builtin.Range.rangeSize a b c).toNat := by simp [rangeL]
        rw [e]; exact this
      · show IsRangeIter _ _ _ _ _
        have e : (((Builtin.Range.rangeSize a b c).toNat : Nat) : Int) - ((0 : Nat) : Int) = Builtin.Range.rangeSize a b c := by (first | lia | omega)
        rw [e]
        simpa using Heap.get?_push_size _ rfl
      · obtain ⟨hi, t, rfl⟩ := hv
        refine ⟨.int (a + (i : Int) * c), ?_, ⟨t, rfl⟩⟩
        simp [rangeL, hi]

theorem iter_own {a : Addr} {vs : List Value} {ds : List D} (m : h.IsList a vs.toArray) (rl : RepL (fz h W) ds vs) {A : Around} {s : Shared} {Q : Value → Shared → Prop} {E : Value → Shared → Prop} (hk : Kp h s.heap)
    (hq : ∀ I h', Kp s.heap h' → Itr prog w W [a] s.heap ds I h' → Q (.ref I) { s with heap := h' }) : wpAny (model prog w) A (pyIter (.ref a)) Q E s := by
  have hl : s.heap.IsList a vs.toArray := let ⟨o, e, r⟩ := m; ⟨o, hk _ _ e, r⟩
  have hl' := hl
  obtain ⟨o, ho, -⟩ := hl'
  have live : a ≠ s.heap.objs.size := Nat.ne_of_lt (Heap.lt_size ho)
  refine wpAny_pyIter_list hl ?_
  refine hq _ _ (Kp.push _ _) ⟨[s.heap.objs.size, a], (fun i v => vs.toArray[i]? = some v), (fun i h => h.IsListIter s.heap.objs.size a i ∧ h.IsList a vs.toArray), fun A hA => ?_, ⟨⟨_, Heap.get?_push_size _ rfl, rfl, rfl⟩, hl.push _⟩, size_none _, ⟨_, Heap.get?_push_size _ rfl⟩, fun b hb => ?_, fun i v hv => ?_, fun i h st => let ⟨o, ho, hc, _⟩ := st.1; ⟨o, ho, _, hc, by decide⟩⟩
  · have := Walks.list (prog := prog) (w := w) hA s.heap.objs.size a live vs.toArray
    have e : vs.toArray.size = ds.length := by simp [rl.length]
    rw [e] at this
    exact this
  · rcases List.mem_cons.mp hb with rfl | hb
    · exact .inl rfl
    · rw [List.mem_singleton.mp hb]; exact .inr ⟨.inr (List.mem_singleton.mpr rfl), o, ho⟩
  · obtain ⟨d, hd, rd⟩ := rl.get (i := i) (v := v) (by simpa using hv)
    exact ⟨d, hd, Rep.mono (fz_mono hk) rd⟩

end
end
section
set_option maxRecDepth 100000
section
variable {prog : Program} {w : World} {A : Around} {E : Value → Shared → Prop} {s : Shared}
theorem tn_item {it t : Addr} {i : Nat} {items : Array Value} {x : Value} {Q : Value → Shared → Prop} (hit : s.heap.IsTupleIter it t i) (ht : s.heap.IsTuple t items) (hx : items[i]? = some x)
    (hQ : ∀ h', h'.IsTupleIter it t (i + 1) → Heap.SameBut it s.heap h' → Q x { s with heap := h' }) : wpAny (model prog w) A (Builtin.SmallTypes.nextOf (.ref it)) Q E s := by
  obtain ⟨o, ho, hc, hd⟩ := id hit
  obtain ⟨ol, hol, _, nl, hdl⟩ := ht
  unfold Builtin.SmallTypes.nextOf
  refine wpAny_bind (wpAny_callSpecial?_slot (name := Str.ofString "__next__") hit.typeIs F.slot_tuple_iterator_next
    (wpAny_call_entry F.slot_tuple_iterator_next hit.typeIs F.entry_tuple_iterator_next ?_ (F.args_tuple_iterator_next_1 _)))
  show wpAny _ _ (field (.ref it) 0 >>= _) _ _ s
  refine wpAny_bind (wpAny_field ho hd (x := .ref t) rfl ?_)
  show wpAny _ _ (if (Value.ref t == Value.none) = true then _ else _) _ _ s
  rw [if_neg (show ¬ ((Value.ref t == Value.none) = true) from Bool.false_ne_true)]
  show wpAny _ _ (field (.ref it) 1 >>= _) _ _ s
  refine wpAny_bind (wpAny_field ho hd (x := .int i 0) rfl ?_)
  show wpAny _ _ (seqItems? (.ref t) >>= _) _ _ s
  refine wpAny_bind (wpAny_seqItems hol hdl ?_)
  simp only [Int.toNat_natCast, hx]
  refine wpAny_bind (wpAny_setField ho hd (by (first | exact List.mem_cons_self | exact List.mem_cons_of_mem _ List.mem_cons_self | decide | simp)) (wpAny_pure ⟨x, rfl, wpAny_pure (hQ _ ?_ (Heap.SameBut.update ..))⟩))
  exact ⟨_, Heap.get?_update_self _ ho (Obj.isFreed_of_fields (Obj.data_mapFields hd _)), (Obj.cls_mapFields ..).trans hc, by
    rw [Obj.data_mapFields hd]; simp [rawInt]⟩
theorem tn_end {it t : Addr} {i : Nat} {items : Array Value} {Q : Value → Shared → Prop} (hh : A.handled = none) (hit : s.heap.IsTupleIter it t i) (ht : s.heap.IsTuple t items) (hx : items[i]? = none)
    (hE : ∀ h' e, Heap.ExtBut it s.heap h' → (∃ o, h'.get? e = some o ∧ o.cls = .type "StopIteration") → E (.ref e) { s with heap := h' }) : wpAny (model prog w) A (Builtin.SmallTypes.nextOf (.ref it)) Q E s := by
  obtain ⟨o, ho, hc, hd⟩ := id hit
  obtain ⟨ol, hol, _, nl, hdl⟩ := ht
  unfold Builtin.SmallTypes.nextOf
  refine wpAny_bind (wpAny_callSpecial?_slot (name := Str.ofString "__next__") hit.typeIs F.slot_tuple_iterator_next
    (wpAny_call_entry F.slot_tuple_iterator_next hit.typeIs F.entry_tuple_iterator_next ?_ (F.args_tuple_iterator_next_1 _)))
  show wpAny _ _ (field (.ref it) 0 >>= _) _ _ s
  refine wpAny_bind (wpAny_field ho hd (x := .ref t) rfl ?_)
  show wpAny _ _ (if (Value.ref t == Value.none) = true then _ else _) _ _ s
  rw [if_neg (show ¬ ((Value.ref t == Value.none) = true) from Bool.false_ne_true)]
  show wpAny _ _ (field (.ref it) 1 >>= _) _ _ s
  refine wpAny_bind (wpAny_field ho hd (x := .int i 0) rfl ?_)
  show wpAny _ _ (seqItems? (.ref t) >>= _) _ _ s
  refine wpAny_bind (wpAny_seqItems hol hdl ?_)
  simp only [Int.toNat_natCast, hx]
  refine wpAny_bind (wpAny_rule (wpAny_bind (wpAny_setField ho hd (by (first | exact List.mem_cons_self | exact List.mem_cons_of_mem _ List.mem_cons_self | decide | simp)) ?_)))
  show wpAny _ _ (newExc (.type "StopIteration") [] >>= _) _ _ _
  refine wpAny_bind ?_
  simp only [newExc, newTuple]
  refine wpAny_bind (wpAny_newObj_type ?_ (by size_fits))
  refine wpAny_bind (m := firstArgMember _ _) (wpAny_of_eq (a := Value.none) (by first | rfl | (simp only [firstArgMember]; rfl)) ?_)
  refine wpAny_newObj_type ?_ (by size_fits)
  unfold raiseNew
  refine wpAny_bind (wpAny_handled ?_)
  first | rw [show A.in1.handled = none from hh] | rw [hh]
  refine wpAny_bind (wpAny_pure (wpAny_throw ?_))
  exact hE _ _ (((Heap.SameBut.update ..).extBut.push _).push _) ⟨_, Heap.get?_push_size _ rfl, rfl⟩
end
theorem dr_tuple {prog : Program} {w : World} {A : Around} (hh : A.handled = none) (it l : Addr) (hne : l ≠ it) (items : Array Value) :
    Draws prog w A it [it, l] items.size (fun i v => items[i]? = some v) (fun i h => h.IsTupleIter it l i ∧ h.IsTuple l items) where
  live := fun _ _ st => let ⟨o, ho, _⟩ := st.1; ⟨o, ho⟩
  frame := fun _ _ _ st hk => ⟨let ⟨o, ho, r⟩ := st.1; ⟨o, hk it (by (first | exact List.mem_cons_self | exact List.mem_cons_of_mem _ List.mem_cons_self | decide | simp)) o ho, r⟩, st.2.at fun o e => hk l (by (first | exact List.mem_cons_self | exact List.mem_cons_of_mem _ List.mem_cons_self | decide | simp)) o e⟩
  item := fun i s Q E hi st hQ => by
    refine tn_item st.1 st.2 (x := items[i]) (by simp [hi]) fun h' hit' hs' => ?_
    exact hQ _ h' s.toks (by simp [hi]) ⟨hit', st.2.extBut hs'.extBut hne⟩ hs'
  done := fun s Q E st hE => tn_end hh st.1 st.2 (by (first | exact List.mem_cons_self | exact List.mem_cons_of_mem _ List.mem_cons_self | decide | simp)) hE

theorem pure_all {M : Model} {A : Around} {α : Type} {x : α} {Q : α → Shared → Prop} {E : Value → Shared → Prop} {s : Shared} (h : ∀ b, Q b s) : wpAny M A (pure x) Q E s := wpAny_pure (h x)
theorem en_new (l : Addr) (items : Array Value) (n : Nat) (dct : Option Addr) (sl : Array (Option Value)) :
    Meets (Builtin.«enumerate.__new__» ⟨[.type "enumerate", .ref l], []⟩) (fun _ R s => s.heap.get? l = some { cls := .type "tuple", dict := dct, data := .seq items n, slots := sl } ∧
      R (.ok (.ret (.ref (s.heap.push { cls := .type "tuple_iterator", data := .fields #[.ref l, .int 0 0] }).objs.size)))
        { s with heap := (s.heap.push { cls := .type "tuple_iterator", data := .fields #[.ref l, .int 0 0] }).push { cls := .type "enumerate", data := .fields #[.none, .bool false, .ref s.heap.objs.size, rawInt 0, .none, .none] } }) :=
  .of_wp fun prog w A R s h => by
    obtain ⟨hp, g, d, tk, os⟩ := s; obtain ⟨hl, h⟩ := h
    have hsub := sub_enumerate
    have hL : Heap.IsTuple (Shared.heap ⟨hp, g, d, tk, os⟩) l items := ⟨_, hl, rfl, n, rfl⟩
    wp_walk using PySem.AutoSeq1.wpAny_loadPart' hl
    refine wpAny_stack_any fun st => pure_all fun b => ?_
    cases b
    · wp_walk using PySem.AutoSeq1.wpAny_loadPart' hl, wpAny_pyIter_tuple hL
      exact ⟨_, rfl, h⟩
    · wp_walk using PySem.AutoSeq1.wpAny_loadPart' hl, wpAny_pyIter_tuple hL
      exact ⟨_, rfl, h⟩
section
variable {prog : Program} {w : World} {A : Around} {E : Value → Shared → Prop} {s : Shared}
theorem call_en {l : Addr} {items : Array Value} {Q : Value → Shared → Prop} (hL : s.heap.IsTuple l items)
    (h : ∀ h', IsEnum h' (s.heap.objs.size + 1) s.heap.objs.size 0 .none → h'.IsTupleIter s.heap.objs.size l 0 → h'.objs.size = s.heap.objs.size + 2 → Kp s.heap h' → Q (.ref (s.heap.objs.size + 1)) { s with heap := h' }) :
    wpAny (model prog w) A (call (.type "enumerate") [.ref l]) Q E s := by
  obtain ⟨⟨c, dct, dt, sl⟩, hl, hc, n, hd⟩ := hL
  replace hc : c = .type "tuple" := hc
  replace hd : dt = .seq items n := hd
  subst hc hd
  refine callType_new F.called_enumerate (by decide) (F.typeCall_enumerate_1 _) (F.newCall_enumerate_1 _) (fun obj => F.args_object_init_2 obj _) F.entry_enumerate_new
    (en_new l items n dct sl) ⟨hl, ?_⟩
  have hz : (s.heap.push { cls := .type "tuple_iterator", data := .fields #[.ref l, .int 0 0] }).objs.size = s.heap.objs.size + 1 := Heap.size_push ..
  show _ ∧ _
  rw [hz]
  have he : IsEnum ((s.heap.push { cls := .type "tuple_iterator", data := .fields #[.ref l, .int 0 0] }).push
      { cls := .type "enumerate", data := .fields #[.none, .bool false, .ref s.heap.objs.size, rawInt 0, .none, .none] }) (s.heap.objs.size + 1) s.heap.objs.size 0 .none := by
    have := Heap.get?_push_size (s.heap.push { cls := .type "tuple_iterator", data := .fields #[.ref l, .int 0 0] })
      (o := { cls := .type "enumerate", data := .fields #[.none, .bool false, .ref s.heap.objs.size, rawInt 0, .none, .none] }) rfl
    rw [hz] at this; exact this
  refine ⟨⟨_, he, rfl⟩, h _ he ⟨_, Heap.get?_push_of_some _ (Heap.get?_push_size _ rfl), rfl, rfl⟩ (by rw [Heap.size_push, hz]) fun b o x => Heap.get?_push_of_some _ (Heap.get?_push_of_some _ x)⟩
end
end
section
set_option maxRecDepth 100000
noncomputable def gtP (p q : Int × Bool) : Bool := if p.1 = q.1 then p.2 && !q.2 else decide (p.1 > q.1)
theorem eqB_bool {prog : Program} {w : World} {A : Around} {E : Value → Shared → Prop} {s : Shared} {a b : Bool} {Q : Bool → Shared → Prop} (h : Q (a == b) s) : wpAny (model prog w) A (eqBool (.bool a) (.bool b)) Q E s := PySem.SeqAt.EqAt.bool_bool a b prog w E Q h
theorem gtI {prog : Program} {w : World} {A : Around} {E : Value → Shared → Prop} {s : Shared} {i j : Int} {t u : Tok} {Q : Value → Shared → Prop} (h : Q (.bool (decide (i > j))) s) : wpAny (model prog w) A (richCompare .Gt (.int i t) (.int j u)) Q E s :=
  richCompare_gives (op := .Gt) (typeIs_int s _ t) (typeIs_int s _ u) F.slot_int_gt F.entry_int_gt (F.args_int_gt_2 _ _) (gives_int_gt _ _ t u) (fun x => nomatch x) h
theorem gtB {prog : Program} {w : World} {A : Around} {E : Value → Shared → Prop} {s : Shared} {a b : Bool} {Q : Value → Shared → Prop} (h : Q (.bool (a && !b)) s) : wpAny (model prog w) A (richCompare .Gt (.bool a) (.bool b)) Q E s := by
  have e : (a && !b) = decide ((if a = true then (1 : Int) else 0) > (if b = true then (1 : Int) else 0)) := by cases a <;> cases b <;> rfl
  rw [e] at h
  exact richCompare_gives (op := .Gt) (T := "bool") (by rfl) (by rfl) F.slot_bool_gt F.entry_int_gt (F.args_int_gt_2 _ _) (gives_int_gt_bools a b) (fun x => nomatch x) h
set_option maxHeartbeats 2000000 in
theorem tuple_gt (l b : Addr) (n n2 : Nat) (dd dd2 : Option Addr) (sl sl2 : Array (Option Value)) (i j : Int) (t u : Tok) (x y : Bool) :
    Meets (Builtin.«tuple.__gt__» ⟨[.ref l, .ref b], []⟩)
      (fun A R s => s.heap.get? l = some { cls := .type "tuple", dict := dd, data := .seq #[.int i t, .bool x] n, slots := sl } ∧ s.heap.get? b = some { cls := .type "tuple", dict := dd2, data := .seq #[.int j u, .bool y] n2, slots := sl2 } ∧
        R (.ok (.ret (.bool (gtP (i, x) (j, y))))) s) :=
  .of_wp fun prog w A R s h => by
    obtain ⟨hp, g, d, tk, os⟩ := s; obtain ⟨hl, hb, h⟩ := h
    have f2 := AutoSeq1.sub_tuple_tuple
    wp_walk using wpAny_loadPart' hl, wpAny_loadPart' hb, wpAny_eqBool_int ?_, eqB_bool ?_
    cases h1 : (i == j)
    · have e : gtP (i, x) (j, y) = decide (i > j) := if_neg (by simpa using h1)
      rw [e] at h
      wp_walk using wpAny_eqBool_int ?_, eqB_bool ?_, gtI ?_
      exact ⟨_, rfl, h⟩
    · have e : gtP (i, x) (j, y) = (x && !y) := if_pos (by simpa using h1)
      rw [e] at h
      wp_walk using wpAny_eqBool_int ?_, eqB_bool ?_, gtI ?_
      cases x <;> cases y
      all_goals
        wp_walk using wpAny_eqBool_int ?_, eqB_bool ?_, gtB ?_
        exact ⟨_, rfl, h⟩
section
variable {prog : Program} {w : World} {A : Around} {R : Result → Shared → Prop} {I : Addr} {fp : List Addr} {n : Nat} {P : Nat → Value → Prop} {St : Nat → Heap → Prop} {h0 : Heap}
noncomputable def CmpIn (prog : Program) (w : World) (A : Around) (h0 : Heap) (P : Nat → Value → Prop) (bt : Nat → Nat → Bool) : Prop :=
  ∀ i j vi vj (s : Shared) (Q : Value → Shared → Prop) (E : Value → Shared → Prop), Kp h0 s.heap → P i vi → P j vj → Q (.bool (bt i j)) s → wpAny (model prog w) A (richCompare .Gt vi vj) Q E s
theorem max_go (W : Walks prog w A.in1 I fp [I] n P St) (bt : Nat → Nat → Bool) (hcmp : CmpIn prog w A.in1 h0 P bt) (S : Addr) (hSf : S ∉ fp) (i0 : h0.get? I = none) (s0 : h0.get? S = none) :
    ∀ (k j : Nat) (s : Shared) (vb : Value) (c : Nat), n - (j + 1) = k → j + 1 ≤ n → Kp h0 s.heap → St (j + 1) s.heap → P (argBest bt j) vb →
    s.heap.get? S = some { cls := .type "list", dict := none, data := .seq #[vb, vb] c, slots := #[] } →
    (∀ v h' tk, P (argBest bt (n - 1)) v → Kp h0 h' → (∀ b o, b ≠ I → b ≠ S → s.heap.get? b = some o → h'.get? b = some o) → R (.ok (.ret v)) { s with heap := h', toks := tk }) →
    codeAny (model prog w) A (.builtin "max.loop" ⟨[.ref I, .none, .ref S], []⟩) R s := by
  have SI : S ≠ I := fun q => hSf (W.sub _ (by rw [q]; exact List.mem_singleton.mpr rfl))
  have hname : (toString "max" ++ toString ".loop" : String) = "max.loop" := by decide
  have kI : ∀ {a b : Heap}, Kp h0 a → (∀ x o, x ∉ [I] → a.get? x = some o → b.get? x = some o) → Kp h0 b := fun ka kk x o e => kk x o (fun m => by rw [List.mem_singleton.mp m, i0] at e; cases e) (ka x o e)
  have kS : ∀ {a b : Heap}, Kp h0 a → (∀ x o, x ≠ S → a.get? x = some o → b.get? x = some o) → Kp h0 b := fun ka kk x o e => kk x o (fun q => by rw [q, s0] at e; cases e) (ka x o e)
  intro k
  induction k with
  | zero =>
    intro j s vb c hk hj hkp hst hPb hS hR
    have hin : j + 1 = n := Nat.le_antisymm hj (Nat.le_of_sub_eq_zero hk)
    refine codeAny_builtin F.entry_max_loop ?_
    rw [Around.under_plainId F.plain_max_loop _]
    refine wpAny_bind (wpAny_seqItems hS rfl ?_)
    refine wpAny_bind (wpAny_tryCatch (W.done s _ _ (hin ▸ hst) fun h' tk hk' => ?_))
    have hS' := hk' S _ (by simpa using SI) hS
    refine wpAny_bind (wpAny_updateSeq hS' rfl (wpAny_bind (wpAny_letGo (wpAny_pure ?_))))
    have hu : ∀ {f : Obj → Obj} x o, x ≠ S → h'.get? x = some o → (h'.update S f).get? x = some o := fun x o q e => (Heap.get?_update_other _ _ (Ne.symm q)).trans e
    exact hR vb _ tk (by rw [← hin]; exact hPb) (kS (kI hkp hk') hu) fun b o hb hbS e => hu b o hbS (hk' b o (by simpa using hb) e)
  | succ k ih =>
    intro j s vb c hk hj hkp hst hPb hS hR
    have hlt : j + 1 < n := Nat.lt_of_sub_eq_succ hk
    refine codeAny_builtin F.entry_max_loop ?_
    rw [Around.under_plainId F.plain_max_loop _]
    refine wpAny_bind (wpAny_seqItems hS rfl ?_)
    refine wpAny_bind (wpAny_tryCatch (W.item (j + 1) s _ _ hlt hst fun v h' tk hP hst' hk' => ?_))
    have hS' := hk' S _ (by simpa using SI) hS
    have k1 := kI hkp hk'
    show wpAny _ A.in1 (tryCatch (holding [v, v] (richCompare .Gt v vb >>= _)) _ >>= _) _ _ _
    refine wpAny_bind (wpAny_tryCatch (wpAny_holding (wpAny_bind (hcmp (j + 1) (argBest bt j) v vb _ _ _ k1 hP hPb ?_))))
    refine wpAny_bind (wpAny_holding (wpAny_truthy_bool (wpAny_bind (wpAny_letGo (wpAny_pure ?_)))))
    cases hb : bt (j + 1) (argBest bt j) with
    | true =>
      simp only [if_true]
      refine wpAny_bind (wpAny_updateSeq hS' rfl (wpAny_bind (wpAny_letGo ?_)))
      rw [hname]
      have hu : ∀ {f : Obj → Obj} x o, x ≠ S → h'.get? x = some o → (h'.update S f).get? x = some o := fun x o q e => (Heap.get?_update_other _ _ (Ne.symm q)).trans e
      refine wpAny_pure ⟨plainId_quiet F.plain_max_loop _, ih (j + 1) _ v _ (show n - (j + 1) - 1 = k by rw [hk]; rfl) hlt (kS k1 hu) (W.frame _ _ _ hst' fun b hbf o e => ?_) (by simp only [argBest, hb, if_true]; exact hP) (Heap.get?_update_self _ hS' rfl) fun v' h'' tk'' hP' k2 hk'' => ?_⟩
      · exact hu b o (fun q => hSf (q ▸ hbf)) e
      · exact hR v' h'' tk'' hP' k2 fun b o q1 q2 e => hk'' b o q1 q2 (hu b o q2 (hk' b o (by simpa using q1) e))
    | false =>
      simp only [Bool.false_eq_true, if_false]
      refine wpAny_bind (wpAny_letGo ?_)
      rw [hname]
      refine wpAny_pure ⟨plainId_quiet F.plain_max_loop _, ih (j + 1) _ vb c (show n - (j + 1) - 1 = k by rw [hk]; rfl) hlt k1 hst' (by simp only [argBest, hb, Bool.false_eq_true, if_false]; exact hPb) hS' fun v' h'' tk'' hP' k2 hk'' => ?_⟩
      exact hR v' h'' tk'' hP' k2 fun b o q1 q2 e => hk'' b o q1 q2 (hk' b o (by simpa using q1) e)
theorem max_first (W : Walks prog w A.in1 I fp [I] n P St) (bt : Nat → Nat → Bool) (hcmp : CmpIn prog w A.in1 h0 P bt) (S : Addr) (hSf : S ∉ fp) (i0 : h0.get? I = none) (s0 : h0.get? S = none) (hn : 0 < n) {s : Shared} {c : Nat} (hkp : Kp h0 s.heap) (hst : St 0 s.heap)
    (hS : s.heap.get? S = some { cls := .type "list", dict := none, data := .seq #[] c, slots := #[] })
    (hR : ∀ v h' tk, P (argBest bt (n - 1)) v → Kp h0 h' → R (.ok (.ret v)) { s with heap := h', toks := tk }) :
    codeAny (model prog w) A (.builtin "max.loop" ⟨[.ref I, .none, .ref S], []⟩) R s := by
  have SI : S ≠ I := fun q => hSf (W.sub _ (by rw [q]; exact List.mem_singleton.mpr rfl))
  have hname : (toString "max" ++ toString ".loop" : String) = "max.loop" := by decide
  refine codeAny_builtin F.entry_max_loop ?_
  rw [Around.under_plainId F.plain_max_loop _]
  refine wpAny_bind (wpAny_seqItems hS rfl ?_)
  refine wpAny_bind (wpAny_tryCatch (W.item 0 s _ _ hn hst fun v h' tk hP hst' hk' => ?_))
  have hS' := hk' S _ (by simpa using SI) hS
  show wpAny _ A.in1 (updateSeq S (fun _ => #[v, v]) >>= _) _ _ _
  refine wpAny_bind (wpAny_updateSeq hS' rfl ?_)
  rw [hname]
  have hu : ∀ {f : Obj → Obj} x o, x ≠ S → h'.get? x = some o → (h'.update S f).get? x = some o := fun x o q e => (Heap.get?_update_other _ _ (Ne.symm q)).trans e
  refine wpAny_pure ⟨plainId_quiet F.plain_max_loop _, max_go W bt hcmp S hSf i0 s0 _ 0 _ v _ rfl hn (fun x o e => hu x o (fun q => by rw [q, s0] at e; cases e) (hk' x o (fun m => by rw [List.mem_singleton.mp m, i0] at e; cases e) (hkp x o e))) (W.frame _ _ _ hst' fun b hbf o e => hu b o (fun q => hSf (q ▸ hbf)) e) hP (Heap.get?_update_self _ hS' rfl) fun v' h'' tk'' hP' k2 _ => ?_⟩
  exact hR v' h'' tk'' hP' k2
end
noncomputable def asTup : D → Option (List D)
  | .tuple l => some l
  | _ => none
theorem asTup_inv {d : D} {l : List D} (h : asTup d = some l) : d = .tuple l := by cases d <;> first | exact ns h | (cases h; rfl)
noncomputable def asBool : D → Option Bool
  | .bool b => some b
  | _ => none
theorem asBool_inv {d : D} {b : Bool} (h : asBool d = some b) : d = .bool b := by cases d <;> first | exact ns h | (cases h; rfl)
noncomputable def pr2 : List D → Option (D × D)
  | [a, b] => some (a, b)
  | _ => none
theorem pr2_inv {l : List D} {q : D × D} (h : pr2 l = some q) : l = [q.1, q.2] := by
  cases l with
  | nil => exact ns h
  | cons a l => cases l with
    | nil => exact ns h
    | cons b l => cases l with
      | nil => cases (show some (a, b) = some q from h); rfl
      | cons _ _ => exact ns h
noncomputable def asPair (d : D) : Option (Int × Bool) := (asTup d).bind fun l => (pr2 l).bind fun q => (asInt q.1).bind fun i => (asBool q.2).bind fun x => some (i, x)
noncomputable def pairsD : List D → Option (List (Int × Bool))
  | [] => some []
  | d :: ds => (asPair d).bind fun x => (pairsD ds).map (x :: ·)
noncomputable abbrev pairT (p : Int × Bool) : D := .tuple [.int p.1, .bool p.2]
theorem asPair_inv {d : D} {p : Int × Bool} (h : asPair d = some p) : d = pairT p := by
  obtain ⟨l, hl, h⟩ := bind_inv h
  obtain ⟨q, hq, h⟩ := bind_inv h
  obtain ⟨i, hi, h⟩ := bind_inv h
  obtain ⟨x, hx, h⟩ := bind_inv h
  cases h
  rw [asTup_inv hl, pr2_inv hq, asInt_inv hi, asBool_inv hx]
theorem pairs_get : ∀ {ds : List D} {ps : List (Int × Bool)} {i : Nat} {d : D}, pairsD ds = some ps → ds[i]? = some d → d = pairT (ps.getD i (0, false))
  | [], _, i, d, _, e => by simp at e
  | d0 :: ds, ps, i, d, h, e => by
    obtain ⟨x, hx, h⟩ := bind_inv h
    obtain ⟨ys, hy, rfl⟩ := Option.map_eq_some_iff.mp h
    cases i with
    | zero => cases e; exact asPair_inv hx
    | succ i => exact pairs_get (ds := ds) (ps := ys) (i := i) hy e
theorem pairs_len : ∀ {ds : List D} {ps : List (Int × Bool)}, pairsD ds = some ps → ds.length = ps.length
  | [], _, h => by cases h; rfl
  | d0 :: ds, ps, h => by
    obtain ⟨x, hx, h⟩ := bind_inv h
    obtain ⟨ys, hy, rfl⟩ := Option.map_eq_some_iff.mp h
    exact congrArg (· + 1) (pairs_len hy)
noncomputable def maxP (ps : List (Int × Bool)) : Int × Bool := ps.getD (argBest (fun i j => gtP (ps.getD i (0, false)) (ps.getD j (0, false))) (ps.length - 1)) (0, false)
section
variable {prog : Program} {w : World} {n : Nat} {W : List Addr} {h : Heap}
theorem f_maxP (h1n : 1 ≤ n) {ds : List D} {ps : List (Int × Bool)} {v : Value} (r : Rep (fz h W) (.list ds) v) (hx : pairsD ds = some ps) (hn : 0 < ps.length) : Gv prog w n W (call (.builtin "max") [v]) (pairT (maxP ps)) h := by
  intro A s Q E hk am hq
  have hname : (toString "max" ++ toString ".loop" : String) = "max.loop" := by decide
  refine call_function_tree F.kind_max F.plain_max F.entry_max (F.args_max1 _) ?_
  refine wpAny_bind (wpAny_of_eq (show Builtin.Builtins.bindParams "max" ["key", "default"] 0 ⟨[], []⟩ = pure [none, none] from rfl) ?_)
  refine wpAny_bind (wpAny_pure (wpAny_bind (iter_ok r rfl hk fun I h1 k1 it => ?_)))
  obtain ⟨fp, P, St, wk, hst, hI, hI2, hfp, hP, hlive⟩ := it
  have hfp' : ∀ b ∈ fp, b < h1.objs.size := fun b hb => by
    rcases hfp b hb with rfl | ⟨_, o, e⟩
    · obtain ⟨o, e⟩ := hI2; exact Heap.lt_size e
    · exact Heap.lt_size (k1 _ _ e)
  have hSf : h1.objs.size ∉ fp := fun m => Nat.lt_irrefl _ (hfp' _ m)
  have s0 : s.heap.get? h1.objs.size = none := by
    cases e : s.heap.get? h1.objs.size with
    | none => rfl
    | some o => have := k1 _ _ e; rw [size_none] at this; cases this
  have hP' : ∀ i v, P i v → Rep (fz s.heap W) (pairT (ps.getD i (0, false))) v := fun i v hv => by
    obtain ⟨d, hd, rd⟩ := hP i v hv
    rw [← pairs_get hx hd]; exact rd
  refine wpAny_bind (wpAny_newObj_type ?_)
  rw [hname]
  have wk' := wk A.in1 am.hd
  rw [pairs_len hx] at wk'
  refine wpAny_pure ⟨plainId_quiet F.plain_max_loop _, max_first (h0 := s.heap) wk' (fun i j => gtP (ps.getD i (0, false)) (ps.getD j (0, false))) (fun i j vi vj s2 Q2 E2 k2 hi hj hq2 => ?_) h1.objs.size hSf hI s0 hn (k1.trans (Kp.push _ _)) (wk'.frame _ _ _ hst fun b _ o e => Heap.get?_push_of_some _ e) (Heap.get?_push_size _ rfl) fun v h' tk hP k2 => ?_⟩
  · obtain ⟨a, vs, rfl, ⟨⟨oc, od, oda, os⟩, nn, hg, hc, hd, _⟩, rl⟩ := hP' i vi hi
    obtain ⟨a', vs', rfl, ⟨⟨oc', od', oda', os'⟩, nn', hg', hc', hd', _⟩, rl'⟩ := hP' j vj hj
    obtain ⟨x1, _, rfl, ⟨t, rfl⟩, x2, _, rfl, r2, rfl⟩ := rl
    obtain ⟨y1, _, rfl, ⟨u, rfl⟩, y2, _, rfl, r2', rfl⟩ := rl'
    cases r2; cases r2'
    simp only at hc hd hc' hd'
    subst hc hd hc' hd'
    exact richCompare_meets_room (op := .Gt) ⟨_, k2 _ _ (fz_some.mp hg).2, rfl⟩ ⟨_, k2 _ _ (fz_some.mp hg').2, rfl⟩ F.slot_tuple_gt F.entry_tuple_gt (F.args_tuple_gt_2 _ _) (tuple_gt a a' nn nn' od od' os os' _ _ t u _ _)
      ⟨k2 _ _ (fz_some.mp hg).2, k2 _ _ (fz_some.mp hg').2, (fun x => nomatch x), hq2⟩ (by have := am.un; show A.units + 1 < cLine; (first | lia | omega))
  · exact hq v h' tk k2 (Rep.mono (fz_mono k2) (hP' _ v hP))
theorem list_nd {W : List Addr} {a : Addr} {vs : List Value} (q : SeqAt (fz h W) "list" a vs) : ∃ k sl, h.get? a = some { cls := .type "list", dict := Option.none, data := .seq vs.toArray k, slots := sl } := by
  obtain ⟨⟨oc, od, oda, os⟩, k, e, c, d, z⟩ := q
  have z2 : od = Option.none := z rfl
  clear z
  simp only at c d
  subst c d z2
  exact ⟨k, os, (fz_some.mp e).2⟩
theorem ints_val {g : Gh} : ∀ {ds : List D} {xs : List Int} {vs : List Value}, intsD ds = some xs → RepL g ds vs → ∀ y ∈ vs, ∃ i t, y = .int i t
  | [], _, vs, _, r, y, m => by cases r; cases m
  | d0 :: ds, xs, vs, h, r, y, m => by
    obtain ⟨x, ys, rfl, hy, rfl⟩ := intsD_inv h
    obtain ⟨v, vs', rfl, ⟨t, rfl⟩, r'⟩ := r
    rcases List.mem_cons.mp m with rfl | m
    · exact ⟨_, _, rfl⟩
    · exact ints_val (ds := ds) hy r' y m
theorem ints_at {g : Gh} : ∀ {ds : List D} {xs : List Int} {vs : List Value} (i : Nat) (hi : i < vs.length), intsD ds = some xs → RepL g ds vs → ∃ x t, xs[i]? = some x ∧ vs[i] = .int x t
  | [], _, vs, i, hi, _, r => by cases r; exact absurd hi (Nat.not_lt_zero _)
  | d0 :: ds, xs, vs, i, hi, h, r => by
    obtain ⟨x, ys, rfl, hy, rfl⟩ := intsD_inv h
    obtain ⟨v, vs', rfl, ⟨t, rfl⟩, r'⟩ := r
    cases i with
    | zero => exact ⟨x, t, rfl, rfl⟩
    | succ i =>
      obtain ⟨x', t', e1, e2⟩ := ints_at (ds := ds) i (by simpa using hi) hy r'
      exact ⟨x', t', by simpa using e1, by simpa using e2⟩
theorem ints_len : ∀ {ds : List D} {xs : List Int}, intsD ds = some xs → ds.length = xs.length
  | [], _, h => by cases h; rfl
  | d0 :: ds, xs, h => by
    obtain ⟨x, ys, rfl, hy, rfl⟩ := intsD_inv h
    exact congrArg (· + 1) (ints_len hy)
noncomputable def isI (k : Int) : Value → Bool
  | .int i _ => i == k
  | _ => false
theorem m_indexL {ds : List D} {xs : List Int} {v : Value} {k : Int} {t : Tok} {j : Nat} (hz : ds.length ≤ 1048576) (r : Rep (fz h W) (.list ds) v) (hx : intsD ds = some xs) (hj : xs.findIdx? (· == k) = some j) : Gv prog w n W (call (.builtin "list.index") [v, .int k t]) (.int (j : Int)) h := by
  obtain ⟨l, vs, rfl, q, rl⟩ := r
  rw [List.findIdx?_eq_some_iff_getElem] at hj
  obtain ⟨hlt, h1, h2⟩ := hj
  intro A s Q E hk am hq
  obtain ⟨⟨oc, od, oda, os⟩, nn, e, c, d, z⟩ := q
  simp only at c d
  subst c d
  have ho := hk _ _ (fz_some.mp e).2
  have hl := rl.length
  have hxl := ints_len hx
  refine call_meets PySem.F.slot_list_index ⟨_, ho, rfl⟩ PySem.F.entry_list_index (PySem.F.args_list_index_2 _ _)
    (PySem.SeqAt.list_indexAt l vs.toArray nn od os (.int k t) (isI k) j (by simp only [List.size_toArray]; (first | lia | omega)) (by omega) ?_ ?_) ⟨ho, fun y hy => ?_, hq _ s.heap _ (Kp.refl _) ⟨_, rfl⟩⟩
  · obtain ⟨x', t', e1, e2⟩ := ints_at j (by omega) hx rl
    rw [List.getElem?_eq_getElem hlt] at e1
    simp only [List.getElem_toArray, e2, isI]
    rw [← Option.some.inj e1]; exact h1
  · intro m hm hmj
    obtain ⟨x', t', e1, e2⟩ := ints_at m (by simpa using hm) hx rl
    rw [List.getElem?_eq_getElem (by omega)] at e1
    simp only [List.getElem_toArray, e2, isI]
    rw [← Option.some.inj e1]
    have := h2 m hmj
    simpa using this
  · obtain ⟨i, u, rfl⟩ := ints_val hx rl y (by simpa using hy)
    exact PySem.SeqAt.EqAt.int_int i u k t
end
end
section
noncomputable def okName (x : Str) : Bool := x != ("__debug__" : Str) && x != ("__classdict__" : Str)

structure Orc where
  glob : Str → Option D
  call : Value → List D → Option D
  attr : Value → Str → Option D := fun _ _ => none
  meth : Value → Str → List D → Option D := fun _ _ _ => none
  item : Value → D → Option D := fun _ _ => none
  has : Value → D → Option Bool := fun _ _ => none

inductive B where
  | val (d : D)
  | own (ds : List D)
noncomputable abbrev Vars := List (Str × B)

noncomputable def int2 (f : Int → Int → Option D) (a b : D) : Option D := (asInt a).bind fun i => (asInt b).bind fun j => f i j
theorem int2_inv {f : Int → Int → Option D} {a b d : D} (h : int2 f a b = some d) : ∃ i j, a = .int i ∧ b = .int j ∧ f i j = some d := by
  obtain ⟨i, hi, h⟩ := bind_inv h
  obtain ⟨j, hj, h⟩ := bind_inv h
  exact ⟨i, j, asInt_inv hi, asInt_inv hj, h⟩
noncomputable def addD (a b : D) : Option D := match a with
  | .int i => (asInt b).bind fun j => some (.int (i + j))
  | .str x => (asStr b).bind fun y => if x.length + y.length ≤ 1048576 then some (.str (x ++ y)) else none
  | .list ds => (asList b).bind fun es => if ds.length + es.length ≤ 1048576 then some (.list (ds ++ es)) else none
  | _ => none
noncomputable def mulD (a b : D) : Option D := (asInt b).bind fun j => match a with
  | .int i => if i.natAbs < 2 ^ 64 then some (.int (i * j)) else none
  | .list ds => if 0 ≤ j ∧ j ≤ 64 ∧ ds.length ≤ 1000 then some (.list (List.replicate j.toNat ds).flatten) else none
  | _ => none
noncomputable def binD (op : Operator) (a b : D) : Option D := match op with
  | .Add => addD a b
  | .Sub => int2 (fun i j => some (.int (i - j))) a b
  | .Mult => mulD a b
  | .FloorDiv => int2 (fun i j => if 0 < j ∧ j < 1073741824 then some (.int (i / j)) else none) a b
  | .Mod => int2 (fun i j => if 0 < j then some (.int (i % j)) else none) a b
  | .BitAnd => int2 (fun i j => some (.int (Builtin.bitAnd i j))) a b
  | .BitOr => int2 (fun i j => some (.int (Builtin.bitOr i j))) a b
  | .RShift => int2 (fun i j => if 0 ≤ j then some (.int (i / 2 ^ j.toNat)) else none) a b
  | .LShift => int2 (fun i j => if 0 ≤ j ∧ j ≤ 1000 ∧ i.natAbs < 2 ^ 64 then some (.int (i * 2 ^ j.toNat)) else none) a b
  | .Pow => int2 (fun i j => if 0 ≤ j ∧ j ≤ 1000 ∧ i.natAbs < 2 ^ 64 then some (.int (i ^ j.toNat)) else none) a b
  | _ => none

noncomputable def isT : Value → Value → Option Bool
  | .type a, .type b => some (a == b)
  | _, _ => none
noncomputable def isNone : D → Option Bool
  | .none => some true
  | .bool _ => some false
  | .str _ => some false
  | _ => none
noncomputable def asCst : D → Option Value
  | .cst v => some v
  | _ => none
theorem asCst_inv {d : D} {v : Value} (h : asCst d = some v) : d = .cst v := by cases d <;> first | exact ns h | (cases h; rfl)
noncomputable def isD (a b : D) : Option Bool := match b with
  | .none => isNone a
  | .bool c => (asBool a).bind fun b => some (b == c)
  | .cst y => (asCst a).bind fun x => isT x y
  | _ => none

noncomputable def cmp2 (f : Int → Int → Bool) (a b : D) : Option Bool := (asInt a).bind fun i => (asInt b).bind fun j => some (f i j)
theorem cmp2_inv {f : Int → Int → Bool} {a b : D} {c : Bool} (h : cmp2 f a b = some c) : ∃ i j, a = .int i ∧ b = .int j ∧ f i j = c := by
  obtain ⟨i, hi, h⟩ := bind_inv h
  obtain ⟨j, hj, h⟩ := bind_inv h
  exact ⟨i, j, asInt_inv hi, asInt_inv hj, by cases h; rfl⟩
noncomputable def neD (a b : D) : Option Bool := match a with
  | .int i => (asInt b).bind fun j => some (i != j)
  | .str x => (asStr b).bind fun y => some (x != y)
  | _ => none
noncomputable def inSeq (a b : D) : Option Bool := match b with
  | .list ds => anyD (fun e => eqD 3 e a) ds
  | .tuple ds => anyD (fun e => eqD 3 e a) ds
  | _ => none
noncomputable def inD (a b : D) : Option Bool := match b with
  | .str x => (asStr a).bind fun y => some (inL y x)
  | b => inSeq a b
noncomputable def cmpD (op : CmpOp) (a b : D) : Option Bool := match op with
  | .Eq => eqD 3 a b
  | .NotEq => neD a b
  | .Lt => cmp2 (fun i j => decide (i < j)) a b
  | .Gt => cmp2 (fun i j => decide (i > j)) a b
  | .LtE => cmp2 (fun i j => decide (i ≤ j)) a b
  | .GtE => cmp2 (fun i j => decide (i ≥ j)) a b
  | .In => inD a b
  | .NotIn => (inSeq a b).map (!·)
  | .Is => isD a b
  | .IsNot => (isD a b).map (!·)

noncomputable def truD : D → Option Bool
  | .none => some false
  | .bool b => some b
  | .int i => some (i != 0)
  | _ => none

noncomputable def seqI (d : D) (i : Int) : Option D := match d with
  | .list ds => if ds.length ≤ 1048576 then (ix i ds.length).bind fun j => ds[j]? else none
  | .tuple ds => if ds.length ≤ 1048576 then (ix i ds.length).bind fun j => ds[j]? else none
  | .str x => if x.length ≤ 1048576 then (ix i x.length).bind fun j => x[j]?.map fun c => .str [c] else none
  | .bytes x => if x.length ≤ 1048576 ∧ 0 ≤ i then x[i.toNat]?.map fun c => .int c.toNat else none
  | _ => none
noncomputable def itemD (d j : D) : Option D := (asInt j).bind fun i => seqI d i

noncomputable def cutD (d : D) (lo hi : Option Int) : Option D := match d with
  | .list ds => if ds.length ≤ 1048576 then some (.list (sliceD ds lo hi)) else none
  | .str x => if x.length ≤ 1048576 then some (.str (sliceD x lo hi)) else none
  | _ => none

noncomputable def one (f : D → Option D) : List D → Option D
  | [d] => f d
  | _ => none
noncomputable def two (f : D → D → Option D) : List D → Option D
  | [a, b] => f a b
  | _ => none
theorem one_inv {f : D → Option D} {ds : List D} {r : D} (h : one f ds = some r) : ∃ d, ds = [d] ∧ f d = some r := by
  cases ds with
  | nil => first | with_reducible exact ns h | cases h
  | cons d l => cases l with
    | nil => exact ⟨d, rfl, h⟩
    | cons _ _ => first | with_reducible exact ns h | cases h
theorem two_inv {f : D → D → Option D} {ds : List D} {r : D} (h : two f ds = some r) : ∃ a b, ds = [a, b] ∧ f a b = some r := by
  cases ds with
  | nil => first | with_reducible exact ns h | cases h
  | cons a l => cases l with
    | nil => first | with_reducible exact ns h | cases h
    | cons b l => cases l with
      | nil => exact ⟨a, b, rfl, h⟩
      | cons _ _ => first | with_reducible exact ns h | cases h
noncomputable def lenOf (d : D) : Option D := match d with
  | .list ds => if ds.length ≤ 1048576 then some (.int ds.length) else none
  | _ => none
noncomputable def minD : List D → Option D := two (int2 fun i j => some (.int (if j < i then j else i)))
theorem lk_nil {κ β : Type} [BEq κ] {a : κ} {P : Prop} {F : β} (h : List.lookup a ([] : List (κ × β)) = some F) : P := nomatch h
theorem lk_cons {κ β : Type} [BEq κ] [LawfulBEq κ] {a k : κ} {F G : β} {r : List (κ × β)} (h : ((k, F) :: r).lookup a = some G) : (a = k ∧ F = G) ∨ r.lookup a = some G := by
  rw [List.lookup_cons] at h
  cases e : a == k with
  | true => rw [e] at h; exact .inl ⟨beq_iff_eq.mp e, Option.some.inj h⟩
  | false => rw [e] at h; exact .inr h
noncomputable def maxD : List D → Option D := one fun d => (asList d).bind fun ds => (pairsD ds).bind fun ps => if 0 < ps.length then some (pairT (maxP ps)) else none
noncomputable def tabB : List (String × (List D → Option D)) := [
  ("len", one lenOf),
  ("max", maxD),
  ("min", minD),
  ("sum", one fun d => (asList d).bind fun ds => (intsD ds).bind fun xs => some (.int xs.sum)),
  ("chr", one fun d => (asInt d).bind fun i => if 0 ≤ i ∧ i ≤ 1114111 then some (.str [i.toNat]) else none)]
noncomputable def callB (b : String) (ds : List D) : Option D := (tabB.lookup b).bind fun F => F ds

noncomputable def tyD : D → Option String
  | .none => some "NoneType"
  | .bool _ => some "bool"
  | .int _ => some "int"
  | .str _ => some "str"
  | .bytes _ => some "bytes"
  | .list _ => some "list"
  | .tuple _ => some "tuple"
  | _ => none
noncomputable def rangeD (ds : List D) : Option D := match ds with
  | [a] => (asInt a).bind fun i => some (.range 0 i 1)
  | [a, b] => int2 (fun i j => some (.range i j 1)) a b
  | [a, b, c] => (asInt c).bind fun k => int2 (fun i j => if 0 < k ∧ k < 1000 then some (.range i j k) else none) a b
  | _ => none
noncomputable def tabT : List (String × (List D → Option D)) := [
  ("range", rangeD),
  ("list", one fun d => (asList d).bind fun ds => if ds.length ≤ 1048576 then some (.list ds) else none),
  ("bytes", one fun d => (asList d).bind fun ds => (if ds.length ≤ 1048576 then some ds else none).bind fun ds => (intsD ds).bind fun xs => if xs.all (fun i => decide (0 ≤ i ∧ i < 256)) = true then some (.bytes (xs.map fun i => i.toNat.toUInt8)) else none),
  ("type", one fun d => (tyD d).bind fun t => some (.cst (.type t)))]
noncomputable def callT (b : String) (ds : List D) : Option D := (tabT.lookup b).bind fun F => F ds
noncomputable def nul (x : Option D) : List D → Option D
  | [] => x
  | _ => none
theorem nul_inv {x : Option D} {ds : List D} {r : D} (h : nul x ds = some r) : ds = [] ∧ x = some r := by
  cases ds with
  | nil => exact ⟨rfl, h⟩
  | cons => exact ns h
noncomputable def sgl : List Nat → Option Nat
  | [c] => some c
  | _ => none
theorem sgl_inv {y : List Nat} {c : Nat} (h : sgl y = some c) : y = [c] := by
  cases y with
  | nil => exact ns h
  | cons a l => cases l with
    | nil => rw [Option.some.inj (show some a = some c from h)]
    | cons => exact ns h
noncomputable def tabM : List (Str × (List Nat → List D → Option D)) := [
  (Str.ofString "index", fun x => one fun d => (asStr d).bind fun y => (sgl y).bind fun c => (x.findIdx? fun k => k == c).bind fun (j : Nat) => some (.int j)),
  (Str.ofString "split", fun x => one fun d => (asStr d).bind fun y => (sgl y).bind fun c => if x.length ≤ 1048576 then some (.list ((splitC c x).map D.str)) else none),
  (Str.ofString "lower", fun x => nul (if x.length ≤ 1048576 ∧ x.all (fun c => decide (c < 128)) = true then some (.str (x.map lowC)) else none)),
  (Str.ofString "join", fun x => one fun d => (asList d).bind fun ds => (if x = [] then some ds else none).bind fun ds => (strsD ds).bind fun xs => if xs.flatten.length ≤ 1048576 then some (.str xs.flatten) else none)]
noncomputable def callS (name : Str) (d : D) (ds : List D) : Option D := (asStr d).bind fun x => (tabM.lookup name).bind fun F => F x ds
noncomputable def callL (name : Str) (l ds : List D) : Option D := if name = Str.ofString "index" then one (fun d => (asInt d).bind fun k => (if l.length ≤ 1048576 then intsD l else none).bind fun xs => (xs.findIdx? fun i => i == k).bind fun (j : Nat) => some (.int j)) ds else none
noncomputable def callM (name : Str) (d : D) (ds : List D) : Option D := (asList d).elim (callS name d ds) fun l => callL name l ds

noncomputable def cmpO (O : Orc) (op : CmpOp) (a b : D) : Option Bool := match b with
  | .cst v => (match op with
    | .In => O.has v a
    | .NotIn => (O.has v a).map (!·)
    | op => cmpD op a (.cst v))
  | b => cmpD op a b
noncomputable def itemO (O : Orc) (d j : D) : Option D := (asCst d).elim (itemD d j) fun v => O.item v j
noncomputable def methO (O : Orc) (name : Str) (d : D) (ds : List D) : Option D := (asCst d).elim (callM name d ds) fun v => O.meth v name ds
theorem cmpO_of {O : Orc} {op : CmpOp} {a b : D} {c : Bool} (h : cmpD op a b = some c) : cmpO O op a b = some c := by
  first | with_reducible exact ns b | cases b
  case cst v => cases op <;> first | exact h | exact ns h
  all_goals exact h
theorem itemO_of {O : Orc} {d j r : D} (h : itemD d j = some r) : itemO O d j = some r := by
  obtain ⟨i, hi, h'⟩ := bind_inv h
  cases d <;> first | exact h | exact ns h'
theorem methO_of {O : Orc} {name : Str} {d r : D} {ds : List D} (h : callM name d ds = some r) : methO O name d ds = some r := by
  cases d <;> first | exact h | exact ns h

noncomputable def applyD (O : Orc) : D → List D → Option D
  | .cst (.builtin b), ds => callB b ds
  | .cst (.type t), ds => callT t ds
  | .cst (.ref a), ds => O.call (.ref a) ds
  | _, _ => none

noncomputable def catD (f : D → Option (List D)) : List D → Option (List D)
  | [] => some []
  | d :: ds => (f d).bind fun a => (catD f ds).bind fun b => some (a ++ b)
noncomputable def allSome {α : Type} (f : α → Option D) : List α → Option (List D)
  | [] => some []
  | a :: as => (f a).bind fun d => (allSome f as).bind fun ds => some (d :: ds)
noncomputable def starred (e : Expr) : Bool := Nat.beq e.ctorIdx 22
noncomputable def notSuper : Expr → Bool
  | .Call (.Name x _) [] [] _ => !(x == ("super" : Str))
  | _ => true
noncomputable def nodupS : List Str → Bool
  | [] => true
  | x :: r => !(r.contains x) && nodupS r
noncomputable def scopeOk (sc : List (Str × NameKind)) (scope : Scope) : Bool :=
  scope.kind == .function && nodupS (scope.names.map (·.1)) && scope.names.all fun p => !(p.2 == .free) || (sc.lookup p.1 == some .cell || sc.lookup p.1 == some .free)
noncomputable def partO : D → Option (Option Int)
  | .int i => some (some i)
  | .none => some none
  | _ => none
noncomputable def partD (f : Expr → Option D) : Option Expr → Option (Option Int)
  | none => some none
  | some e => (f e).bind partO
noncomputable def isAttr (e : Expr) : Bool := Nat.beq e.ctorIdx 20
noncomputable def plainSrc (e : Expr) : Bool := !Nat.beq e.ctorIdx 7
noncomputable def peekB (o : Option B) (k : Option (List D)) : Option (List D) := match o with
  | some (.own ds) => some ds
  | _ => k
noncomputable def peekD (σ : Vars) (f : Expr → Option D) : Expr → Option (List D)
  | e@(.Name x _) => peekB (σ.lookup x) ((f e).bind iterD)
  | e => (f e).bind iterD
noncomputable def ifsD (f : Expr → Option Bool) : List Expr → Option Bool
  | [] => some true
  | e :: es => (f e).bind fun c => if c = true then ifsD f es else some false

noncomputable def allT (f : Expr → Option Bool) : BoolOp → List Expr → Option Bool
  | .And, [] => some true
  | .Or, [] => some false
  | .And, x :: r => (f x).bind fun c => if c = true then allT f .And r else some false
  | .Or, x :: r => (f x).bind fun c => if c = true then some true else allT f .Or r
noncomputable def oneD (fT : Expr → Option Bool) (fE : Expr → Option D) (fC : Comprehension → List Comprehension → List D → Option (List D)) (elt : Expr) (ifs : List Expr) (gs : List Comprehension) : Option (List D) :=
  (ifsD fT ifs).bind fun c => if c = true then (match gs with
    | [] => (fE elt).bind fun d => some [d]
    | _ => none) else some []

noncomputable def constE (c : Const) : Option D := match c with
  | .none => some .none
  | .bool b => some (.bool b)
  | .int i => some (.int i)
  | .str x => some (.str x.cps.toList)
  | _ => none
noncomputable def varD (b : Option B) : Option D := match b with
  | some (.val d) => some d
  | _ => none
noncomputable def nameE (O : Orc) (sc : List (Str × NameKind)) (σ : Vars) (x : Str) : Option D := (sc.lookup x).bind fun k => match k with
  | .globalImplicit => O.glob x
  | .local | .cell | .free => varD (σ.lookup x)
  | _ => none
noncomputable def unE (op : UnaryOp) (o : Option D) : Option D := match op with
  | .USub => o.bind fun d => (asInt d).bind fun i => some (.int (-i))
  | .Not => o.bind fun d => (truD d).bind fun b => some (.bool (!b))
  | _ => none
noncomputable def boolE (op : BoolOp) (f : Expr → Option D) (vs : List Expr) : Option D := match vs with
  | [a, b] => (f a).bind fun d => (truD d).bind fun c => match op with
    | .And => if c = true then f b else some d
    | .Or => if c = true then some d else f b
  | _ => none
noncomputable def cmpE (O : Orc) (f : Expr → Option D) (l : Expr) (ops : List CmpOp) (rs : List Expr) : Option Bool := match ops with
  | [op] => (match rs with
    | [r] => if plainSrc r then (f l).bind fun a => (f r).bind fun b => cmpO O op a b else none
    | _ => none)
  | _ => none
noncomputable def isSlice (e : Expr) : Bool := Nat.beq e.ctorIdx 26
noncomputable def slcE (f : Expr → Option D) (v i : Expr) : Option D := match i with
  | .Slice lo hi st _ => (match st with
    | none => (f v).bind fun d => (partD f lo).bind fun a => (partD f hi).bind fun b => cutD d a b
    | some _ => none)
  | _ => none
noncomputable def subE (O : Orc) (f : Expr → Option D) (v i : Expr) : Option D := if isSlice i = true then slcE f v i else (f v).bind fun d => (f i).bind fun j => itemO O d j
noncomputable def attrE (O : Orc) (o : Expr) (d : Option D) (name : Str) : Option D := if notSuper o then d.bind fun d => match d with
  | .cst v => O.attr v name
  | _ => none else none
noncomputable def litE (f : Expr → Option D) (mk : List D → D) (es : List Expr) : Option D := if es.any starred then none else (allSome f es).bind fun ds => if ds.length ≤ 1048576 then some (mk ds) else none
noncomputable def methE (O : Orc) (f : Expr → Option D) (c : Expr) (args : List Expr) (pos : Pos) : Option D := match c with
  | .Attribute o name apos => if args.any starred || !(decide (args.length < 30)) || !(apos.endLine == pos.line) || !(notSuper o) then none else (f o).bind fun d => (allSome f args).bind fun ds => methO O name d ds
  | _ => none
noncomputable def callE (O : Orc) (f : Expr → Option D) (c : Expr) (args : List Expr) (kws : List Keyword) (pos : Pos) : Option D := match kws with
  | [] => if isAttr c = true then methE O f c args pos else if args.any starred then none else (f c).bind fun d => (allSome f args).bind fun ds => applyD O d ds
  | _ => none
mutual
noncomputable def evE (O : Orc) : Nat → List (Str × NameKind) → Vars → Expr → Option D
  | 0, _, _, _ => none
  | k + 1, sc, σ, e => match e with
    | .Constant c _ _ => constE c
    | .Name x _ => nameE O sc σ x
    | .BinOp l op r _ => (evE O k sc σ l).bind fun a => (evE O k sc σ r).bind fun b => binD op a b
    | .UnaryOp op x _ => unE op (evE O k sc σ x)
    | .BoolOp op vs _ => boolE op (evE O k sc σ) vs
    | .IfExp t a b _ => (evT O k sc σ t).bind fun c => if c = true then evE O k sc σ a else evE O k sc σ b
    | .Compare l ops rs _ => (cmpE O (evE O k sc σ) l ops rs).bind fun c => some (.bool c)
    | .Subscript v i _ => subE O (evE O k sc σ) v i
    | .Attribute o name _ => attrE O o (evE O k sc σ o) name
    | .List es _ => litE (evE O k sc σ) .list es
    | .Tuple es _ _ => litE (evE O k sc σ) .tuple es
    | .Call f args kws pos => callE O (evE O k sc σ) f args kws pos
    | .ListComp elt gs scope _ => (match gs with
      | g :: gs => if plainSrc g.iter && decide (g.is_async = 0) && scopeOk sc scope then
          (peekD σ (evE O k sc σ) g.iter).bind fun ds => (evC O k scope.names (σ.filter fun p => scope.names.lookup p.1 == some .free) elt g gs ds).bind fun es => if ds.length ≤ 1048576 ∧ es.length ≤ 1048576 then some (.list es) else none
        else none
      | [] => none)
    | _ => none
noncomputable def evT (O : Orc) : Nat → List (Str × NameKind) → Vars → Expr → Option Bool
  | 0, _, _, _ => none
  | k + 1, sc, σ, e => match e with
    | .UnaryOp op x _ => (match op with
      | .Not => (evT O k sc σ x).bind fun b => some (!b)
      | _ => none)
    | .BoolOp op vs _ => allT (evT O k sc σ) op vs
    | .IfExp .. => none
    | .Compare l ops rs _ => cmpE O (evE O k sc σ) l ops rs
    | e => (evE O k sc σ e).bind truD
noncomputable def evC (O : Orc) : Nat → List (Str × NameKind) → Vars → Expr → Comprehension → List Comprehension → List D → Option (List D)
  | 0, _, _, _, _, _, _ => none
  | k + 1, sc, σ, elt, g, gs, ds => match g.target with
    | .Name x _ => if (σ.lookup x).isNone && okName x && (sc.lookup x == some .local || sc.lookup x == some .cell) then
        catD (fun d => oneD (evT O k sc ((x, .val d) :: σ)) (evE O k sc ((x, .val d) :: σ)) (evC O k sc ((x, .val d) :: σ) elt) elt g.ifs gs) ds
      else none
    | _ => none
end
end
section
theorem dead {P : Prop} {h : Heap} {a : Addr} {ob : Obj} (e : h.get? a = none) (e' : h.get? a = some ob) : P := nomatch e.symm.trans e'
theorem Kp.back {h h' : Heap} {a : Addr} (k : Kp h h') (e : h'.get? a = none) : h.get? a = none := by
  cases q : h.get? a with
  | none => rfl
  | some o => exact dead e (k _ _ q)
theorem hide {α : Type} {prog : Program} {w : World} {A : Around} {t : Sem α} {s : Shared} {Q : α → Shared → Prop} {E : Value → Shared → Prop} (h : ∀ Q' E', (∀ r s, Q r s → Q' r s) → (∀ e s, E e s → E' e s) → wpAny (model prog w) A t Q' E' s) : wpAny (model prog w) A t Q E s := h Q E (fun _ _ x => x) fun _ _ x => x
theorem sing {a b : Addr} {L : List Addr} (h : b ∈ L) (m : a ∈ [b]) : a ∈ L := by rw [List.mem_singleton.mp m]; exact h
noncomputable def Holds (h : Heap) (X : List Addr) (env : Env) (x : Str) (v : Value) : Prop :=
  (env.kindOf x = some .local ∧ env.locals ∉ X ∧ ∃ m, h.Ns env.locals m ∧ m x = some v) ∨
  ((env.kindOf x = some .cell ∨ env.kindOf x = some .free) ∧ ∃ c, env.cells.lookup x = some c ∧ c ∉ X ∧ h.IsCell c (some v))
noncomputable def Kk (X : List Addr) (h h' : Heap) : Prop := ∀ b o, b ∉ X → h.get? b = some o → h'.get? b = some o
structure Kw (X : List Addr) (h h' : Heap) : Prop where
  keep : Kk X h h'
  live : ∀ b, (∃ o, h.get? b = some o) → ∃ o, h'.get? b = some o
theorem Kw.refl {X : List Addr} {h : Heap} : Kw X h h := ⟨fun _ _ _ e => e, fun _ e => e⟩
theorem Kw.trans {X : List Addr} {a b c : Heap} (x : Kw X a b) (y : Kw X b c) : Kw X a c := ⟨fun k o m e => y.keep k o m (x.keep k o m e), fun k e => y.live k (x.live k e)⟩
theorem Kw.of {X : List Addr} {h h' : Heap} (k : Kp h h') : Kw X h h' := ⟨fun b o _ e => k b o e, fun b ⟨o, e⟩ => ⟨o, k b o e⟩⟩
theorem Kw.less {X Y : List Addr} {h h' : Heap} (k : Kw X h h') (s : ∀ a ∈ X, a ∈ Y) : Kw Y h h' := ⟨fun b o m e => k.keep b o (fun q => m (s b q)) e, k.live⟩
theorem fz_kw {X W : List Addr} {h h' : Heap} (k : Kk X h h') (s : ∀ a ∈ X, a ∈ W) : Sub (fz h W) (fz h' W) := fun a o e => by
  obtain ⟨n, e⟩ := fz_some.mp e
  exact fz_some.mpr ⟨n, k _ _ (fun q => n (s _ q)) e⟩
theorem Al.kw {X W : List Addr} {h h' : Heap} (x : Al W h) (k : Kw X h h') : Al W h' := fun a m => k.live a (x a m)
theorem Holds.kw {h h' : Heap} {X : List Addr} {env : Env} {x : Str} {v : Value} (k : Kk X h h') (p : Holds h X env x v) : Holds h' X env x v := by
  rcases p with ⟨a, n, m, b, c⟩ | ⟨a, c, b, n, o, ho, d⟩
  · exact .inl ⟨a, n, m, b.at' fun o e => k _ o n e, c⟩
  · exact .inr ⟨a, c, b, n, o, k _ o n ho, d⟩
theorem Holds.mono {h h' : Heap} {X : List Addr} {env : Env} {x : Str} {v : Value} (k : Kp h h') (p : Holds h X env x v) : Holds h' X env x v := p.kw (Kw.of k).keep
noncomputable def BRep (h : Heap) (W X : List Addr) : B → Value → Prop
  | .val d, v => Rep (fz h W) d v
  | .own ds, v => ∃ a vs n, v = .ref a ∧ h.get? a = some { cls := .type "list", dict := none, data := .seq vs.toArray n, slots := #[] } ∧ a ∈ W ∧ a ∉ X ∧ RepL (fz h W) ds vs
theorem BRep.kw {h h' : Heap} {W X : List Addr} {b : B} {v : Value} (k : Kk X h h') (s : ∀ a ∈ X, a ∈ W) (p : BRep h W X b v) : BRep h' W X b v := by
  cases b with
  | val d => exact Rep.mono (fz_kw k s) p
  | own ds => obtain ⟨a, vs, n, e, g, m, n', r⟩ := p; exact ⟨a, vs, n, e, k _ _ n' g, m, n', RepL.mono (fz_kw k s) r⟩
theorem BRep.mono {h h' : Heap} {W X : List Addr} {b : B} {v : Value} (k : Kp h h') (p : BRep h W X b v) : BRep h' W X b v := by
  cases b with
  | val d => exact Rep.mono (fz_mono k) p
  | own ds => obtain ⟨a, vs, n, e, g, m, n', r⟩ := p; exact ⟨a, vs, n, e, k _ _ g, m, n', RepL.mono (fz_mono k) r⟩
noncomputable def VarsOK (h : Heap) (W X : List Addr) (env : Env) (σ : Vars) : Prop := ∀ x b, σ.lookup x = some b → okName x = true ∧ ∃ v, Holds h X env x v ∧ BRep h W X b v
theorem VarsOK.kw {h h' : Heap} {W X : List Addr} {env : Env} {σ : Vars} (k : Kk X h h') (s : ∀ a ∈ X, a ∈ W) (p : VarsOK h W X env σ) : VarsOK h' W X env σ := fun x b e =>
  let ⟨o, v, a, r⟩ := p x b e; ⟨o, v, a.kw k, r.kw k s⟩
theorem VarsOK.mono {h h' : Heap} {W X : List Addr} {env : Env} {σ : Vars} (k : Kp h h') (p : VarsOK h W X env σ) : VarsOK h' W X env σ := fun x b e =>
  let ⟨o, v, a, r⟩ := p x b e; ⟨o, v, a.mono k, r.mono k⟩
theorem VarsOK.shrink {h : Heap} {W W' X X' : List Addr} {env : Env} {σ : Vars} (a : ∀ a ∈ W, a ∈ W') (b : ∀ a ∈ X, a ∈ X') (c : ∀ a ∈ W', a ∉ X' → a ∈ W) (p : VarsOK h W' X' env σ) : VarsOK h W X env σ := fun x bb q => by
  obtain ⟨o, v, hv, r⟩ := p x bb q
  refine ⟨o, v, ?_, ?_⟩
  · rcases hv with ⟨a, n, m, z, e⟩ | ⟨a, e, z, n, d⟩
    · exact .inl ⟨a, fun q => n (b _ q), m, z, e⟩
    · exact .inr ⟨a, e, z, fun q => n (b _ q), d⟩
  · cases bb with
    | val d => exact Rep.mono (fz_less a) r
    | own ds => obtain ⟨l, vs, n, e, g, m, n', r⟩ := r; exact ⟨l, vs, n, e, g, c _ m n', fun q => n' (b _ q), RepL.mono (fz_less a) r⟩
structure Gr (h : Heap) (W W' : List Addr) : Prop where
  sub : ∀ a ∈ W, a ∈ W'
  new : ∀ a ∈ W', a ∈ W ∨ h.get? a = none
theorem fz_gr {W W' : List Addr} {h h' : Heap} (g : Gr h W W') (k : Kp h h') : Sub (fz h W) (fz h' W') := fun a o q => by
  obtain ⟨n, q⟩ := fz_some.mp q
  refine fz_some.mpr ⟨fun z => ?_, k _ _ q⟩
  rcases g.new a z with z | z
  · exact n z
  · first | exact dead2 (z) q | exact dead2 q (z) | (rw [z] at q; cases q)
theorem VarsOK.gr {h h' : Heap} {W W' X X' : List Addr} {env : Env} {σ : Vars} (g : Gr h W W') (g' : Gr h X X') (k : Kp h h') (p : VarsOK h W X env σ) : VarsOK h' W' X' env σ := fun x b q => by
  obtain ⟨o, v, a, r⟩ := p x b q
  have off : ∀ {c : Addr} {o : Obj}, c ∉ X → h.get? c = some o → c ∉ X' := fun n ho z => by
    rcases g'.new _ z with z | z
    · exact n z
    · first | exact dead2 (z) ho | exact dead2 ho (z) | (rw [z] at ho; cases ho)
  have sub : Sub (fz h W) (fz h' W') := fz_gr g k
  refine ⟨o, v, Holds.mono k ?_, ?_⟩
  · rcases a with ⟨a, n, m, b, c⟩ | ⟨a, c, b, n, d⟩
    · have b' := b
      obtain ⟨o', _, _, ho, _⟩ := b'
      exact .inl ⟨a, off n ho, m, b, c⟩
    · have d' := d
      obtain ⟨o', ho, _⟩ := d'
      exact .inr ⟨a, c, b, off n ho, d⟩
  · cases b with
    | val d => exact Rep.mono sub r
    | own ds => obtain ⟨a, vs, n, e', gg, m, n', r⟩ := r; exact ⟨a, vs, n, e', k _ _ gg, g.sub _ m, off n' gg, RepL.mono sub r⟩
theorem Gr.refl {h : Heap} {W : List Addr} : Gr h W W := ⟨fun _ m => m, fun _ m => .inl m⟩
theorem Gr.one {h : Heap} {W : List Addr} {I : Addr} (e : h.get? I = none) : Gr h W (I :: W) := ⟨fun _ m => List.mem_cons_of_mem _ m, fun a m => by
  rcases List.mem_cons.mp m with rfl | m
  · exact .inr e
  · exact .inl m⟩

structure EnvOK (env : Env) (sc : List (Str × NameKind)) : Prop where
  kind : env.scope.kind = .function
  globals : env.globals = mainGlobals
  builtins : env.builtins = builtinsNs
  loc : ∀ x, sc.lookup x = some .local → env.kindOf x = some .local
  glo : ∀ x, sc.lookup x = some .globalImplicit → env.kindOf x = some .globalImplicit
  cel : ∀ x, sc.lookup x = some .cell → env.kindOf x = some .cell
  fre : ∀ x, sc.lookup x = some .free → env.kindOf x = some .cell ∨ env.kindOf x = some .free
  cells : ∀ x, sc.lookup x = some .cell ∨ sc.lookup x = some .free → ∃ c, env.cells.lookup x = some c
  sep : ∀ y c, env.cells.lookup y = some c → c ≠ env.locals
  apart : ∀ x y c, env.cells.lookup x = some c → env.cells.lookup y = some c → x = y
noncomputable def CellsAl (h : Heap) (env : Env) : Prop := ∀ y c, env.cells.lookup y = some c → ∃ o, h.get? c = some o
theorem CellsAl.kw {X : List Addr} {h h' : Heap} {env : Env} (k : Kw X h h') (x : CellsAl h env) : CellsAl h' env := fun y c e => k.live c (x y c e)

structure OrcOK (prog : Program) (w : World) (n : Nat) (Base : Heap → List Addr → Prop) (O : Orc) : Prop where
  up : ∀ {h h' : Heap} {W W' : List Addr}, Base h W → Kk W h h' → (∀ a ∈ W', a ∈ W ∨ h.get? a = none) → Base h' W'
  name : ∀ {h : Heap} {W : List Addr} {x : Str} {d : D}, Base h W → O.glob x = some d → okName x = true ∧ ∀ env : Env, env.globals = mainGlobals → env.builtins = builtinsNs → Gv prog w n W (loadGlobal env x) d h
  fn : ∀ {h : Heap} {W : List Addr} {f : Value} {ds : List D} {d : D}, Base h W → O.call f ds = some d → ∃ a o fd, f = .ref a ∧ h.get? a = some o ∧ o.data = .func fd
  call : ∀ {h : Heap} {W : List Addr} {f : Value} {ds : List D} {d : D} {vs : List Value}, Base h W → Al W h → O.call f ds = some d → RepL (fz h W) ds vs → Gv prog w n W (PySem.call f vs) d h
  attr : ∀ {h : Heap} {W : List Addr} {v : Value} {x : Str} {d : D}, Base h W → O.attr v x = some d → Gv prog w n W (getAttr v x true) d h
  meth : ∀ {h : Heap} {W : List Addr} {v : Value} {x : Str} {ds : List D} {d : D}, Base h W → Al W h → O.meth v x ds = some d → ∃ f first o fd, h.get? f = some o ∧ o.data = .func fd ∧ (∀ pl, Gx prog w n W (getMethod v x pl) (fun _ z => z = (.ref f, first)) h) ∧
    ∀ vs h', Kp h h' → RepL (fz h' W) ds vs → Gv prog w n W (PySem.call (.ref f) (first ++ vs)) d h'
  item : ∀ {h : Heap} {W : List Addr} {v u : Value} {j d : D}, Base h W → O.item v j = some d → Rep (fz h W) j u → ∀ value slice, Gv prog w n W (subscriptTail value slice v u) d h
  has : ∀ {h : Heap} {W : List Addr} {v u : Value} {j : D} {b : Bool}, Base h W → O.has v j = some b → Rep (fz h W) j u → Gv prog w n W (compareOp .In u v) (.bool b) h ∧ Gv prog w n W (compareOp .NotIn u v) (.bool !b) h
theorem OrcOK.keep {prog : Program} {w : World} {n : Nat} {Base : Heap → List Addr → Prop} {O : Orc} (o : OrcOK prog w n Base O) {h h' : Heap} {W : List Addr} (b : Base h W) (k : Kp h h') : Base h' W := o.up b (Kw.of k).keep fun _ m => .inl m

theorem okName_1 {x : Str} (h : okName x = true) : (x == ("__debug__" : Str)) = false := by
  unfold okName at h; rw [Bool.and_eq_true] at h; simpa using h.1
theorem okName_2 {x : Str} (h : okName x = true) : (x == ("__classdict__" : Str)) = false := by
  unfold okName at h; rw [Bool.and_eq_true] at h; simpa using h.2

section
variable {prog : Program} {w : World} {n : Nat} {W X : List Addr} {h : Heap} {env : Env} {sc : List (Str × NameKind)} {σ : Vars}
theorem name_holds {x : Str} {p : Pos} {v : Value} {A : Around} {s : Shared} {Q : Value → Shared → Prop} {E : Value → Shared → Prop} (eo : env.scope.kind = .function) (ok : okName x = true) (hv : Holds s.heap X env x v) (q : Q v s) :
    wpAny (model prog w) A (eval (.Name x p) env) Q E s := by
  refine wpAny_Name ?_ (okName_1 ok)
  rcases hv with ⟨a, _, m, b, c⟩ | ⟨a, c, b, _, d⟩
  · exact wpAny_loadName_local eo a b c q
  · rcases a with a | a
    · exact wpAny_loadName_cell eo a b d q
    · exact wpAny_loadName_free eo a b d q (okName_2 ok)
theorem name_val {x : Str} {p : Pos} {d : D} (eo : env.scope.kind = .function) (vo : VarsOK h W X env σ) (hx : σ.lookup x = some (.val d)) : Gv prog w n W (eval (.Name x p) env) d h := by
  obtain ⟨ok, v, hv, r⟩ := vo x _ hx
  intro A s Q E hk am hq
  exact name_holds eo ok (hv.mono hk) (hq v s.heap s.toks (Kp.refl _) (Rep.mono (fz_mono hk) r))
theorem name_glob {x : Str} {p : Pos} {d : D} {Base : Heap → List Addr → Prop} {O : Orc} (o : OrcOK prog w n Base O) (b : Base h W) (eo : EnvOK env sc) (hs : sc.lookup x = some .globalImplicit) (hx : O.glob x = some d) : Gv prog w n W (eval (.Name x p) env) d h := by
  obtain ⟨ok, hg⟩ := o.name b hx
  intro A s Q E hk am hq
  exact Calls.Name_function_global eo.kind (eo.glo x hs) (hg env eo.globals eo.builtins A s Q E hk am hq) (okName_1 ok)

theorem bin_ok {op : Operator} {a b d : D} {v u : Value} (al : Al W h) (ra : Rep (fz h W) a v) (rb : Rep (fz h W) b u) (e : binD op a b = some d) : Gv prog w n W (binaryOp op v u) d h := by
  have i2 : ∀ {f : Int → Int → Option D}, int2 f a b = some d → (∀ i j t t', f i j = some d → Gv prog w n W (binaryOp op (.int i t) (.int j t')) d h) → Gv prog w n W (binaryOp op v u) d h := fun {f} q k => by
    obtain ⟨i, j, rfl, rfl, e2⟩ := int2_inv q
    obtain ⟨t, rfl⟩ := ra
    obtain ⟨t', rfl⟩ := rb
    exact k i j t t' e2
  cases op
  case Add =>
    clear i2
    cases a
    case int => obtain ⟨j, hj, e⟩ := bind_inv e; cases asInt_inv hj; obtain ⟨t, rfl⟩ := ra; obtain ⟨t', rfl⟩ := rb; cases e; exact b_add
    case str => obtain ⟨j, hj, e⟩ := bind_inv e; cases asStr_inv hj; obtain ⟨t, rfl⟩ := ra; obtain ⟨t', rfl⟩ := rb; obtain ⟨q, rfl⟩ := ite_inv e; exact b_cat q
    case list => obtain ⟨j, hj, e⟩ := bind_inv e; cases asList_inv hj; obtain ⟨q, rfl⟩ := ite_inv e; exact b_list q al ra rb
    all_goals exact ns e
  case Mult =>
    clear i2
    obtain ⟨j, hj, e⟩ := bind_inv e
    cases asInt_inv hj
    obtain ⟨t', rfl⟩ := rb
    cases a
    case int => obtain ⟨t, rfl⟩ := ra; obtain ⟨q, rfl⟩ := ite_inv e; exact b_mul q
    case list => obtain ⟨q, rfl⟩ := ite_inv e; exact b_lmul q.1 q.2.1 q.2.2 al ra
    all_goals exact ns e
  case Sub => exact i2 e fun i j t t' q => by cases q; exact b_sub
  case FloorDiv => exact i2 e fun i j t t' q => by obtain ⟨c, rfl⟩ := ite_inv q; exact b_div c.1 c.2
  case Mod => exact i2 e fun i j t t' q => by obtain ⟨c, rfl⟩ := ite_inv q; exact b_mod c
  case BitAnd => exact i2 e fun i j t t' q => by cases q; exact b_and
  case BitOr => exact i2 e fun i j t t' q => by cases q; exact b_or
  case RShift => exact i2 e fun i j t t' q => by obtain ⟨c, rfl⟩ := ite_inv q; exact b_shr c
  case LShift => exact i2 e fun i j t t' q => by obtain ⟨c, rfl⟩ := ite_inv q; exact b_shl c.1 c.2.1 c.2.2
  case Pow => exact i2 e fun i j t t' q => by obtain ⟨c, rfl⟩ := ite_inv q; exact b_pow c.1 c.2.1 c.2.2
  all_goals exact ns e

theorem is_ok {a b : D} {v u : Value} {c : Bool} (ra : Rep (fz h W) a v) (rb : Rep (fz h W) b u) (e : isD a b = some c) : Gv prog w n W (compareOp .Is v u) (.bool c) h ∧ Gv prog w n W (compareOp .IsNot v u) (.bool (!c)) h := by
  have key : plainIs v u = true ∧ (v == u) = c := by
    cases b <;> first | (exact ns e) | skip
    case none =>
      cases rb
      cases a <;> first | (exact ns e) | skip
      case none => cases ra; cases (show some true = some c from e); exact ⟨rfl, rfl⟩
      case bool => cases ra; cases (show some false = some c from e); exact ⟨rfl, rfl⟩
      case str => obtain ⟨_, rfl⟩ := ra; cases (show some false = some c from e); exact ⟨rfl, rfl⟩
    case bool y =>
      obtain ⟨x, hx, e⟩ := bind_inv e
      rw [asBool_inv hx] at ra
      cases ra; cases rb; cases e
      exact ⟨rfl, by cases x <;> cases y <;> rfl⟩
    case cst y =>
      obtain ⟨x, hx, e1⟩ := bind_inv e
      rw [asCst_inv hx] at ra
      clear e
      cases x <;> first | (exact ns e1) | skip
      cases y <;> first | (exact ns e1) | skip
      rename_i x y
      cases ra; cases rb
      cases (show some (x == y) = some c from e1)
      refine ⟨rfl, ?_⟩
      by_cases hab : x = y
      · subst hab; simp
      · rw [beq_eq_false_iff_ne.mpr hab, beq_eq_false_iff_ne]; intro q; cases q; exact hab rfl
  obtain ⟨hp, rfl⟩ := key
  exact ⟨c_is hp, c_isNot hp⟩
theorem cmp_ok {op : CmpOp} {a b : D} {v u : Value} {c : Bool} (hn : 1 ≤ n) (ra : Rep (fz h W) a v) (rb : Rep (fz h W) b u) (e : cmpD op a b = some c) : Gv prog w n W (compareOp op v u) (.bool c) h := by
  have i2 : ∀ {f : Int → Int → Bool}, (∀ i j t t', Gv prog w n W (compareOp op (.int i t) (.int j t')) (.bool (f i j)) h) → (∃ i j, a = .int i ∧ b = .int j ∧ f i j = c) → Gv prog w n W (compareOp op v u) (.bool c) h := fun {f} k q => by
    obtain ⟨i, j, rfl, rfl, rfl⟩ := q
    obtain ⟨t, rfl⟩ := ra
    obtain ⟨t', rfl⟩ := rb
    exact k i j t t'
  cases op
  case Eq => exact c_eq 3 (by (first | lia | omega)) ra rb e
  case NotEq =>
    clear i2
    cases a <;> first | (exact ns e) | skip
    case int => cases b <;> first | (exact ns e) | skip
                obtain ⟨t, rfl⟩ := ra; obtain ⟨t', rfl⟩ := rb; cases e; exact c_ne_int
    case str => cases b <;> first | (exact ns e) | skip
                obtain ⟨t, rfl⟩ := ra; obtain ⟨t', rfl⟩ := rb; cases e; exact c_ne_str
  case Lt => exact i2 (fun i j t t' => c_lt_int) (cmp2_inv (f := fun i j => decide (i < j)) e)
  case Gt => exact i2 (fun i j t t' => c_gt_int) (cmp2_inv (f := fun i j => decide (i > j)) e)
  case LtE => exact i2 (fun i j t t' => c_le_int) (cmp2_inv (f := fun i j => decide (i ≤ j)) e)
  case GtE => exact i2 (fun i j t t' => c_ge_int) (cmp2_inv (f := fun i j => decide (i ≥ j)) e)
  case In =>
    clear i2
    cases b <;> first | (exact ns e) | skip
    case list => exact c_in_list 3 (by (first | lia | omega)) ra rb e
    case tuple => exact c_in_tuple 3 (by (first | lia | omega)) ra rb e
    case str => cases a <;> first | (exact ns e) | skip
                obtain ⟨t, rfl⟩ := ra; obtain ⟨t', rfl⟩ := rb; cases e; exact c_in_text
  case NotIn =>
    clear i2
    cases b <;> first | (exact ns e) | skip
    case list => obtain ⟨b, hb, rfl⟩ := Option.map_eq_some_iff.mp e; exact c_nin_list 3 (by (first | lia | omega)) ra rb hb
    case tuple => obtain ⟨b, hb, rfl⟩ := Option.map_eq_some_iff.mp e; exact c_nin_tuple 3 (by (first | lia | omega)) ra rb hb
  case Is => exact (is_ok ra rb e).1
  case IsNot => obtain ⟨b, hb, rfl⟩ := Option.map_eq_some_iff.mp e; exact (is_ok ra rb hb).2
theorem cmpO_ok {Base : Heap → List Addr → Prop} {O : Orc} (o : OrcOK prog w n Base O) (ba : Base h W) {op : CmpOp} {a b : D} {v u : Value} {c : Bool} (hn : 1 ≤ n) (ra : Rep (fz h W) a v) (rb : Rep (fz h W) b u) (e : cmpO O op a b = some c) : Gv prog w n W (compareOp op v u) (.bool c) h := by
  first | with_reducible exact ns b | cases b
  case cst x =>
    cases op
    case In => cases rb; exact (o.has ba e ra).1
    case NotIn => obtain ⟨c', hc, rfl⟩ := Option.map_eq_some_iff.mp e; cases rb; exact (o.has ba hc ra).2
    all_goals exact cmp_ok hn ra rb e
  all_goals exact cmp_ok hn ra rb e
end
end
section
section
variable {prog : Program} {w : World} {n : Nat} {W : List Addr} {h : Heap} {env : Env}
theorem tru_ok {d : D} {v : Value} {c : Bool} (r : Rep (fz h W) d v) (e : truD d = some c) : GvB prog w n W (truthy v) c h := by
  intro A s Q E hk am hq
  cases d <;> first | exact ns e | skip
  · cases e; cases r; exact PyProof.Rows.truthy_none (hq _ s.heap s.toks (Kp.refl _) rfl)
  · cases e; cases r; exact wpAny_truthy_bool (hq _ s.heap s.toks (Kp.refl _) rfl)
  · cases e; obtain ⟨t, rfl⟩ := r; exact P.truthy_int (hq _ s.heap s.toks (Kp.refl _) rfl)
theorem item_ok {value slice : Expr} {d i r : D} {v u : Value} (rd : Rep (fz h W) d v) (ri : Rep (fz h W) i u) (e : itemD d i = some r) : Gv prog w n W (subscriptTail value slice v u) r h := by
  obtain ⟨j, hj, e⟩ := bind_inv e
  rw [asInt_inv hj] at ri
  obtain ⟨t, rfl⟩ := ri
  cases d <;> first | exact ns e | skip
  · obtain ⟨hz, e⟩ := ift_inv e
    obtain ⟨j, hj, hd⟩ := bind_inv e
    obtain ⟨c, hc, rfl⟩ := Option.map_eq_some_iff.mp hd
    exact tail_str rd (i_str hz rd hj hc)
  · obtain ⟨hz, e⟩ := ift_inv e
    obtain ⟨c, hc, rfl⟩ := Option.map_eq_some_iff.mp e
    exact tail_bytes rd (i_bytes hz.1 rd hz.2 hc)
  · obtain ⟨hz, e⟩ := ift_inv e
    obtain ⟨j, hj, hd⟩ := bind_inv e
    exact tail_list rd (i_list hz rd hj hd)
  · obtain ⟨hz, e⟩ := ift_inv e
    obtain ⟨j, hj, hd⟩ := bind_inv e
    exact tail_tuple rd (i_tuple hz rd hj hd)
theorem itemO_ok {Base : Heap → List Addr → Prop} {O : Orc} (o : OrcOK prog w n Base O) (ba : Base h W) {value slice : Expr} {d i r : D} {v u : Value} (rd : Rep (fz h W) d v) (ri : Rep (fz h W) i u) (e : itemO O d i = some r) : Gv prog w n W (subscriptTail value slice v u) r h := by
  have e : (asCst d).elim (itemD d i) (fun v => O.item v i) = some r := e
  cases q : asCst d with
  | none => rw [q] at e; exact item_ok rd ri e
  | some v => rw [q] at e; cases asCst_inv q; cases rd; exact o.item ba e ri value slice
theorem cut_ok {value slice : Expr} {d r : D} {lo hi : Option Int} {v a b : Value} {sl : Addr} (al : Al W h) (rd : Rep (fz h W) d v) (pa : Part a lo) (pb : Part b hi) (hs : h.IsSliceOf sl a b .none) (e : cutD d lo hi = some r) :
    Gv prog w n W (subscriptTail value slice v (.ref sl)) r h := by
  cases d <;> first | exact ns e | skip
  · obtain ⟨hz, e⟩ := ite_inv e
    rw [← e]; exact tail_str rd (s_str hz rd pa pb hs)
  · obtain ⟨hz, e⟩ := ite_inv e
    rw [← e]; exact tail_list rd (s_list hz rd pa pb al hs)

theorem type_ok {d : D} {v : Value} {T : String} (r : Rep (fz h W) d v) (e : tyD d = some T) : Gv prog w n W (call (.type "type") [v]) (.cst (.type T)) h := by
  intro A s Q E hk am hq
  have q : Q (.type T) s := hq _ s.heap s.toks (Kp.refl _) rfl
  cases d <;> first | exact ns e | cases e
  · cases r; exact call_type_of (by rfl) (by decide) q
  · cases r; exact call_type_of (by rfl) (by decide) q
  · obtain ⟨t, rfl⟩ := r; exact call_type_of (typeIs_int s _ _) (by decide) q
  · obtain ⟨t, rfl⟩ := r; exact call_type_of (typeIs_str s _ _) (by decide) q
  · obtain ⟨t, rfl⟩ := r; exact call_type_of (PySem.W.typeIs_bytes s _ _) (by decide) q
  · obtain ⟨a, vs, rfl, q', rl⟩ := r; exact call_type_of (list_of (SeqAt.mono q' (fz_mono hk))).1.typeIs (by decide) q
  · obtain ⟨a, vs, rfl, q', rl⟩ := r; exact call_type_of (tuple_of (SeqAt.mono q' (fz_mono hk))).1.typeIs (by decide) q

theorem w1 {f : D → Option D} {F : List Value → Sem Value} {ds : List D} {vs : List Value} {r : D} (e : one f ds = some r) (rl : RepL (fz h W) ds vs) (k : ∀ d v, Rep (fz h W) d v → f d = some r → Gv prog w n W (F [v]) r h) : Gv prog w n W (F vs) r h := by
  obtain ⟨d, rfl, e⟩ := one_inv e
  obtain ⟨v, _, rfl, rv, rfl⟩ := rl
  exact k d v rv e
theorem wI {g : Int → Option D} {F : List Value → Sem Value} {ds : List D} {vs : List Value} {r : D} (e : one (fun d => (asInt d).bind g) ds = some r) (rl : RepL (fz h W) ds vs) (k : ∀ i t, g i = some r → Gv prog w n W (F [.int i t]) r h) : Gv prog w n W (F vs) r h :=
  w1 e rl fun d v rv e => by
    obtain ⟨i, hi, e⟩ := bind_inv e
    rw [asInt_inv hi] at rv
    obtain ⟨t, rfl⟩ := rv
    exact k i t e
theorem wL {g : List D → Option D} {F : List Value → Sem Value} {ds : List D} {vs : List Value} {r : D} (e : one (fun d => (asList d).bind g) ds = some r) (rl : RepL (fz h W) ds vs) (k : ∀ l v, Rep (fz h W) (.list l) v → g l = some r → Gv prog w n W (F [v]) r h) : Gv prog w n W (F vs) r h :=
  w1 e rl fun d v rv e => by
    obtain ⟨i, hi, e⟩ := bind_inv e
    rw [asList_inv hi] at rv
    exact k i v rv e
theorem w2 {g : Int → Int → Option D} {F : List Value → Sem Value} {ds : List D} {vs : List Value} {r : D} (e : two (int2 g) ds = some r) (rl : RepL (fz h W) ds vs) (k : ∀ i t j u, g i j = some r → Gv prog w n W (F [.int i t, .int j u]) r h) : Gv prog w n W (F vs) r h := by
  obtain ⟨x, y, rfl, e⟩ := two_inv e
  obtain ⟨i, j, rfl, rfl, e⟩ := int2_inv e
  obtain ⟨v, _, rfl, ⟨t, rfl⟩, _, _, rfl, ⟨u, rfl⟩, rfl⟩ := rl
  exact k i t j u e
theorem gv_eq {t : Sem Value} {r r' : D} (g : Gv prog w n W t r' h) (e : some r' = some r) : Gv prog w n W t r h := by rw [← Option.some.inj e]; exact g
theorem min_ok {ds : List D} {r : D} {vs : List Value} (rl : RepL (fz h W) ds vs) (e : minD ds = some r) : Gv prog w n W (call (.builtin "min") vs) r h := w2 (F := fun vs => call (.builtin "min") vs) e rl fun i t j u e => gv_eq f_min e
theorem max_ok (hn : 1 ≤ n) {ds : List D} {r : D} {vs : List Value} (rl : RepL (fz h W) ds vs) (e : maxD ds = some r) : Gv prog w n W (call (.builtin "max") vs) r h := by
  refine wL (F := fun vs => call (.builtin "max") vs) (g := fun ds => (pairsD ds).bind fun ps => if 0 < ps.length then some (pairT (maxP ps)) else none) e rl fun l v rv e => ?_
  obtain ⟨ys, hy, e⟩ := bind_inv e
  obtain ⟨c, e⟩ := ite_inv e
  exact gv_eq (f_maxP hn rv hy c) (congrArg some e)
theorem callB_ok (hn : 1 ≤ n) {b : String} {ds : List D} {r : D} {vs : List Value} (rl : RepL (fz h W) ds vs) (e : callB b ds = some r) : Gv prog w n W (call (.builtin b) vs) r h := by
  obtain ⟨F, hl, e⟩ := bind_inv e
  rcases lk_cons hl with ⟨rfl, rfl⟩ | hl
  · refine w1 (F := fun vs => call (.builtin "len") vs) e rl fun d v rv e => ?_
    cases d <;> first | exact ns e | skip
    case list => obtain ⟨c, e⟩ := ite_inv e; exact gv_eq (l_list c rv) (congrArg some e)
  rcases lk_cons hl with ⟨rfl, rfl⟩ | hl
  · exact max_ok hn rl e
  rcases lk_cons hl with ⟨rfl, rfl⟩ | hl
  · exact min_ok rl e
  rcases lk_cons hl with ⟨rfl, rfl⟩ | hl
  · refine wL (F := fun vs => call (.builtin "sum") vs) e rl fun l v rv e => ?_
    obtain ⟨xs, hx, e⟩ := bind_inv e
    exact gv_eq (f_sum rv hx) e
  rcases lk_cons hl with ⟨rfl, rfl⟩ | hl
  · refine wI (F := fun vs => call (.builtin "chr") vs) e rl fun i t e => ?_
    obtain ⟨c, e⟩ := ite_inv e
    exact gv_eq (f_chr c.1 c.2) (congrArg some e)
  exact lk_nil hl

theorem range_ok {ds : List D} {r : D} {vs : List Value} (al : Al W h) (rl : RepL (fz h W) ds vs) (e : rangeD ds = some r) : Gv prog w n W (call (.type "range") vs) r h := by
  cases ds with
  | nil => exact ns e
  | cons x l => cases l with
    | nil => exact wI (F := fun vs => call (.type "range") vs) (g := fun i => some (.range 0 i 1)) (ds := [x]) e rl fun i t e => gv_eq (f_range1 al) e
    | cons y l => cases l with
      | nil => exact w2 (F := fun vs => call (.type "range") vs) (g := fun i j => some (.range i j 1)) (ds := [x, y]) e rl fun i t j u e => gv_eq (f_range2 al) e
      | cons z l => cases l with
        | nil =>
          obtain ⟨k, hk, e⟩ := bind_inv e
          obtain ⟨i, j, rfl, rfl, e⟩ := int2_inv (a := x) (b := y) e
          rw [asInt_inv hk] at rl
          obtain ⟨v, _, rfl, ⟨t, rfl⟩, _, _, rfl, ⟨u, rfl⟩, _, _, rfl, ⟨x, rfl⟩, rfl⟩ := rl
          obtain ⟨c, e⟩ := ite_inv e
          exact gv_eq (f_range3 al c.1 c.2) (congrArg some e)
        | cons _ _ => exact ns e
theorem callT_ok {b : String} {ds : List D} {r : D} {vs : List Value} (al : Al W h) (rl : RepL (fz h W) ds vs) (e : callT b ds = some r) : Gv prog w n W (call (.type b) vs) r h := by
  obtain ⟨F, hl, e⟩ := bind_inv e
  rcases lk_cons hl with ⟨rfl, rfl⟩ | hl
  · exact range_ok al rl e
  rcases lk_cons hl with ⟨rfl, rfl⟩ | hl
  · refine wL (F := fun vs => call (.type "list") vs) e rl fun l v rv e => ?_
    obtain ⟨c, e⟩ := ite_inv e
    exact gv_eq (f_list al c rv) (congrArg some e)
  rcases lk_cons hl with ⟨rfl, rfl⟩ | hl
  · refine wL (F := fun vs => call (.type "bytes") vs) e rl fun l v rv e => ?_
    obtain ⟨ds', hc, e⟩ := bind_inv e
    obtain ⟨c, hc⟩ := ite_inv hc
    rw [← hc] at e
    obtain ⟨xs, hx, e⟩ := bind_inv e
    obtain ⟨c2, e⟩ := ite_inv e
    exact gv_eq (f_bytes c rv hx c2) (congrArg some e)
  rcases lk_cons hl with ⟨rfl, rfl⟩ | hl
  · refine w1 (F := fun vs => call (.type "type") vs) e rl fun d v rv e => ?_
    obtain ⟨T, hT, e⟩ := bind_inv e
    exact gv_eq (type_ok rv hT) e
  exact lk_nil hl

theorem star_cons {e : Expr} {es : List Expr} (hs : starred e = false) : starEach (e :: es) env = (false, eval e env) :: starEach es env := by
  cases e <;> first | rfl | exact (Bool.false_ne_true hs.symm).elim
theorem star_plain : ∀ {es : List Expr} {pos : Pos}, es.any starred = false → (backTo pos (starEach es env)).any (·.1) = false
  | [], _, _ => rfl
  | e :: es, pos, hs => by
    rw [List.any_cons, Bool.or_eq_false_iff] at hs
    rw [star_cons hs.1]
    show (false || (backTo pos (starEach es env)).any (·.1)) = false
    rw [star_plain hs.2]; rfl
theorem args_ok {f : Expr → Option D} {pos : Pos} : ∀ {es : List Expr} {ds : List D} {h : Heap}, es.any starred = false → (∀ e ∈ es, ∀ d h', Kp h h' → f e = some d → Gv prog w n W (eval e env) d h') → allSome f es = some ds →
    GvL prog w n W (spliced (backTo pos (starEach es env))) ds h
  | [], ds, h, _, _, e => by
    first | with_reducible exact ns e | cases e
    intro A s Q E hk am hq
    exact spliced_nil (hq _ s.heap s.toks (Kp.refl _) rfl)
  | e :: es, ds, h, hs, hf, he => by
    rw [List.any_cons, Bool.or_eq_false_iff] at hs
    rw [star_cons hs.1]
    obtain ⟨d, h1, he⟩ := bind_inv he
    obtain ⟨ds', h2, he⟩ := bind_inv he
    rw [← Option.some.inj he]
    intro A s Q E hk am hq
    refine spliced_cons (hf e List.mem_cons_self d h (Kp.refl _) h1 A s _ E hk am fun v h' tk' k1 r1 => ?_)
    refine args_ok hs.2 (fun e' m d' h'' k e1 => hf e' (List.mem_cons_of_mem _ m) d' h'' k e1) h2 A _ _ E (hk.trans k1) am fun vs h'' tk'' k2 r2 => ?_
    exact hq _ h'' tk'' (k1.trans k2) ⟨v, vs, rfl, Rep.mono (fz_mono k2) r1, r2⟩
theorem evargs_ok {f : Expr → Option D} {pos : Pos} {fv : Value} {es : List Expr} {ds : List D} (hs : es.any starred = false) (hf : ∀ e ∈ es, ∀ d h', Kp h h' → f e = some d → Gv prog w n W (eval e env) d h') (he : allSome f es = some ds)
    {A : Around} {s : Shared} {Q : Args → Shared → Prop} {E : Value → Shared → Prop} (hk : Kp h s.heap) (am : Amb A n) (hq : ∀ vs h' tk', Kp s.heap h' → RepL (fz h' W) ds vs → Q ⟨vs, []⟩ { s with heap := h', toks := tk' }) :
    wpAny (model prog w) A (evalArgs fv true (backTo pos (starEach es env)) []) Q E s := by
  cases es with
  | nil =>
    first | with_reducible exact ns he | cases he
    exact PySem.evalArgs_none (hq [] s.heap s.toks (Kp.refl _) rfl)
  | cons e es =>
    have hs' := hs
    rw [List.any_cons, Bool.or_eq_false_iff] at hs
    have key := args_ok (pos := pos) hs' hf he A s (fun vs s' => Q ⟨vs, []⟩ s') E hk am hq
    rw [star_cons hs.1] at key ⊢
    exact evalArgs_plain key

theorem apply_ok (hn : 1 ≤ n) {Base : Heap → List Addr → Prop} {O : Orc} (o : OrcOK prog w n Base O) {pos : Pos} {es : List Expr} {ev : Expr → Option D} {ds : List D} {fd r : D} {f : Value} (b : Base h W) (al : Al W h) (rf : Rep (fz h W) fd f)
    (hs : es.any starred = false) (hf : ∀ e ∈ es, ∀ d h', Kp h h' → ev e = some d → Gv prog w n W (eval e env) d h') (he : allSome ev es = some ds) (e : applyD O fd ds = some r) :
    Gv prog w n W (callWith pos f [] (backTo pos (starEach es env)) []) r h := by
  intro A s Q E hk am hq
  cases fd <;> first | exact ns e | skip
  rename_i fv
  cases fv <;> first | exact ns e | skip
  · first | with_reducible exact ns rf | cases rf
    refine PyProof.Rows.callWith_type (star_plain hs) (evargs_ok hs hf he hk am fun vs h' tk' k1 rl => ?_)
    exact callT_ok ((al.mono hk).mono k1) rl e A _ Q E (Kp.refl _) am fun v h'' tk'' k2 r2 => hq v h'' tk'' (k1.trans k2) r2
  · first | with_reducible exact ns rf | cases rf
    refine callWith_builtin (star_plain hs) (evargs_ok hs hf he hk am fun vs h' tk' k1 rl => ?_)
    exact callB_ok hn rl e A _ Q E (Kp.refl _) am fun v h'' tk'' k2 r2 => hq v h'' tk'' (k1.trans k2) r2
  · first | with_reducible exact ns rf | cases rf
    rename_i a
    obtain ⟨a', o', fd, hf', hg, ho⟩ := o.fn b e
    first | with_reducible exact ns hf' | cases hf'
    refine callWith_function (o := o') (fd := fd) (evargs_ok hs hf he hk am fun vs h' tk' k1 rl => ⟨⟨k1 _ _ (hk _ _ hg), ho⟩, ?_⟩)
    exact o.call (o.keep b (hk.trans k1)) ((al.mono hk).mono k1) e rl A _ Q E (Kp.refl _) am fun v h'' tk'' k2 r2 => hq v h'' tk'' (k1.trans k2) r2

theorem getm_str {x : List Nat} {t : Tok} {name : Str} {id : String} {pl : Sem Bool} (hn : (name = "index" ∧ id = "str.index") ∨ (name = "split" ∧ id = "str.split") ∨ (name = "lower" ∧ id = "str.lower") ∨ (name = "join" ∧ id = "str.join"))
    {A : Around} {s : Shared} {Q : Value × List Value → Shared → Prop} {E : Value → Shared → Prop} (hq : Q (.builtin id, [.str ⟨x.toArray⟩ t]) s) : wpAny (model prog w) A (getMethod (.str ⟨x.toArray⟩ t) name pl) Q E s := by
  rcases hn with ⟨rfl, rfl⟩ | ⟨rfl, rfl⟩ | ⟨rfl, rfl⟩ | ⟨rfl, rfl⟩
  · with_reducible exact GM.index hq
  · with_reducible exact GM.split hq
  · with_reducible exact GM.lower hq
  · with_reducible exact GM.join hq

theorem callS_ok {name : Str} {d r : D} {ds : List D} {v : Value} {pos : Pos} {args : List (Bool × Sem Value)} {pl : Sem Bool} (hp : args.any (·.1) = false) (rd : ∃ h0, Kp h0 h ∧ Rep (fz h0 W) d v) (al : Al W h) (e : callS name d ds = some r)
    {A : Around} {s : Shared} {Q : Value → Shared → Prop} {E : Value → Shared → Prop} (hk : Kp h s.heap) (am : Amb A n)
    (ha : ∀ (fv : Value) (Q : Args → Shared → Prop), (∀ vs h' tk', Kp s.heap h' → RepL (fz h' W) ds vs → Q ⟨vs, []⟩ { s with heap := h', toks := tk' }) → wpAny (model prog w) A (evalArgs fv true args []) Q E s)
    (hq : ∀ v h' tk', Kp s.heap h' → Rep (fz h' W) r v → Q v { s with heap := h', toks := tk' }) :
    wpAny (model prog w) A (getMethod v name pl) (fun fx s' => wpAny (model prog w) A (callWith pos fx.1 fx.2 args []) Q E s') E s := by
  obtain ⟨h0, k0, rd⟩ := rd
  obtain ⟨x, hx, e1⟩ := bind_inv e
  clear e
  have hx' := asStr_inv hx
  clear hx
  subst hx'
  obtain ⟨t, rfl⟩ := rd
  obtain ⟨F, hl, e⟩ := bind_inv e1
  clear e1
  rcases lk_cons hl with ⟨hn, rfl⟩ | hl
  · obtain ⟨d, rfl, e⟩ := one_inv e
    obtain ⟨y, hy, e⟩ := bind_inv e
    obtain ⟨c, hc, e⟩ := bind_inv e
    obtain ⟨j, hj, e⟩ := bind_inv e
    with_reducible refine getm_str (id := "str.index") (.inl ⟨hn, rfl⟩) ?_
    refine callWith_builtin hp (ha _ _ fun vs h' tk' k1 rl => ?_)
    obtain ⟨_, _, rfl, rv, rfl⟩ := rl
    rw [asStr_inv hy, sgl_inv hc] at rv
    obtain ⟨u, rfl⟩ := rv
    exact m_index (h := h') hj A _ Q E (Kp.refl _) am fun v h'' tk'' k2 r2 => hq v h'' tk'' (k1.trans k2) (by rw [← Option.some.inj e]; exact r2)
  rcases lk_cons hl with ⟨hn, rfl⟩ | hl
  · obtain ⟨d, rfl, e⟩ := one_inv e
    obtain ⟨y, hy, e⟩ := bind_inv e
    obtain ⟨c, hc, e⟩ := bind_inv e
    obtain ⟨hz, e⟩ := ite_inv e
    with_reducible refine getm_str (id := "str.split") (.inr (.inl ⟨hn, rfl⟩)) ?_
    refine callWith_builtin hp (ha _ _ fun vs h' tk' k1 rl => ?_)
    obtain ⟨_, _, rfl, rv, rfl⟩ := rl
    rw [asStr_inv hy, sgl_inv hc] at rv
    obtain ⟨u, rfl⟩ := rv
    exact m_split (h := h') ((al.mono hk).mono k1) hz A _ Q E (Kp.refl _) am fun v h'' tk'' k2 r2 => hq v h'' tk'' (k1.trans k2) (by rw [← e]; exact r2)
  rcases lk_cons hl with ⟨hn, rfl⟩ | hl
  · obtain ⟨rfl, e⟩ := nul_inv e
    obtain ⟨hc, e⟩ := ite_inv e
    with_reducible refine getm_str (id := "str.lower") (.inr (.inr (.inl ⟨hn, rfl⟩))) ?_
    refine callWith_builtin hp (ha _ _ fun vs h' tk' k1 rl => ?_)
    have rl : vs = [] := rl
    subst rl
    exact m_lower (h := h') hc.1 hc.2 A _ Q E (Kp.refl _) am fun v h'' tk'' k2 r2 => hq v h'' tk'' (k1.trans k2) (by rw [← e]; exact r2)
  rcases lk_cons hl with ⟨hn, rfl⟩ | hl
  · obtain ⟨d, rfl, e⟩ := one_inv e
    obtain ⟨l, hl, e⟩ := bind_inv e
    obtain ⟨l', hl', e⟩ := bind_inv e
    obtain ⟨rfl, rfl⟩ := ite_inv hl'
    obtain ⟨xs, hx, e⟩ := bind_inv e
    obtain ⟨hz, e⟩ := ite_inv e
    with_reducible refine getm_str (id := "str.join") (.inr (.inr (.inr ⟨hn, rfl⟩))) ?_
    refine callWith_builtin hp (ha _ _ fun vs h' tk' k1 rl => ?_)
    obtain ⟨v, _, rfl, rv, rfl⟩ := rl
    rw [asList_inv hl] at rv
    exact m_join (h := h') rv hx hz A _ Q E (Kp.refl _) am fun v h'' tk'' k2 r2 => hq v h'' tk'' (k1.trans k2) (by rw [← e]; exact r2)
  exfalso
  exact lk_nil hl

theorem callL_ok {name : Str} {l : List D} {r : D} {ds : List D} {v : Value} {pos : Pos} {args : List (Bool × Sem Value)} {pl : Sem Bool} (hp : args.any (·.1) = false) (rd : Rep (fz h W) (.list l) v) (e : callL name l ds = some r)
    {A : Around} {s : Shared} {Q : Value → Shared → Prop} {E : Value → Shared → Prop} (hk : Kp h s.heap) (am : Amb A n)
    (ha : ∀ (fv : Value) (Q : Args → Shared → Prop), (∀ vs h' tk', Kp s.heap h' → RepL (fz h' W) ds vs → Q ⟨vs, []⟩ { s with heap := h', toks := tk' }) → wpAny (model prog w) A (evalArgs fv true args []) Q E s)
    (hq : ∀ v h' tk', Kp s.heap h' → Rep (fz h' W) r v → Q v { s with heap := h', toks := tk' }) :
    wpAny (model prog w) A (getMethod v name pl) (fun fx s' => wpAny (model prog w) A (callWith pos fx.1 fx.2 args []) Q E s') E s := by
  obtain ⟨rfl, e1⟩ := ift_inv e
  clear e
  obtain ⟨d, rfl, e2⟩ := one_inv e1
  clear e1
  obtain ⟨k, hx, e3⟩ := bind_inv e2
  clear e2
  obtain ⟨xs, hxs', e4⟩ := bind_inv e3
  clear e3
  obtain ⟨hz, hxs⟩ := ift_inv hxs'
  obtain ⟨j, hj, e⟩ := bind_inv e4
  clear e4
  cases asInt_inv hx
  have rd' := rd
  obtain ⟨a, vs, rfl, q, rl⟩ := rd
  obtain ⟨n1, sl, g⟩ := list_nd q
  refine getMethod_builtin (T := "list") (id := "list.index") ⟨_, hk _ _ g, rfl⟩ PySem.F.plainAttrs_list PySem.F.slot_list_index PySem.F.type_list_index (fun a' e => by cases e; exact ⟨_, hk _ _ g, rfl⟩) ?_
  refine callWith_builtin hp (ha _ _ fun vs h' tk' k1 rl => ?_)
  obtain ⟨u, _, rfl, ⟨t, rfl⟩, rfl⟩ := rl
  exact m_indexL hz (Rep.mono (fz_mono (hk.trans k1)) rd') hxs hj A _ Q E (Kp.refl _) am fun v h'' tk'' k2 r2 => hq v h'' tk'' (k1.trans k2) (by rw [← Option.some.inj e]; exact r2)
theorem callM_ok {name : Str} {d r : D} {ds : List D} {v : Value} {pos : Pos} {args : List (Bool × Sem Value)} {pl : Sem Bool} (hp : args.any (·.1) = false) (rd : Rep (fz h W) d v) (al : Al W h) (e : callM name d ds = some r)
    {A : Around} {s : Shared} {Q : Value → Shared → Prop} {E : Value → Shared → Prop} (hk : Kp h s.heap) (am : Amb A n)
    (ha : ∀ (fv : Value) (Q : Args → Shared → Prop), (∀ vs h' tk', Kp s.heap h' → RepL (fz h' W) ds vs → Q ⟨vs, []⟩ { s with heap := h', toks := tk' }) → wpAny (model prog w) A (evalArgs fv true args []) Q E s)
    (hq : ∀ v h' tk', Kp s.heap h' → Rep (fz h' W) r v → Q v { s with heap := h', toks := tk' }) :
    wpAny (model prog w) A (getMethod v name pl) (fun fx s' => wpAny (model prog w) A (callWith pos fx.1 fx.2 args []) Q E s') E s := by
  have e : (asList d).elim (callS name d ds) (fun l => callL name l ds) = some r := e
  cases q : asList d with
  | none => rw [q] at e; exact callS_ok hp ⟨h, Kp.refl _, rd⟩ al e hk am ha hq
  | some l => rw [q] at e; rw [asList_inv q] at rd; exact callL_ok hp rd e hk am ha hq
theorem methO_ok {Base : Heap → List Addr → Prop} {O : Orc} (o : OrcOK prog w n Base O) (ba : Base h W) {name : Str} {d r : D} {ds : List D} {v : Value} {pos : Pos} {args : List (Bool × Sem Value)} {pl : Sem Bool} (hp : args.any (·.1) = false) (rd : Rep (fz h W) d v) (al : Al W h) (e : methO O name d ds = some r)
    {A : Around} {s : Shared} {Q : Value → Shared → Prop} {E : Value → Shared → Prop} (hk : Kp h s.heap) (am : Amb A n)
    (ha : ∀ (fv : Value) (s1 : Shared) (Q : Args → Shared → Prop), Kp s.heap s1.heap → (∀ vs h' tk', Kp s1.heap h' → RepL (fz h' W) ds vs → Q ⟨vs, []⟩ { s1 with heap := h', toks := tk' }) → wpAny (model prog w) A (evalArgs fv true args []) Q E s1)
    (hq : ∀ v h' tk', Kp s.heap h' → Rep (fz h' W) r v → Q v { s with heap := h', toks := tk' }) :
    wpAny (model prog w) A (getMethod v name pl) (fun fx s' => wpAny (model prog w) A (callWith pos fx.1 fx.2 args []) Q E s') E s := by
  have e : (asCst d).elim (callM name d ds) (fun v => O.meth v name ds) = some r := e
  cases q : asCst d with
  | none => rw [q] at e; exact callM_ok hp rd al e hk am (fun fv Q' hq' => ha fv s Q' (Kp.refl _) hq') hq
  | some v =>
    rw [q] at e
    cases asCst_inv q
    cases rd
    obtain ⟨f, first, ob, fd, hf, hfd, hg, hc⟩ := o.meth ba al e
    refine hg pl A s _ E hk am fun z h1 tk1 k1 ez => ?_
    subst ez
    refine callWith_function (o := ob) (fd := fd) (ha _ _ _ k1 fun vs h' tk' k2 rl => ⟨⟨k2 _ _ (k1 _ _ (hk _ _ hf)), hfd⟩, ?_⟩)
    exact hc vs h' ((hk.trans k1).trans k2) rl A _ Q E (Kp.refl _) am fun v h'' tk'' k3 r3 => hq v h'' tk'' ((k1.trans k2).trans k3) r3
theorem base_name {id : Str} {p pos : Pos} {name : Str} {whole : Sem Value} (h : (id != ("super" : Str)) = true) : attributeBase (.Call (.Name id p) [] [] pos) name env whole = whole := by
  delta attributeBase
  dsimp only
  rw [h]; rfl
theorem base_plain {o : Expr} {name : Str} {whole : Sem Value} (ho : notSuper o = true) : attributeBase o name env whole = whole := by
  cases o <;> first | rfl | skip
  rename_i f args kws pos
  cases f <;> first | rfl | skip
  cases args <;> first | rfl | skip
  cases kws <;> first | rfl | skip
  rename_i id p
  refine base_name ?_
  have ho : (!(id == ("super" : Str))) = true := ho
  rw [bne]; exact ho
theorem method_is {o : Expr} {name : Str} {apos pos : Pos} {args : List Expr} (ho : notSuper o = true) (hs : args.any starred = false) (hl : args.length < 30) (hp : (apos.endLine == pos.line) = true) :
    eval (.Call (.Attribute o name apos) args [] pos) env = (do
      let ov ← eval o env
      standAt apos.atName
      let (f, first) ← holding [ov] (getMethod ov name (do return (← importBound o env).getD true))
      callWith pos f first (backTo pos (starEach args env)) []) := by
  have hform : methodCallForm (args.length + 0) (backTo pos (starEach args env)) (backToKw pos (keywordEach [] env)) = true := by
    unfold methodCallForm
    have h1 : (backTo pos (starEach args env)).all (fun x => !x.1) = true := by
      have := star_plain (env := env) (pos := pos) hs
      rw [List.any_eq_false] at this
      rw [List.all_eq_true]
      intro x hx
      have := this x hx
      simpa using this
    rw [h1]
    rw [show backToKw pos (keywordEach [] env) = [] from rfl]
    simp
    exact hl
  have hmp : methodCallPos true o env apos pos = pure pos := by
    unfold methodCallPos
    rw [hp]; rfl
  show (do
    let ov ← attributeBase o name env (eval o env)
    standAt apos.atName
    methodCall o name apos pos env ov (args.length + 0) (backTo pos (starEach args env)) (backToKw pos (keywordEach [] env))) = _
  rw [base_plain ho]
  unfold methodCall
  rw [hform, hmp]
  rfl
end
end
section
structure Fra (h : Heap) (env : Env) (sc : List (Str × NameKind)) (T : List Addr) : Prop where
  ns : ∃ m, h.Ns env.locals m
  inT : env.locals ∈ T
  own : ∀ x, sc.lookup x = some .cell → ∃ c v, env.cells.lookup x = some c ∧ c ∈ T ∧ h.IsCell c v
  kinds : ∀ a ∈ T, (∃ m, h.Ns a m) ∨ ∃ v, h.IsCell a v
theorem Fra.kw {h h' : Heap} {env : Env} {sc : List (Str × NameKind)} {T X : List Addr} (k : Kk X h h') (n : ∀ a ∈ T, a ∉ X) (F : Fra h env sc T) : Fra h' env sc T where
  ns := let ⟨m, x⟩ := F.ns; ⟨m, x.at' fun o e => k _ o (n _ F.inT) e⟩
  inT := F.inT
  own := fun x e => let ⟨c, v, a, b, o, ho, d⟩ := F.own x e; ⟨c, v, a, b, o, k _ o (n _ b) ho, d⟩
  kinds := fun a m => by
    rcases F.kinds a m with ⟨m', x⟩ | ⟨v, o, ho, d⟩
    · exact .inl ⟨m', x.at' fun o e => k _ o (n _ m) e⟩
    · exact .inr ⟨v, o, k _ o (n _ m) ho, d⟩
theorem Fra.kp {h h' : Heap} {env : Env} {sc : List (Str × NameKind)} {T : List Addr} (k : Kp h h') (F : Fra h env sc T) : Fra h' env sc T := F.kw (X := []) (Kw.of k).keep fun _ _ => by simp
theorem Fra.noSeq {h : Heap} {env : Env} {sc : List (Str × NameKind)} {T : List Addr} (F : Fra h env sc T) {a : Addr} {o : Obj} {vs : Array Value} {n : Nat} (e : h.get? a = some o) (d : o.data = .seq vs n) : a ∉ T := fun m => by
  rcases F.kinds a m with ⟨m', o', es, ep, ho, hd, _⟩ | ⟨v, o', ho, hd⟩
  · first | exact dead2 (e) ho | exact dead2 ho (e) | (rw [e] at ho; cases ho); first | exact dead2 (d) hd | exact dead2 hd (d) | (rw [d] at hd; cases hd)
  · first | exact dead2 (e) ho | exact dead2 ho (e) | (rw [e] at ho; cases ho); first | exact dead2 (d) hd | exact dead2 hd (d) | (rw [d] at hd; cases hd)

theorem kw_same {a : Addr} {T : List Addr} {h h' : Heap} (s : Heap.SameBut a h h') (m : a ∈ T) (l : ∃ o, h'.get? a = some o) : Kw T h h' :=
  ⟨fun b o n e => (s.2 b (fun q => n (q ▸ m))).trans e, fun b ⟨o, e⟩ => by
    by_cases q : b = a
    · exact q ▸ l
    · exact ⟨o, (s.2 b q).trans e⟩⟩

section
variable {prog : Program} {w : World} {n : Nat} {W X T : List Addr} {h : Heap} {env : Env} {sc : List (Str × NameKind)} {σ : Vars}
theorem store_ok {M : Model} {A : Around} {E : Value → Shared → Prop} {s : Shared} {x : Str} {v : Value} {Q : Unit → Shared → Prop} (eo : EnvOK env sc) (F : Fra s.heap env sc T) (hx : sc.lookup x = some .local ∨ sc.lookup x = some .cell) (hX : ∀ a ∈ T, a ∉ X)
    (hq : ∀ h' tk', Kw T s.heap h' → Fra h' env sc T → Holds h' X env x v → (∀ y u, y ≠ x → Holds s.heap X env y u → Holds h' X env y u) → Q () { s with heap := h', toks := tk' }) :
    wpAny M A (storeName env x v) Q E s := by
  rcases hx with hx | hx
  · obtain ⟨m, hm⟩ := F.ns
    refine wpAny_storeName_local (eo.loc x hx) hm (fun h' hn hs => ?_) (by rw [eo.kind]; rfl)
    have lv : ∃ o, h'.get? env.locals = some o := let ⟨o, _, _, e, _⟩ := hn; ⟨o, e⟩
    refine hq h' _ (kw_same hs F.inT lv) ⟨⟨_, hn⟩, F.inT, fun y e => ?_, fun a ma => ?_⟩ (.inl ⟨eo.loc x hx, hX _ F.inT, _, hn, by simp⟩) fun y u ne hy => ?_
    · obtain ⟨c, v', e', mc, hc⟩ := F.own y e
      exact ⟨c, v', e', mc, hc.sameBut hs (eo.sep y c e')⟩
    · by_cases q : a = env.locals
      · exact .inl ⟨_, q ▸ hn⟩
      · rcases F.kinds a ma with ⟨m', z⟩ | ⟨v', z⟩
        · exact .inl ⟨m', z.sameBut hs q⟩
        · exact .inr ⟨v', z.sameBut hs q⟩
    · rcases hy with ⟨a, n', m', b, c⟩ | ⟨a, c, b, n', d⟩
      · have : m' y = m y := by
          obtain ⟨o, es, ep, e, hd, -, hf⟩ := b
          obtain ⟨o', es', ep', e', hd', -, hf'⟩ := hm
          first | exact dead2 (e) e' | exact dead2 e' (e) | (rw [e] at e'; cases e'); first | exact dead2 (hd) hd' | exact dead2 hd' (hd) | (rw [hd] at hd'; cases hd')
          rw [← hf y, ← hf' y]
        exact .inl ⟨a, n', _, hn, by simp only [if_neg ne]; rw [← this]; exact c⟩
      · exact .inr ⟨a, c, b, n', d.sameBut hs (eo.sep y c b)⟩
  · obtain ⟨c, v₀, hc, mc, hv⟩ := F.own x hx
    refine wpAny_storeName_cell eo.kind (eo.cel x hx) hc hv fun h' hv' hs => ?_
    have lv : ∃ o, h'.get? c = some o := let ⟨o, e, _⟩ := hv'; ⟨o, e⟩
    have hne : env.locals ≠ c := Ne.symm (eo.sep x c hc)
    refine hq h' s.toks (kw_same hs mc lv) ⟨?_, F.inT, fun y e => ?_, fun a ma => ?_⟩ (.inr ⟨.inl (eo.cel x hx), c, hc, hX _ mc, hv'⟩) fun y u ne hy => ?_
    · obtain ⟨m, hm⟩ := F.ns; exact ⟨m, hm.sameBut hs hne⟩
    · obtain ⟨c', v', e', mc', hc'⟩ := F.own y e
      by_cases q : c' = c
      · subst q; exact ⟨c', _, e', mc', hv'⟩
      · exact ⟨c', v', e', mc', hc'.sameBut hs q⟩
    · by_cases q : a = c
      · exact .inr ⟨_, q ▸ hv'⟩
      · rcases F.kinds a ma with ⟨m', z⟩ | ⟨v', z⟩
        · exact .inl ⟨m', z.sameBut hs q⟩
        · exact .inr ⟨v', z.sameBut hs q⟩
    · rcases hy with ⟨a, n', m', b, c'⟩ | ⟨a, c', b, n', d⟩
      · exact .inl ⟨a, n', m', b.sameBut hs hne, c'⟩
      · exact .inr ⟨a, c', b, n', d.sameBut hs fun q => ne (eo.apart y x c' b (q ▸ hc))⟩

theorem BRep.st {h h' : Heap} {b : B} {v : Value} (k : Kk T h h') (F : Fra h env sc T) (s : ∀ a ∈ T, a ∈ W) (p : BRep h W X b v) : BRep h' W X b v := by
  cases b with
  | val d => exact Rep.mono (fz_kw k s) p
  | own ds => obtain ⟨a, vs, n, e, g, m, n', r⟩ := p; exact ⟨a, vs, n, e, k _ _ (F.noSeq g rfl) g, m, n', RepL.mono (fz_kw k s) r⟩
theorem VarsOK.st {h h' : Heap} {x : Str} (k : Kk T h h') (F : Fra h env sc T) (s : ∀ a ∈ T, a ∈ W) (hx : σ.lookup x = none) (o : ∀ y u, y ≠ x → Holds h X env y u → Holds h' X env y u) (p : VarsOK h W X env σ) : VarsOK h' W X env σ := fun y b e => by
  obtain ⟨ok, v, a, r⟩ := p y b e
  exact ⟨ok, v, o y v (fun q => by first | exact dead2 (hx) (q ▸ e) | (rw [q, hx] at e; cases e)) a, r.st k F s⟩
theorem VarsOK.cons {x : Str} {b : B} {v : Value} (ok : okName x = true) (hv : Holds h X env x v) (r : BRep h W X b v) (p : VarsOK h W X env σ) : VarsOK h W X env ((x, b) :: σ) := fun y b' e => by
  rw [List.lookup_cons] at e
  cases q : y == x with
  | true => first | exact dead2 (q) e | exact dead2 e (q) | (rw [q] at e; cases e); rw [beq_iff_eq.mp q]; exact ⟨ok, v, hv, r⟩
  | false => rw [q] at e; exact p y b' e
theorem VarsOK.tail {x : Str} {b : B} (hx : σ.lookup x = none) (p : VarsOK h W X env ((x, b) :: σ)) : VarsOK h W X env σ := fun y b' e => p y b' (by
  rw [List.lookup_cons]
  cases q : y == x with
  | true => rw [beq_iff_eq.mp q, hx] at e; cases e
  | false => exact e)

noncomputable abbrev testsT (env : Env) (ifs : List Expr) : Sem Bool := forIn ifs true fun c r => if r = true then do let ok ← isTrue c env (eval c env); pure (ForInStep.yield ok) else pure (ForInStep.yield r)
theorem ifs_no {M : Model} {A : Around} {E : Value → Shared → Prop} {Q : Bool → Shared → Prop} : ∀ {ifs : List Expr} {s : Shared}, Q false s →
    wpAny M A (forIn ifs false fun c r => if r = true then do let ok ← isTrue c env (eval c env); pure (ForInStep.yield ok) else pure (ForInStep.yield r)) Q E s
  | [], s, q => by rw [List.forIn_nil]; exact wpAny_pure q
  | c :: r, s, q => by
    rw [List.forIn_cons]
    simp only [Bool.false_eq_true, if_false]
    exact wpAny_bind (wpAny_pure (ifs_no q))
theorem ifs_ok {f : Expr → Option Bool} : ∀ {ifs : List Expr} {b : Bool} {h : Heap}, (∀ e ∈ ifs, ∀ b h', Kp h h' → f e = some b → GvB prog w n W (isTrue e env (eval e env)) b h') → ifsD f ifs = some b → GvB prog w n W (testsT env ifs) b h
  | [], b, h, _, e => by
    first | with_reducible exact ns e | cases e
    intro A s Q E hk am hq
    unfold testsT
    rw [List.forIn_nil]
    exact wpAny_pure (hq _ s.heap s.toks (Kp.refl _) rfl)
  | c :: r, b, h, hf, e => by
    obtain ⟨c', h1, e⟩ := bind_inv e
    intro A s Q E hk am hq
    unfold testsT
    rw [List.forIn_cons, if_pos rfl]
    refine wpAny_bind (wpAny_bind (hf c List.mem_cons_self c' h (Kp.refl _) h1 A s _ E hk am fun ok h' tk' k1 r1 => ?_))
    subst r1
    refine wpAny_pure ?_
    cases ok with
    | true => exact ifs_ok (h := h) (fun e' m b' h'' k e1 => hf e' (List.mem_cons_of_mem _ m) b' h'' k e1) e A _ Q E (hk.trans k1) am fun a h'' tk'' k2 r2 => hq a h'' tk'' (k1.trans k2) r2
    | false =>
      have e : false = b := Option.some.inj e
      subst e
      exact ifs_no (hq _ h' tk' k1 rfl)

theorem folded_ok {e : Expr} {x : Value} (hp : plainSrc e = true) : foldedSetIterable e env x = pure x := by
  cases e <;> first | rfl | exact (Bool.false_ne_true hp).elim
theorem lots_name {x : Str} {p : Pos} {it v : Value} : letOwnedTupleGo (.Name x p) it v = pure () := rfl
theorem turn_is {elt : Expr} {gens : List Comprehension} {scope : Scope} {pos : Pos} {depth : Nat} {it acc : Value} {g : Comprehension} (hg : gens[depth]? = some g) (ha : g.is_async = 0) :
    compTurn (.ListComp elt gens scope pos) depth it acc env = (do
      standAt g.iter.pos
      match ← pyNext it with
      | none => pure (.done .next)
      | some v => do
        letOwnedTupleGo g.target it v
        assign g.target env v
        let ok ← testsT env g.ifs
        if ok = true then
          match gens[depth + 1]? with
          | some g' => do
            let x ← eval g'.iter env
            standAt g'.iter.pos
            if (g'.is_async != 0) = true then do
              let x ← foldedIterable g'.iter x
              let it' ← holding [x] (if (g'.is_async != 0) = true then asyncIter x else pyIter x)
              let _ ← runOwn (Code.compStart (elt.ListComp gens scope pos) (depth + 1) it' acc env) env
              again (Code.compLoop (elt.ListComp gens scope pos) depth it acc env)
            else do
              let x ← foldedSetIterable g'.iter env x
              let it' ← holding [x] (if (g'.is_async != 0) = true then asyncIter x else pyIter x)
              let _ ← runOwn (Code.compStart (elt.ListComp gens scope pos) (depth + 1) it' acc env) env
              again (Code.compLoop (elt.ListComp gens scope pos) depth it acc env)
          | none => do
            (do
              let y ← eval elt env
              let _ ← call (.builtin "list.append") [acc, y]
              pure ())
            again (Code.compLoop (elt.ListComp gens scope pos) depth it acc env)
        else again (Code.compLoop (elt.ListComp gens scope pos) depth it acc env)) := by
  unfold compTurn
  dsimp only
  rw [hg]
  dsimp only
  rw [ha]
  rfl

theorem start_ok {elt : Expr} {gens : List Comprehension} {scope : Scope} {pos : Pos} {depth : Nat} {it acc : Value} {g : Comprehension} {A : Around} {s : Shared} {R : Result → Shared → Prop} (hg : gens[depth]? = some g) (ha : g.is_async = 0)
    (h0 : codeAny (model prog w) A (.compLoop (.ListComp elt gens scope pos) depth it acc env) R s)
    (h1 : ∀ E, wpAny (model prog w) A (pyIter it) (fun it' s' => it' = it ∧ s' = s) E s) :
    codeAny (model prog w) A (.compStart (.ListComp elt gens scope pos) depth it acc env) R s := by
  refine codeAny_of_tree ?_
  have e0 : A.under (.compStart (.ListComp elt gens scope pos) depth it acc env) = A := Around.under_of_weight rfl
  rw [e0]
  have e1 : (model prog w).den (.compStart (.ListComp elt gens scope pos) depth it acc env) = (compStart (.ListComp elt gens scope pos) depth it acc env).onRaise (fun x => do noteFrame x env; standAt theWindowsPlace) := rfl
  rw [e1]
  refine wpAny_notedAt ?_
  unfold compStart
  have e2 : ((clausesOf (.ListComp elt gens scope pos))[depth]?) = some g := hg
  rw [e2]
  simp only [Option.elim, ha, bne_self_eq_false, Bool.false_eq_true, if_false]
  refine wpAny_bind (wpAny_askSetting (wpAny_ite ?_))
  split
  · exact wpAny_pure (And.intro rfl h0)
  · refine wpAny_bind (wpAny_rule (wpAny_bind (wpAny_standAt (wpAny_bind (wpAny_mono (h1 _) (fun it' s' h' => ?_) fun _ _ x => x)))))
    obtain ⟨rfl, rfl⟩ := h'
    exact wpAny_pure (And.intro rfl h0)
end
end
section
section
variable {prog : Program} {w : World} {n : Nat} {Base : Heap → List Addr → Prop} {O : Orc}

noncomputable def PE (prog : Program) (w : World) (n : Nat) (Base : Heap → List Addr → Prop) (O : Orc) (k : Nat) : Prop :=
  ∀ sc σ e d, evE O k sc σ e = some d → ∀ env h W X, EnvOK env sc → CellsAl h env → VarsOK h W X env σ → Al W h → Base h W → (∀ a ∈ X, a ∈ W) → Gv prog w n W (eval e env) d h
noncomputable def PT (prog : Program) (w : World) (n : Nat) (Base : Heap → List Addr → Prop) (O : Orc) (k : Nat) : Prop :=
  ∀ sc σ e b, evT O k sc σ e = some b → ∀ env h W X, EnvOK env sc → CellsAl h env → VarsOK h W X env σ → Al W h → Base h W → (∀ a ∈ X, a ∈ W) → GvB prog w n W (isTrue e env (eval e env)) b h
noncomputable def CL (prog : Program) (w : World) (n : Nat) (Base : Heap → List Addr → Prop) (sc : List (Str × NameKind)) (σ : Vars) (elt : Expr) (g : Comprehension) (gs : List Comprehension) (ds : List D) (cap : Nat) (Fin : Heap → Heap → List Addr → List Value → Prop) : Prop :=
  ∀ env T W X D I fp P St A s ys gens depth scope pos R,
    gens.drop depth = g :: gs → g.is_async = 0 → EnvOK env sc → CellsAl s.heap env → Fra s.heap env sc T → Amb A n → Al W s.heap → Base s.heap W → (∀ a ∈ X, a ∈ W) → (∀ a ∈ T, a ∈ W) → (∀ a ∈ T, a ∉ X) → I ∈ X → D ∈ X → I ≠ D →
    VarsOK s.heap W X env σ → (∀ A : Around, A.handled = none → Walks prog w A I fp [I] ds.length P St) → St 0 s.heap → (∀ i h, St i h → ∃ o, h.get? I = some o) → (∀ b ∈ fp, b = I ∨ (b ∉ T ∧ b ∉ X)) →
    (∀ i v, P i v → ∃ d, ds[i]? = some d ∧ Rep (fz s.heap W) d v) → s.heap.PlainList D (List.toArray ys) → ys.length + cap ≤ 1048576 →
    (∀ h' tk' ys', Kk (I :: D :: T) s.heap h' → (∀ b, b ≠ I → (∃ o, s.heap.get? b = some o) → ∃ o, h'.get? b = some o) → Fra h' env sc T → VarsOK h' W X env σ → h'.PlainList D (List.toArray (ys ++ ys')) → Fin s.heap h' W ys' → R (.ok .next) { s with heap := h', toks := tk' }) →
    codeAny (model prog w) A (.compLoop (.ListComp elt gens scope pos) depth (.ref I) (.ref D) env) R s
noncomputable def PC (prog : Program) (w : World) (n : Nat) (Base : Heap → List Addr → Prop) (O : Orc) (k : Nat) : Prop :=
  ∀ sc σ elt g gs ds es, evC O k sc σ elt g gs ds = some es → CL prog w n Base sc σ elt g gs ds es.length fun _ h' W ys' => RepL (fz h' W) es ys'
theorem drop_cons {α : Type} {l : List α} {i : Nat} {d : α} (e : l[i]? = some d) : l.drop i = d :: l.drop (i + 1) := by
  obtain ⟨h, rfl⟩ := List.getElem?_eq_some_iff.mp e
  exact List.drop_eq_getElem_cons h

noncomputable def RestW (prog : Program) (w : World) (A : Around) (env : Env) (elt : Expr) (gens : List Comprehension) (scope : Scope) (pos : Pos) (depth : Nat) (acc : Value) (K : Shared → Prop) (E : Value → Shared → Prop) (s : Shared) : Prop :=
  match gens[depth + 1]? with
  | some g' => g'.is_async = 0 ∧ plainSrc g'.iter = true ∧ wpAny (model prog w) A (eval g'.iter env) (fun x s1 => wpAny (model prog w) A (pyIter x) (fun it' s2 =>
      codeAny (model prog w) (A.mark none) (.compStart (.ListComp elt gens scope pos) (depth + 1) it' acc env) (fun r s' => match r with | .ok _ => K s' | .error e => cameBackBy (model prog w) A env E e s') s2) E s1) E s
  | none => wpAny (model prog w) A (eval elt env) (fun y s1 => wpAny (model prog w) A (call (.builtin "list.append") [acc, y]) (fun _ s2 => K s2) E s1) E s
theorem comploop_rule {A : Around} {env : Env} {elt : Expr} {gens : List Comprehension} {scope : Scope} {pos p : Pos} {depth : Nat} {I D : Addr} {x : Str} {gi : Expr} {ifs : List Expr} {R : Result → Shared → Prop} (hg : gens[depth]? = some ⟨.Name x p, gi, ifs, 0⟩) (J : Nat → Shared → Prop)
    (turn : ∀ m s, J m s → ∀ Qf : Fin → Shared → Prop, (∀ m' s', m' < m → J m' s' → Qf (.again (.compLoop (.ListComp elt gens scope pos) depth (.ref I) (.ref D) env)) s') → (∀ s', R (.ok .next) s' → Qf (.done .next) s') →
      ∀ E1 E2, wpAny (model prog w) A (pyNext (.ref I)) (fun r s1 => (r = none ∧ Qf (.done .next) s1) ∨ ∃ v, r = some v ∧ wpAny (model prog w) A (storeName env x v) (fun _ s2 => wpAny (model prog w) A (testsT env ifs)
        (fun ok s3 => (ok = false ∧ Qf (.again (.compLoop (.ListComp elt gens scope pos) depth (.ref I) (.ref D) env)) s3) ∨ (ok = true ∧ RestW prog w A env elt gens scope pos depth (.ref D) (Qf (.again (.compLoop (.ListComp elt gens scope pos) depth (.ref I) (.ref D) env))) E2 s3)) E2 s2) E2 s1) E1 s)
    {m : Nat} {s : Shared} (h : J m s) : codeAny (model prog w) A (.compLoop (.ListComp elt gens scope pos) depth (.ref I) (.ref D) env) R s := by
  refine codeAny_loop rfl J (fun m s hI => ?_) m h
  have e0 : A.under (.compLoop (.ListComp elt gens scope pos) depth (.ref I) (.ref D) env) = A := Around.under_of_weight rfl
  rw [e0]
  have e1 : (model prog w).den (.compLoop (.ListComp elt gens scope pos) depth (.ref I) (.ref D) env) = (compTurn (.ListComp elt gens scope pos) depth (.ref I) (.ref D) env).onRaise (fun x => do noteFrame x env; theTreesLotGoes x) := rfl
  rw [e1]
  refine hide fun Q' E' hQ _ => wpAny_noted ?_
  rw [turn_is hg rfl]
  refine wpAny_bind (wpAny_standAt (wpAny_bind ?_))
  refine wpAny_mono (turn m s hI Q' (fun m' s' hlt h => hQ _ _ ⟨rfl, m', hlt, h⟩) (fun s' h => hQ _ _ h) _ (notedBy (model prog w) A env E')) (fun r s1 h => ?_) fun _ _ e => e
  rcases h with ⟨rfl, h⟩ | ⟨v, rfl, h⟩
  · exact wpAny_pure h
  show wpAny _ _ (letOwnedTupleGo (.Name x p) (.ref I) v >>= _) _ _ _
  rw [lots_name]
  refine wpAny_bind (wpAny_pure (wpAny_bind (wpAny_assign_Name (wpAny_mono h (fun _ s2 h => wpAny_bind (wpAny_mono h (fun ok s3 h => ?_) fun _ _ e => e)) fun _ _ e => e))))
  rcases h with ⟨rfl, h⟩ | ⟨rfl, h⟩
  · exact wpAny_pure h
  show wpAny _ _ (match gens[depth + 1]? with | some g' => _ | none => _) _ _ _
  unfold RestW at h
  cases e : gens[depth + 1]? with
  | none =>
    rw [e] at h
    exact wpAny_bind (wpAny_bind (wpAny_mono h (fun y s1 h => wpAny_bind (wpAny_mono h (fun _ s2 h => wpAny_pure (wpAny_pure h)) fun _ _ e => e)) fun _ _ e => e))
  | some g' =>
    rw [e] at h
    obtain ⟨ha, hp, h⟩ := h
    refine wpAny_bind (wpAny_mono h (fun y s1 h => wpAny_bind (wpAny_standAt ?_)) fun _ _ e => e)
    have hna : (g'.is_async != 0) = false := by rw [ha]; rfl
    rw [hna]
    refine wpAny_bind (wpAny_of_eq (folded_ok hp) (wpAny_bind (wpAny_holding (wpAny_mono h (fun it' s2 h => wpAny_bind (wpAny_runOwn (codeAny_mono h fun r s' h => ?_))) fun _ _ e => e))))
    cases r with
    | ok f => exact wpAny_pure h
    | error x => exact h
inductive CInv (env : Env) (sc : List (Str × NameKind)) (σ : Vars) (T W X : List Addr) (D I : Addr) (N : Nat) (St : Nat → Heap → Prop) (ys : List Value) (RR : Nat → Heap → List Value → Prop) (s0 : Shared) : Nat → Shared → Prop
  | mk (i : Nat) (h' : Heap) (tk' : Nat) (ys' : List Value) (hi : i ≤ N) (hst : St i h') (kw : Kw (I :: D :: T) s0.heap h') (F : Fra h' env sc T) (vo : VarsOK h' W X env σ) (hD : h'.PlainList D (List.toArray (ys ++ ys'))) (r : RR i h' ys') :
    CInv env sc σ T W X D I N St ys RR s0 (N + 1 - i) { s0 with heap := h', toks := tk' }
theorem comp_g (o : OrcOK prog w n Base O) {sc : List (Str × NameKind)} {σ : Vars} {elt : Expr} {x : Str} {p : Pos} {gi : Expr} {ifs : List Expr} {gs : List Comprehension} {ds : List D} {cap : Nat} {Fin : Heap → Heap → List Addr → List Value → Prop} {RR : Heap → List Addr → Nat → Heap → List Value → Prop}
    (hx : σ.lookup x = none) (okx : okName x = true) (hxs : sc.lookup x = some .local ∨ sc.lookup x = some .cell)
    (stab : ∀ hs W L i h h' ys, Al W hs → (∀ a ∈ L, a ∈ W) → Kk L h h' → RR hs W i h ys → RR hs W i h' ys) (start : ∀ hs W, RR hs W 0 hs []) (fin : ∀ hs W h ys, RR hs W ds.length h ys → Fin hs h W ys)
    (turn : ∀ env T W X D (_ : Addr) A (s : Shared) (ys : List Value) gens depth scope pos, gens.drop depth = ⟨.Name x p, gi, ifs, 0⟩ :: gs → EnvOK env sc → CellsAl s.heap env → Amb A n → Al W s.heap → Base s.heap W → (∀ a ∈ X, a ∈ W) → (∀ a ∈ T, a ∈ W) → (∀ a ∈ T, a ∉ X) → D ∈ X → ys.length + cap ≤ 1048576 →
      ∀ i d h2 tk2 ys' {K : Shared → Prop} {E : Value → Shared → Prop}, i < ds.length → ds[i]? = some d → Kw W s.heap h2 → (∀ a, (∃ ob, s.heap.get? a = some ob) → ∃ ob, h2.get? a = some ob) → Fra h2 env sc T → VarsOK h2 W X env σ → VarsOK h2 W X env ((x, .val d) :: σ) → h2.PlainList D (List.toArray (ys ++ ys')) → RR s.heap W i h2 ys' →
      (∀ h5 tk5 ys5, Kw (D :: T) h2 h5 → Fra h5 env sc T → VarsOK h5 W X env σ → h5.PlainList D (List.toArray (ys ++ ys5)) → RR s.heap W (i + 1) h5 ys5 → K { s with heap := h5, toks := tk5 }) →
      wpAny (model prog w) A (testsT env ifs) (fun ok s3 => (ok = false ∧ K s3) ∨ (ok = true ∧ RestW prog w A env elt gens scope pos depth (.ref D) K E s3)) E { s with heap := h2, toks := tk2 }) :
    CL prog w n Base sc σ elt ⟨.Name x p, gi, ifs, 0⟩ gs ds cap Fin := by
  intro env T W X D I fp P St A s ys gens depth scope pos R hd hasy eo cal F am al ba hXW hTW hTX hIX hDX hID vo wk hst hlive hfp hP hD hlen hR
  have wk := wk A am.hd
  have hg : gens[depth]? = some ⟨.Name x p, gi, ifs, 0⟩ := by
    have := congrArg (fun l => l[0]?) hd
    simpa using this
  have hIT : I ∉ T := fun m => hTX _ m hIX
  have sDTW : ∀ a ∈ D :: T, a ∈ W := fun a m => (List.mem_cons.mp m).elim (fun q => q ▸ hXW _ hDX) (hTW a)
  have sIW : ∀ a ∈ I :: D :: T, a ∈ W := fun a m => (List.mem_cons.mp m).elim (fun q => q ▸ hXW _ hIX) (sDTW a)
  refine comploop_rule hg (CInv env sc σ T W X D I ds.length St ys (RR s.heap W) s) (fun m s' hI Qf again_ done_ E1 E2 => ?_) (.mk 0 s.heap s.toks [] (Nat.zero_le _) hst Kw.refl F vo (by rw [List.append_nil]; exact hD) (start _ _))
  cases hI with
  | mk i h' tk' ys' hi hst' kw F' vo' hD' r' =>
  by_cases hlt : i < ds.length
  · refine wk.item i _ _ _ hlt hst' fun v h1 tk1 hv st1 kk1 => .inr ⟨v, rfl, ?_⟩
    have kI : Kw [I] h' h1 := ⟨kk1, fun b ⟨o, e⟩ => by
      by_cases q : b ∈ [I]
      · rw [List.mem_singleton.mp q]; exact hlive _ _ st1
      · exact ⟨o, kk1 b o q e⟩⟩
    obtain ⟨d, hdi, rd⟩ := hP i v hv
    have kw1 : Kw (I :: D :: T) s.heap h1 := kw.trans (kI.less fun a m => sing List.mem_cons_self m)
    have kIX : Kw X h' h1 := kI.less fun a m => sing hIX m
    have F1 : Fra h1 env sc T := F'.kw kIX.keep hTX
    refine store_ok eo F1 hxs hTX fun h2 tk2 k2 F2 hv2 ho2 => ?_
    have kw2 : Kw (I :: D :: T) s.heap h2 := kw1.trans (k2.less fun a m => List.mem_cons_of_mem _ (List.mem_cons_of_mem _ m))
    have vo2 : VarsOK h2 W X env σ := (vo'.kw kIX.keep hXW).st k2.keep F1 hTW hx ho2
    have frameT : ∀ {ha hb : Heap} {j : Nat}, Kk (D :: T) ha hb → St j ha → St j hb := fun {ha hb j} kk st => wk.frame _ _ _ st fun b hb o e => kk b o (fun m => (hfp b hb).elim (fun q => (List.mem_cons.mp m).elim (fun z => hID (q.symm.trans z)) fun z => hIT (q ▸ z)) fun q => (List.mem_cons.mp m).elim (fun z => q.2 (z ▸ hDX)) q.1) e
    have st2 : St (i + 1) h2 := frameT (k2.less fun a m => List.mem_cons_of_mem _ m).keep st1
    have hD2 : h2.PlainList D (List.toArray (ys ++ ys')) := let ⟨q, z⟩ := hD'; ⟨q, k2.keep _ _ (fun m => hTX _ m hDX) (kI.keep _ _ (fun m => hID (List.mem_singleton.mp m).symm) z)⟩
    refine turn env T W X D I A s ys gens depth scope pos hd eo cal am al ba hXW hTW hTX hDX hlen i d h2 tk2 ys' hlt hdi (kw2.less sIW) kw2.live F2 vo2 (vo2.cons okx hv2 (Rep.mono (fz_kw kw2.keep sIW) rd)) hD2
      (stab _ _ _ _ _ _ _ al hTW k2.keep (stab _ _ _ _ _ _ _ al (fun a m => sing (hXW _ hIX) m) kI.keep r')) fun h5 tk5 ys5 k5 F5 vo5 hD5 r5 => ?_
    exact again_ _ _ (by (first | lia | omega)) (.mk (i + 1) h5 tk5 ys5 hlt (frameT k5.keep st2) (kw2.trans (k5.less fun a m => List.mem_cons_of_mem _ m)) F5 vo5 hD5 r5)
  · have hin : i = ds.length := Nat.le_antisymm hi (Nat.le_of_not_lt hlt)
    subst hin
    refine wk.done _ _ _ hst' fun h1 tk1 kk1 => .inl ⟨rfl, done_ _ ?_⟩
    have kIX : Kk X h' h1 := fun b o n e => kk1 b o (fun q => n (sing hIX q)) e
    refine hR h1 tk1 ys' (fun b o n e => kk1 b o (fun q => n (sing List.mem_cons_self q)) (kw.keep b o n e)) (fun b n e => ?_) (F'.kw kIX hTX) (vo'.kw kIX hXW) ?_ (fin _ _ _ _ (stab _ _ _ _ _ _ _ al (fun a m => sing (hXW _ hIX) m) kk1 r'))
    · obtain ⟨o, e⟩ := kw.live b e
      exact ⟨o, kk1 b o (fun m => n (List.mem_singleton.mp m)) e⟩
    · obtain ⟨q, z⟩ := hD'
      exact ⟨q, kk1 _ _ (fun m => hID (List.mem_singleton.mp m).symm) z⟩
theorem evC_inv {k : Nat} {sc : List (Str × NameKind)} {σ : Vars} {elt t gi : Expr} {ifs : List Expr} {as : Int} {gs : List Comprehension} {ds es : List D} (e : evC O (k + 1) sc σ elt ⟨t, gi, ifs, as⟩ gs ds = some es) : ∃ x p, t = .Name x p ∧ σ.lookup x = none ∧ okName x = true ∧ (sc.lookup x = some .local ∨ sc.lookup x = some .cell) ∧
    catD (fun d => oneD (evT O k sc ((x, .val d) :: σ)) (evE O k sc ((x, .val d) :: σ)) (evC O k sc ((x, .val d) :: σ) elt) elt ifs gs) ds = some es := by
  cases t <;> first | exact ns e | skip
  rename_i x p
  have e : (if _ then _ else none) = some es := e
  by_cases hc : ((σ.lookup x).isNone && okName x && (sc.lookup x == some .local || sc.lookup x == some .cell)) = true
  · refine ⟨x, p, rfl, ?_⟩
    have e := (if_pos hc).symm.trans e
    simp only [Bool.and_eq_true, Bool.or_eq_true, beq_iff_eq, Option.isNone_iff_eq_none] at hc
    exact ⟨hc.1.1, hc.1.2, hc.2, e⟩
  · exact ns ((if_neg hc).symm.trans e)
theorem catD_inv {f : D → Option (List D)} {d : D} {ds es : List D} (h : catD f (d :: ds) = some es) : ∃ a b, f d = some a ∧ catD f ds = some b ∧ es = a ++ b := by
  obtain ⟨a, ha, h⟩ := bind_inv h
  obtain ⟨b, hb, h⟩ := bind_inv h
  exact ⟨a, b, ha, hb, (Option.some.inj h).symm⟩
theorem oneD_inv {fT : Expr → Option Bool} {fE : Expr → Option D} {fC : Comprehension → List Comprehension → List D → Option (List D)} {elt : Expr} {ifs : List Expr} {gs : List Comprehension} {es : List D} (h : oneD fT fE fC elt ifs gs = some es) : (ifsD fT ifs = some false ∧ es = []) ∨ (ifsD fT ifs = some true ∧
    (gs = [] ∧ ∃ d, fE elt = some d ∧ es = [d])) := by
  obtain ⟨c, hc, h⟩ := bind_inv h
  cases c with
  | false => exact .inl ⟨hc, (Option.some.inj h).symm⟩
  | true =>
    refine .inr ⟨hc, ?_⟩
    cases gs with
    | nil =>
      obtain ⟨d, hd, h⟩ := bind_inv (show (fE elt).bind _ = some es from h)
      exact ⟨rfl, d, hd, (Option.some.inj h).symm⟩
    | cons g' gs' => exact ns (show (none : Option (List D)) = some es from h)
theorem pc_step (o : OrcOK prog w n Base O) {k : Nat} (hE : PE prog w n Base O k) (hT : PT prog w n Base O k) (hC : PC prog w n Base O k) : PC prog w n Base O (k + 1) := by
  intro sc σ elt g gs ds es e
  obtain ⟨gt, giter, ifs, gasync⟩ := g
  obtain ⟨x, p, rfl, hx, okx, hxs, ec⟩ := evC_inv e
  by_cases hga : gasync = 0
  case neg => intro env T W X D I fp P St A s ys gens depth scope pos R hd hasy; exact absurd hasy hga
  subst hga
  generalize hf : (fun d => oneD (evT O k sc ((x, .val d) :: σ)) (evE O k sc ((x, .val d) :: σ)) (evC O k sc ((x, .val d) :: σ) elt) elt ifs gs) = f at ec
  refine comp_g o (RR := fun _ W i h ys' => ∃ es' rest, RepL (fz h W) es' ys' ∧ catD f (ds.drop i) = some rest ∧ es = es' ++ rest) hx okx hxs
    (fun hs W L i h h' ys al sL kk ⟨es', rest, r, q⟩ => ⟨es', rest, RepL.mono (fz_kw kk sL) r, q⟩) (fun hs W => ⟨[], es, rfl, ec, rfl⟩) (fun hs W h ys ⟨es', rest, r, c, q⟩ => ?_) ?_
  · rw [List.drop_length] at c
    first | with_reducible exact ns c | cases c
    rw [q, List.append_nil]; exact r
  intro env T W X D I A s ys gens depth scope pos hd eo cal am al ba hXW hTW hTX hDX hlen i d h2 tk2 ys' K E hlt hdi kw2 lv2 F2 vo2 vo2' hD2 hr hK
  obtain ⟨es', rest, r2, hc, hes⟩ := hr
  rw [drop_cons hdi] at hc
  obtain ⟨a, b, ha, hb, rfl⟩ := catD_inv hc
  rw [← hf] at ha
  have al2 : Al W h2 := al.kw kw2
  have cal2 : CellsAl h2 env := cal.kw kw2
  have ba2 : Base h2 W := o.up ba kw2.keep fun a m => .inl m
  have hgs : gens.drop (depth + 1) = gs := by
    have : (gens.drop depth).drop 1 = gs := by rw [hd]; rfl
    rw [← this, List.drop_drop]
  have hnx : gens[depth + 1]? = gs[0]? := by
    have := congrArg (fun l => l[0]?) hgs
    simpa using this
  have hl : ys.length + (ys'.length + (a.length + b.length)) ≤ 1048576 := by
    have h1 := r2.length
    have : es.length = es'.length + (a.length + b.length) := by rw [hes, List.length_append, List.length_append]
    (first | lia | omega)
  have hes2 : es = (es' ++ a) ++ b := by rw [List.append_assoc]; exact hes
  rcases oneD_inv ha with ⟨hfalse, rfl⟩ | ⟨htrue, hcase⟩
  · refine ifs_ok (fun e' _ b' h'' k' he' => hT sc _ e' b' he' env h'' W X eo (cal2.kw (Kw.of k' (X := []))) (vo2'.mono k') (al2.mono k') (o.keep ba2 k') hXW) hfalse A _ _ _ (Kp.refl _) am fun ok h3 tk3 k3 r3 => .inl ⟨r3, ?_⟩
    exact hK h3 tk3 ys' (Kw.of k3) (F2.kp k3) (vo2.mono k3) (let ⟨q, z⟩ := hD2; ⟨q, k3 _ _ z⟩) ⟨_, b, by rw [List.append_nil]; exact RepL.mono (fz_mono k3) r2, hb, hes2⟩
  · refine ifs_ok (fun e' _ b' h'' k' he' => hT sc _ e' b' he' env h'' W X eo (cal2.kw (Kw.of k' (X := []))) (vo2'.mono k') (al2.mono k') (o.keep ba2 k') hXW) htrue A _ _ _ (Kp.refl _) am fun ok h3 tk3 k3 r3 => .inr ⟨r3, ?_⟩
    have vo3 := vo2'.mono k3
    have al3 := al2.mono k3
    have ba3 := o.keep ba2 k3
    have cal3 : CellsAl h3 env := cal2.kw (Kw.of k3 (X := []))
    have hD3 : h3.PlainList D (List.toArray (ys ++ ys')) := let ⟨q, z⟩ := hD2; ⟨q, k3 _ _ z⟩
    have r3' := RepL.mono (fz_mono k3) r2
    unfold RestW
    rw [hnx]
    obtain ⟨rfl, dv, hdv, rfl⟩ := hcase
    · refine hE sc _ elt dv hdv env h3 W X eo cal3 vo3 al3 ba3 hXW A _ _ _ (Kp.refl _) am fun y h4 tk4 k4 r4 => ?_
      have hD4 : h4.PlainList D (List.toArray (ys ++ ys')) := let ⟨q, z⟩ := hD3; ⟨q, k4 _ _ z⟩
      refine wpAny_list_append_plain (hsz := by rw [List.size_toArray, List.length_append, sizeLine_eq]; simp at hl; (first | lia | omega)) hD4 fun h5 hD5 hs5 => ?_
      have k5 : Kw [D] h4 h5 := kw_same hs5 List.mem_cons_self (let ⟨q, z⟩ := hD5; ⟨_, z⟩)
      have k5X : Kw X h4 h5 := k5.less fun a m => sing hDX m
      refine hK h5 _ (ys' ++ [y]) ((Kw.of (k3.trans k4)).trans (k5.less fun a m => sing List.mem_cons_self m)) ((F2.kp (k3.trans k4)).kw k5X.keep hTX) ((vo2.mono (k3.trans k4)).kw k5X.keep hXW) ?_ ⟨_, b, RepL.append (RepL.mono (fz_kw k5X.keep hXW) (RepL.mono (fz_mono k4) r3')) (RepL.one (Rep.mono (fz_kw k5X.keep hXW) r4)), hb, hes2⟩
      have : List.toArray (ys ++ (ys' ++ [y])) = (List.toArray (ys ++ ys')).push y := by simp
      rw [this]; exact hD5
end
end
section
theorem lookup_app {α : Type} (x : Str) : ∀ (a b : List (Str × α)), (a ++ b).lookup x = match a.lookup x with | some c => some c | none => b.lookup x
  | [], b => rfl
  | (k, v) :: r, b => by
    rw [List.cons_append, List.lookup_cons, List.lookup_cons]
    cases x == k
    · exact lookup_app x r b
    · rfl
theorem cellsFrom_app : ∀ (names : List (Str × NameKind)) (n : Nat) (acc : List (Str × Addr)), cellsFrom n names acc = cellsFrom n names [] ++ acc
  | [], n, acc => rfl
  | (name, kind) :: r, n, acc => by
    unfold cellsFrom
    split
    · rw [cellsFrom_app r (n + 1) ((name, n) :: acc), cellsFrom_app r (n + 1) [(name, n)], List.append_assoc]; rfl
    · exact cellsFrom_app r n acc
theorem lookup_none {x : Str} : ∀ {l : List (Str × NameKind)}, (l.map (·.1)).contains x = false → l.lookup x = none
  | [], _ => rfl
  | (k, v) :: r, h => by
    rw [List.map_cons, List.contains_cons, Bool.or_eq_false_iff] at h
    rw [List.lookup_cons, h.1]; exact lookup_none h.2
theorem nodupS_inv {x : Str} {r : List Str} (h : nodupS (x :: r) = true) : r.contains x = false ∧ nodupS r = true :=
  have h := (Bool.and_eq_true _ _).mp (show (!(r.contains x) && nodupS r) = true from h)
  ⟨(Bool.not_eq_true' _).mp h.1, h.2⟩
theorem cells_of_names (x : Str) : ∀ {names : List (Str × NameKind)} (n : Nat), nodupS (names.map (·.1)) = true →
    (names.lookup x = some .cell → ∃ c, (cellsFrom n names []).lookup x = some c) ∧ (names.lookup x ≠ some .cell → (cellsFrom n names []).lookup x = none)
  | [], n, _ => ⟨fun h => by simp at h, fun _ => rfl⟩
  | (name, kind) :: r, n, hd => by
    have hd := nodupS_inv hd
    have hn := lookup_none hd.1
    unfold cellsFrom
    cases hk : kind == NameKind.cell with
    | true =>
      simp only [if_true]
      rw [cellsFrom_app, lookup_app]
      have ih := cells_of_names x (names := r) (n + 1) hd.2
      rw [List.lookup_cons]
      cases q : x == name with
      | true =>
        have := beq_iff_eq.mp q
        subst this
        have e1 := ih.2 (by rw [hn]; simp)
        rw [e1]
        refine ⟨fun _ => ⟨n, by simp [List.lookup_cons]⟩, fun h => ?_⟩
        exact absurd (by rw [beq_iff_eq.mp hk]) h
      | false =>
        first | dsimp only | simp only
        refine ⟨fun h => ?_, fun h => ?_⟩
        · obtain ⟨c, e⟩ := ih.1 h; exact ⟨c, by rw [e]⟩
        · rw [ih.2 h]; simp [List.lookup_cons, q]
    | false =>
      simp only [Bool.false_eq_true, if_false]
      have ih := cells_of_names x (names := r) n hd.2
      rw [List.lookup_cons]
      cases q : x == name with
      | true =>
        have := beq_iff_eq.mp q
        subst this
        first | dsimp only | simp only
        refine ⟨fun h => ?_, fun _ => ih.2 (by rw [hn]; simp)⟩
        cases h; simp at hk
      | false => exact ih
section
variable {M : Model} {A : Around} {E : Value → Shared → Prop} {s : Shared} {env : Env}
theorem nfe {scope : Scope} {globals : Addr} {cl : List (Str × Addr)} {qual : Str} {Q : Env → Shared → Prop}
    (hq : Q (newEnv scope s.heap.objs.size globals (cellsFrom (s.heap.objs.size + 1) scope.names [] ++ cl) qual none .none (some env) builtinsNs) { s with heap := pushCells (s.heap.push { cls := .type "dict", data := .dict #[] }) scope.names }) :
    wpAny M A (newFunctionEnv scope globals cl [] qual none .none (some env)) Q E s := by
  simp only [newFunctionEnv, Option.isSome_some, if_true]
  refine wpAny_bind (wpAny_alloc ?_)
  refine wpAny_bind (wpAny_layCells _ (fun name kind cells => by cases hkc : kind == NameKind.cell <;> simp [hkc]) _ _ _ _ ?_)
  rw [show ({ s with heap := s.heap.push { cls := .type "dict", data := .dict #[] } } : Shared).heap.objs.size = s.heap.objs.size + 1 from Heap.size_push ..]
  rw [cellsFrom_app]
  simp only [List.forIn_nil]
  exact wpAny_bind (wpAny_pure (wpAny_pure hq))

noncomputable def clF (env : Env) : List (Str × NameKind) → List (Str × Addr) → List (Str × Addr)
  | [], acc => acc
  | (x, k) :: r, acc => if k == .free then clF env r ((x, (env.cells.lookup x).getD 0) :: acc) else clF env r acc
theorem clos_go : ∀ (names : List (Str × NameKind)) (acc : List (Str × Addr)), (∀ p ∈ names, p.2 = .free → ∃ c, env.cells.lookup p.1 = some c) →
    (forIn names acc (fun (p : Str × NameKind) cs => if (p.2 == .free) = true then do let c ← cellOf env p.1; pure (ForInStep.yield ((p.1, c) :: cs)) else pure (ForInStep.yield cs)) : Sem (List (Str × Addr))) = pure (clF env names acc)
  | [], acc, _ => rfl
  | (x, k) :: r, acc, h => by
    rw [List.forIn_cons]
    by_cases hk : (k == NameKind.free) = true
    · obtain ⟨c, hc⟩ := h (x, k) List.mem_cons_self (beq_iff_eq.mp hk)
      have e : cellOf env x = pure c := by unfold cellOf; rw [hc]
      rw [show clF env ((x, k) :: r) acc = clF env r ((x, (env.cells.lookup x).getD 0) :: acc) from if_pos hk]
      simp only [hk, if_true, e, hc, Option.getD_some, pure_bind]
      exact clos_go r _ fun p m => h p (List.mem_cons_of_mem _ m)
    · rw [show clF env ((x, k) :: r) acc = clF env r acc from if_neg hk]
      simp only [hk, if_false, pure_bind]
      exact clos_go r _ fun p m => h p (List.mem_cons_of_mem _ m)
theorem clos_is {scope : Scope} (h : ∀ p ∈ scope.names, p.2 = .free → ∃ c, env.cells.lookup p.1 = some c) : closureFor scope env = pure (clF env scope.names []) := by
  unfold closureFor
  have := clos_go scope.names [] h
  simp only [bind_pure] 
  exact this
theorem clF_app (env : Env) : ∀ (names : List (Str × NameKind)) (acc : List (Str × Addr)), clF env names acc = clF env names [] ++ acc
  | [], _ => rfl
  | (x, k) :: r, acc => by
    by_cases hk : (k == NameKind.free) = true
    · rw [show clF env ((x, k) :: r) acc = clF env r ((x, (env.cells.lookup x).getD 0) :: acc) from if_pos hk, show clF env ((x, k) :: r) [] = clF env r [(x, (env.cells.lookup x).getD 0)] from if_pos hk]
      rw [clF_app env r (_ :: acc), clF_app env r [_], List.append_assoc]; rfl
    · rw [show clF env ((x, k) :: r) acc = clF env r acc from if_neg hk, show clF env ((x, k) :: r) [] = clF env r [] from if_neg hk]
      exact clF_app env r acc
theorem clF_get (x : Str) : ∀ {names : List (Str × NameKind)}, nodupS (names.map (·.1)) = true →
    (names.lookup x = some .free → (clF env names []).lookup x = some ((env.cells.lookup x).getD 0)) ∧ (names.lookup x ≠ some .free → (clF env names []).lookup x = none)
  | [], _ => ⟨fun h => by simp at h, fun _ => rfl⟩
  | (name, kind) :: r, hd => by
    have hd := nodupS_inv hd
    have hn := lookup_none hd.1
    have ih := clF_get x (names := r) hd.2
    show (_ → List.lookup x (if kind == .free then clF env r [(name, (env.cells.lookup name).getD 0)] else clF env r []) = _) ∧ (_ → List.lookup x (if kind == .free then clF env r [(name, (env.cells.lookup name).getD 0)] else clF env r []) = _)
    cases hk : kind == NameKind.free with
    | true =>
      simp only [if_true]
      rw [clF_app, lookup_app]
      rw [List.lookup_cons]
      cases q : x == name with
      | true =>
        have := beq_iff_eq.mp q
        subst this
        have e1 := ih.2 (by rw [hn]; simp)
        rw [e1]
        refine ⟨fun _ => by simp [List.lookup_cons], fun h => ?_⟩
        exact absurd (by rw [beq_iff_eq.mp hk]) h
      | false =>
        first | dsimp only | simp only
        refine ⟨fun h => by rw [ih.1 h], fun h => by rw [ih.2 h]; simp [List.lookup_cons, q]⟩
    | false =>
      simp only [Bool.false_eq_true, if_false]
      rw [List.lookup_cons]
      cases q : x == name with
      | true =>
        have := beq_iff_eq.mp q
        subst this
        first | dsimp only | simp only
        refine ⟨fun h => ?_, fun _ => ih.2 (by rw [hn]; simp)⟩
        cases h; simp at hk
      | false => exact ih

noncomputable def relK (env : Env) (x : Str) (o : Option NameKind) : Option NameKind := if (o == some .free && (env.scope.kind == .function && env.kindOf x == some .cell)) = true then some .cell else o
theorem relabel_lookup {scope : Scope} (x : Str) : (relabel scope env).names.lookup x = relK env x (scope.names.lookup x) := by
  show (scope.names.map _).lookup x = _
  generalize scope.names = l
  induction l with
  | nil => rfl
  | cons p r ih =>
    obtain ⟨n, k⟩ := p
    show List.lookup x ((if (k == NameKind.free && env.scope.kind == .function && env.kindOf n == some .cell) = true then (n, NameKind.cell) else (n, k)) :: r.map _) = _
    have e : ∀ y : Str × NameKind, y.1 = n → List.lookup x (y :: r.map fun (n, k) => if (k == NameKind.free && env.scope.kind == .function && env.kindOf n == some .cell) = true then (n, NameKind.cell) else (n, k)) = if x == n then some y.2 else relK env x (r.lookup x) := fun y hy => by
      rw [← hy, ← ih, List.lookup_cons]
      cases x == y.1 <;> rfl
    have e2 : relK env x (List.lookup x ((n, k) :: r)) = if x == n then relK env n (some k) else relK env x (r.lookup x) := by
      rw [List.lookup_cons]
      cases q : x == n with
      | true => rw [beq_iff_eq.mp q]; rfl
      | false => rfl
    rw [e2]
    by_cases hc : (k == NameKind.free && env.scope.kind == .function && env.kindOf n == some .cell) = true
    · rw [if_pos hc, e _ rfl, show relK env n (some k) = some .cell from if_pos (by rw [Bool.and_assoc] at hc; exact hc)]
    · rw [if_neg hc, e _ rfl, show relK env n (some k) = some k from if_neg (by rw [Bool.and_assoc] at hc; exact hc)]
end
end
section
section
variable {prog : Program} {w : World} {n : Nat} {Base : Heap → List Addr → Prop} {O : Orc} {k : Nat} {sc : List (Str × NameKind)} {σ : Vars} {env : Env} {h : Heap} {W X : List Addr}

theorem src_ok (o : OrcOK prog w n Base O) (hE : PE prog w n Base O k) {e : Expr} {ds : List D} (hp : peekD σ (evE O k sc σ) e = some ds) (eo : EnvOK env sc) (cal : CellsAl h env) (vo : VarsOK h W X env σ) (al : Al W h) (ba : Base h W) (hXW : ∀ a ∈ X, a ∈ W)
    {A : Around} {s : Shared} {Q : Value → Shared → Prop} {E : Value → Shared → Prop} (hk : Kp h s.heap) (am : Amb A n)
    (hq : ∀ I Y h1 h2 tk2, Kp s.heap h1 → Kp h1 h2 → Itr prog w W Y h1 ds I h2 → (∀ a ∈ Y, a ∉ X) → Q (.ref I) { s with heap := h2, toks := tk2 }) :
    wpAny (model prog w) A (eval e env) (fun x s1 => wpAny (model prog w) A (pyIter x) Q E s1) E s := by
  have plain : (evE O k sc σ e).bind iterD = some ds → wpAny (model prog w) A (eval e env) (fun x s1 => wpAny (model prog w) A (pyIter x) Q E s1) E s := fun hb => by
    obtain ⟨d, hd, hi⟩ := Option.bind_eq_some_iff.mp hb
    refine hE sc σ e d hd env h W X eo cal vo al ba hXW A s _ E hk am fun v h1 tk1 k1 r1 => ?_
    exact iter_ok r1 hi (Kp.refl _) fun I h2 k2 it => hq I [] h1 h2 tk1 k1 k2 it fun a m => by cases m
  cases e <;> first | exact plain hp | skip
  rename_i x p
  cases hx : σ.lookup x with
  | none => exact plain (by have hp := hp; rw [show peekD σ (evE O k sc σ) (.Name x p) = peekB (σ.lookup x) ((evE O k sc σ (.Name x p)).bind iterD) from rfl, hx] at hp; exact hp)
  | some b =>
    have hp : peekB (some b) ((evE O k sc σ (.Name x p)).bind iterD) = some ds := by rw [← hx]; exact hp
    cases b with
    | val d => exact plain hp
    | own ds' =>
      have hp : ds' = ds := Option.some.inj hp
      subst hp
      obtain ⟨ok, v, hv, a, vs, n', rfl, hg, ma, nx, rl⟩ := vo x _ hx
      refine name_holds eo.kind ok (hv.mono hk) ?_
      refine iter_own (h := h) (W := W) ⟨_, hg, rfl, n', rfl⟩ rl hk fun I h2 k2 it => ?_
      exact hq I [a] s.heap h2 s.toks (Kp.refl _) k2 it fun b m => by rw [List.mem_singleton.mp m]; exact nx

theorem scopeOk_is {scope : Scope} (hs : scopeOk sc scope = true) : scope.kind = .function ∧ nodupS (scope.names.map (·.1)) = true ∧ (∀ p ∈ scope.names, p.2 = .free → sc.lookup p.1 = some .cell ∨ sc.lookup p.1 = some .free) := by
  unfold scopeOk at hs
  simp only [Bool.and_eq_true, List.all_eq_true] at hs
  obtain ⟨⟨h1, h2⟩, h3⟩ := hs
  refine ⟨beq_iff_eq.mp h1, h2, fun p m e => ?_⟩
  have := h3 p m
  rw [e] at this
  exact ((Bool.or_eq_true _ _).mp (show (sc.lookup p.1 == some .cell || sc.lookup p.1 == some .free) = true from this)).imp beq_iff_eq.mp beq_iff_eq.mp
theorem lookup_of_mem' {x : Str} {c : NameKind} : ∀ {l : List (Str × NameKind)}, nodupS (l.map (·.1)) = true → (x, c) ∈ l → l.lookup x = some c
  | [], _, m => by cases m
  | (k, v) :: r, hd, m => by
    rw [List.map_cons] at hd
    simp only [nodupS, Bool.and_eq_true, Bool.not_eq_true'] at hd
    rcases List.mem_cons.mp m with m1 | m1
    · cases m1; simp [List.lookup_cons]
    · rw [List.lookup_cons]
      cases q : x == k with
      | true =>
        have := beq_iff_eq.mp q
        subst this
        have : (r.map (·.1)).contains x = true := by
          rw [List.contains_iff_mem]; exact List.mem_map.mpr ⟨(x, c), m1, rfl⟩
        first | exact dead2 (hd.1) this | exact dead2 this (hd.1) | (rw [hd.1] at this; cases this)
      | false => exact lookup_of_mem' hd.2 m1
theorem mem_of_look {α : Type} {x : Str} {c : α} : ∀ {l : List (Str × α)}, l.lookup x = some c → (x, c) ∈ l := fun e => PySem.mem_of_lookup e

theorem cenv_ok {scope : Scope} {h0 : Heap} (hs : scopeOk sc scope = true) (eo : EnvOK env sc) (cal : CellsAl h0 env) :
    ∃ T, (∀ a ∈ T, h0.get? a = none) ∧ h0.objs.size ∈ T ∧
      EnvOK { newEnv scope h0.objs.size env.globals (cellsFrom (h0.objs.size + 1) scope.names [] ++ clF env scope.names []) env.qual none .none (some env) builtinsNs with scope := relabel scope env } scope.names ∧
      CellsAl (pushCells (h0.push { cls := .type "dict", data := .dict #[] }) scope.names) { newEnv scope h0.objs.size env.globals (cellsFrom (h0.objs.size + 1) scope.names [] ++ clF env scope.names []) env.qual none .none (some env) builtinsNs with scope := relabel scope env } ∧
      Fra (pushCells (h0.push { cls := .type "dict", data := .dict #[] }) scope.names) { newEnv scope h0.objs.size env.globals (cellsFrom (h0.objs.size + 1) scope.names [] ++ clF env scope.names []) env.qual none .none (some env) builtinsNs with scope := relabel scope env } scope.names T ∧
      (∀ x, scope.names.lookup x = some .free → (cellsFrom (h0.objs.size + 1) scope.names [] ++ clF env scope.names []).lookup x = env.cells.lookup x) := by
  obtain ⟨hk, hnd, hfree⟩ := scopeOk_is hs
  have hcl : ∀ x, scope.names.lookup x = some .free → ∃ c, env.cells.lookup x = some c := fun x e => eo.cells x (hfree (x, .free) (mem_of_look e) rfl)
  have ok := cellsFrom_ok scope.names (h0.push { cls := .type "dict", data := .dict #[] }) (h0.objs.size + 1) [] ⟨fun _ _ hm => (nomatch hm), List.Pairwise.nil⟩ (by rw [Heap.size_push]; exact Nat.le_refl _)
  rw [Heap.size_push] at ok
  have kp : Kp h0 (pushCells (h0.push { cls := .type "dict", data := .dict #[] }) scope.names) := fun b o e => pushCells_keeps _ _ b o (Heap.get?_push_of_some _ e)
  generalize hH : pushCells (h0.push { cls := .type "dict", data := .dict #[] }) scope.names = H at ok kp
  have hns : H.Ns h0.objs.size (fun _ => none) := by rw [← hH]; exact (Heap.Ns.new h0 (.type "dict")).keeps (pushCells_keeps _ _)
  generalize hown : cellsFrom (h0.objs.size + 1) scope.names [] = own at ok
  have hlook : ∀ x c, (own ++ clF env scope.names []).lookup x = some c → (scope.names.lookup x = some .cell ∧ own.lookup x = some c ∧ h0.objs.size + 1 ≤ c ∧ H.IsCell c none) ∨ (scope.names.lookup x = some .free ∧ env.cells.lookup x = some c ∧ c < h0.objs.size) := fun x c e => by
    rw [lookup_app] at e
    have hc := cells_of_names x (names := scope.names) (h0.objs.size + 1) hnd
    rw [hown] at hc
    by_cases q : scope.names.lookup x = some .cell
    · obtain ⟨c', e'⟩ := hc.1 q
      rw [e'] at e
      first | with_reducible exact ns e | cases e
      have := ok.empty x c (mem_of_look e')
      exact .inl ⟨q, e', this.2, this.1⟩
    · rw [hc.2 q] at e
      first | dsimp only at e | simp only at e
      have hf := clF_get (env := env) x (names := scope.names) hnd
      by_cases q2 : scope.names.lookup x = some .free
      · rw [hf.1 q2] at e
        obtain ⟨c', e'⟩ := hcl x q2
        rw [e'] at e
        first | with_reducible exact ns e | cases e
        obtain ⟨o, ho⟩ := cal x c' e'
        exact .inr ⟨q2, e', Heap.lt_size ho⟩
      · first | exact dead2 (hf.2 q2) e | exact dead2 e (hf.2 q2) | (rw [hf.2 q2] at e; cases e)
  have hcell : ∀ x, scope.names.lookup x = some .cell → ∃ c, (own ++ clF env scope.names []).lookup x = some c ∧ own.lookup x = some c := fun x q => by
    have hc := cells_of_names x (names := scope.names) (h0.objs.size + 1) hnd
    rw [hown] at hc
    obtain ⟨c, e⟩ := hc.1 q
    exact ⟨c, by rw [lookup_app, e], e⟩
  have hfr : ∀ x, scope.names.lookup x = some .free → (own ++ clF env scope.names []).lookup x = env.cells.lookup x := fun x q => by
    have hc := cells_of_names x (names := scope.names) (h0.objs.size + 1) hnd
    rw [hown] at hc
    rw [lookup_app, hc.2 (by rw [q]; simp)]
    obtain ⟨c, e⟩ := hcl x q
    first | dsimp only | simp only
    rw [(clF_get (env := env) x (names := scope.names) hnd).1 q, e]; rfl
  have rl := fun x => relabel_lookup (env := env) (scope := scope) x
  refine ⟨h0.objs.size :: own.map (·.2), fun a m => ?_, List.mem_cons_self, ⟨hk, eo.globals, eo.builtins, fun x e => ?_, fun x e => ?_, fun x e => ?_, fun x e => ?_, fun x e => ?_, fun y c e => ?_, fun x y c e e' => ?_⟩, fun y c e => ?_, ⟨⟨_, hns⟩, List.mem_cons_self, fun x e => ?_, fun a m => ?_⟩, hfr⟩
  · rcases List.mem_cons.mp m with rfl | m
    · exact size_none _
    · obtain ⟨⟨x, c⟩, m', rfl⟩ := List.mem_map.mp m
      exact ge_none (Nat.le_of_succ_le (ok.empty x c m').2)
  · exact (rl x).trans (congrArg (relK env x) e)
  · exact (rl x).trans (congrArg (relK env x) e)
  · exact (rl x).trans (congrArg (relK env x) e)
  · have e : (relabel scope env).names.lookup x = relK env x (some .free) := (rl x).trans (congrArg (relK env x) e)
    by_cases q : (some NameKind.free == some .free && (env.scope.kind == .function && env.kindOf x == some .cell)) = true
    · exact .inl (e.trans (if_pos q))
    · exact .inr (e.trans (if_neg q))
  · rcases e with e | e
    · obtain ⟨c, e', _⟩ := hcell x e; exact ⟨c, e'⟩
    · obtain ⟨c, e'⟩ := hcl x e; exact ⟨c, (hfr x e).trans e'⟩
  · rcases hlook y c e with ⟨_, _, q, _⟩ | ⟨_, _, q⟩
    · exact Nat.ne_of_gt q
    · exact Nat.ne_of_lt q
  · rcases hlook x c e with ⟨_, q1, q2, _⟩ | ⟨_, q1, q2⟩ <;> rcases hlook y c e' with ⟨_, r1, r2, _⟩ | ⟨_, r1, r2⟩
    · exact name_of_addr ok.apart (mem_of_look q1) (mem_of_look r1)
    · exact absurd (Nat.lt_of_lt_of_le r2 (Nat.le_of_succ_le q2)) (Nat.lt_irrefl _)
    · exact absurd (Nat.lt_of_lt_of_le q2 (Nat.le_of_succ_le r2)) (Nat.lt_irrefl _)
    · exact eo.apart x y c q1 r1
  · rcases hlook y c e with ⟨_, _, _, o, ho, _⟩ | ⟨_, q, _⟩
    · exact ⟨o, ho⟩
    · obtain ⟨o, ho⟩ := cal y c q; exact ⟨o, kp _ _ ho⟩
  · obtain ⟨c, e1, e2⟩ := hcell x e
    exact ⟨c, none, e1, List.mem_cons_of_mem _ (List.mem_map.mpr ⟨_, mem_of_look e2, rfl⟩), (ok.empty x c (mem_of_look e2)).1⟩
  · rcases List.mem_cons.mp m with rfl | m
    · exact .inl ⟨_, hns⟩
    · obtain ⟨⟨x, c⟩, m', rfl⟩ := List.mem_map.mp m
      exact .inr ⟨_, (ok.empty x c m').1⟩

theorem filter_look {f : Str → Bool} {x : Str} {b : B} : ∀ {σ : Vars}, (σ.filter fun p => f p.1).lookup x = some b → σ.lookup x = some b ∧ f x = true
  | [], e => ns e
  | (y, c) :: r, e => by
    rw [List.filter_cons] at e
    rw [List.lookup_cons]
    cases z : x == y with
    | true =>
      have hxy := beq_iff_eq.mp z
      subst hxy
      by_cases hc : f x = true
      · rw [if_pos hc, List.lookup_cons, z] at e
        exact ⟨e, hc⟩
      · rw [if_neg hc] at e
        exact absurd (filter_look e).2 hc
    | false =>
      by_cases hc : f y = true
      · rw [if_pos hc, List.lookup_cons, z] at e
        exact filter_look e
      · rw [if_neg hc] at e
        exact filter_look e
theorem comp_any (o : OrcOK prog w n Base O) (hE : PE prog w n Base O k) {elt : Expr} {g : Comprehension} {gs : List Comprehension} {scope : Scope} {pos p : Pos} {ds : List D} {cap : Nat} {Fin : Heap → Heap → List Addr → List Value → Prop} (hC : CL prog w n Base scope.names (σ.filter fun p => scope.names.lookup p.1 == some .free) elt g gs ds cap Fin) (hp : plainSrc g.iter = true) (ha : g.is_async = 0)
    (hs : scopeOk sc scope = true) (hpk : peekD σ (evE O k sc σ) g.iter = some ds) (hle : cap ≤ 1048576)
    (eo : EnvOK env sc) (cal : CellsAl h env) (vo : VarsOK h W X env σ) (al : Al W h) (ba : Base h W) (hXW : ∀ a ∈ X, a ∈ W) {use : Option (Value → Sem Unit)}
    {A : Around} {s : Shared} {Q : Value → Shared → Prop} {E : Value → Shared → Prop} (hk : Kp h s.heap) (am : Amb A n)
    (hq : ∀ C D hs h' tk' ys m W', Kp s.heap h' → s.heap.get? C = none → s.heap.get? D = none → C ≠ D → h'.Ns C m → h'.PlainList D (List.toArray ys) → Kp s.heap hs → hs.get? C ≠ none → hs.get? D ≠ none → (∀ a ∈ C :: D :: W, a ∈ W') → Fin hs h' W' ys → compPost (model prog w) A E use Q (.ref D) C (.ok .next) { s with heap := h', toks := tk' }) :
    wpAny (model prog w) A (comprehension (.ListComp elt (g :: gs) scope pos) scope env p (newList []) (firstAsync (g :: gs)) (firstIter (g :: gs) env) use) Q E s := by
  obtain ⟨hkind, hnd, hfree⟩ := scopeOk_is hs
  have hasy : firstAsync (g :: gs) = false := by
    obtain ⟨gt, gi, gf, ga⟩ := g
    first | dsimp only at ha | simp only at ha
    subst ha; rfl
  have hfi : firstIter (g :: gs) env = eval g.iter env := by obtain ⟨gt, gi, gf, ga⟩ := g; rfl
  rw [hasy, hfi]
  refine wpAny_comprehension_free rfl (fun x => folded_ok hp) (clos_is fun q m e => eo.cells _ (hfree q m e)) hkind (fun x m e => lookup_of_mem' hnd (by rw [← e]; exact m)) ?_
  generalize hRR : compPost (model prog w) A E use Q = RR at hq ⊢
  refine src_ok o hE hpk eo cal vo al ba hXW hk am fun I Y h1 h2 tk2 k1 k2 it hY => ?_
  obtain ⟨fp, P, St, wk, hst, hI, ⟨oI, hI2⟩, hfp, hP, hlive⟩ := it
  refine wpAny_newObj_type (nfe ?_)
  first | dsimp only | simp only
  generalize hH3 : h2.push { cls := .type "list", dict := none, data := .seq ([] : List Value).toArray } = h3
  generalize hDa : h2.objs.size = Da
  have k3 : Kp h2 h3 := by rw [← hH3]; exact Kp.push _ _
  have hD3 : h3.PlainList Da #[] := by rw [← hH3, ← hDa]; exact ⟨_, Heap.get?_push_size _ rfl⟩
  have hDn : h2.get? Da = none := by rw [← hDa]; exact size_none _
  clear hH3 hDa
  have k13 : Kp h1 h3 := k2.trans k3
  obtain ⟨T, hTn, hCT, ceo, ccal, cF, hfr⟩ := cenv_ok (h0 := h3) hs eo (cal.kw (Kw.of ((hk.trans k1).trans k13) (X := [])))
  have k4 : Kp h3 (pushCells (h3.push { cls := .type "dict", data := .dict #[] }) scope.names) := fun b o e => pushCells_keeps _ _ b o (Heap.get?_push_of_some _ e)
  generalize hH4 : pushCells (h3.push { cls := .type "dict", data := .dict #[] }) scope.names = h4 at ccal cF k4
  have hDn1 : h1.get? Da = none := k2.back hDn
  have hTn1 : ∀ a ∈ T, h1.get? a = none := fun a m => k13.back (hTn a m)
  have al1 : Al W h1 := (al.mono hk).mono k1
  have hTW : ∀ a ∈ T, a ∉ W := fun a m q => let ⟨o', e'⟩ := al1 a q; dead (hTn1 a m) e'
  have hDT : Da ∉ T := fun m => let ⟨q, z⟩ := hD3; dead (hTn _ m) z
  have gX : Gr h1 X (Da :: I :: X) := ⟨fun a m => List.mem_cons_of_mem _ (List.mem_cons_of_mem _ m), fun a m => (List.mem_cons.mp m).elim (fun q => .inr (q ▸ hDn1)) fun m => (List.mem_cons.mp m).elim (fun q => .inr (q ▸ hI)) .inl⟩
  have gW : Gr h1 W (T ++ Da :: I :: W) := ⟨fun a m => List.mem_append_right _ (List.mem_cons_of_mem _ (List.mem_cons_of_mem _ m)), fun a m => (List.mem_append.mp m).elim (fun m => .inr (hTn1 a m)) fun m => (List.mem_cons.mp m).elim (fun q => .inr (q ▸ hDn1)) fun m => (List.mem_cons.mp m).elim (fun q => .inr (q ▸ hI)) .inl⟩
  have k14 : Kp h1 h4 := k13.trans k4
  have hst4 : St 0 h4 := (wk A am.hd).frame _ _ _ hst fun b _ o' e' => k4 _ _ (k3 _ _ e')
  have hD4 : h4.PlainList Da (List.toArray []) := let ⟨q, z⟩ := hD3; ⟨q, k4 _ _ z⟩
  have kinds : ∀ a ∈ T, ∃ o, h4.get? a = some o := fun a m => (cF.kinds a m).elim (fun ⟨_, o', _, _, e', _⟩ => ⟨o', e'⟩) fun ⟨_, o', e', _⟩ => ⟨o', e'⟩
  have names : VarsOK h4 (T ++ Da :: I :: W) (Da :: I :: X) _ (σ.filter fun p => scope.names.lookup p.1 == some .free) := fun x b e => by
    obtain ⟨h1', h2'⟩ := filter_look (f := fun y => scope.names.lookup y == some .free) e
    have h2' : scope.names.lookup x = some .free := by simpa using h2'
    obtain ⟨ok, v, hv, r⟩ := (((vo.mono hk).mono k1).gr gW gX k14) x b h1'
    refine ⟨ok, v, ?_, r⟩
    have hkind' : env.kindOf x = some .cell ∨ env.kindOf x = some .free := (hfree (x, .free) (mem_of_look h2') rfl).elim (fun q => .inl (eo.cel x q)) (eo.fre x)
    rcases hv with ⟨a, _⟩ | ⟨a, c, b', n', d'⟩
    · exact hkind'.elim (fun q => nomatch (a.symm.trans q)) fun q => nomatch (a.symm.trans q)
    · exact .inr ⟨ceo.fre x h2', c, (hfr x h2').trans b', n', d'⟩
  refine start_ok (g := g) rfl ha (hC _ T (T ++ Da :: I :: W) (Da :: I :: X) Da I fp P St A { s with heap := h4, toks := tk2 } [] (g :: gs) 0 scope pos _ rfl ha ceo ccal cF am (fun a m => (gW.new a m).elim ((al1.mono k14) a) fun _ => (List.mem_append.mp m).elim (kinds a) fun m => (List.mem_cons.mp m).elim (fun q => q ▸ (let ⟨q, z⟩ := hD4; ⟨_, z⟩)) fun m => (List.mem_cons.mp m).elim (fun q => q ▸ ⟨oI, k4 _ _ (k3 _ _ hI2)⟩) ((al1.mono k14) a))
    (o.up (o.keep ba (hk.trans k1)) (Kw.of k14).keep gW.new) (fun a m => List.mem_append_right _ ((List.mem_cons.mp m).elim (fun q => q ▸ List.mem_cons_self) fun m => List.mem_cons_of_mem _ ((List.mem_cons.mp m).elim (fun q => q ▸ List.mem_cons_self) fun m => List.mem_cons_of_mem _ (hXW _ m)))) (fun a m => List.mem_append_left _ m)
    (fun a m q => (List.mem_cons.mp q).elim (fun q => hDT (q ▸ m)) fun q => (List.mem_cons.mp q).elim (fun q => dead (hTn _ m) (q ▸ k3 _ _ hI2)) fun q => hTW a m (hXW _ q)) (List.mem_cons_of_mem _ List.mem_cons_self) List.mem_cons_self (fun q => dead hDn (q ▸ hI2)) names wk hst4 (fun i h st => let ⟨o, e, _⟩ := hlive i h st; ⟨o, e⟩)
    (fun b hb => (hfp b hb).imp id fun ⟨q, o', e'⟩ => ⟨fun m => dead (hTn1 b m) e', fun m => (List.mem_cons.mp m).elim (fun z => dead hDn1 (z ▸ e')) fun m => (List.mem_cons.mp m).elim (fun z => dead hI (z ▸ e')) fun m => q.elim (fun q => q (hXW _ m)) fun q => hY _ q m⟩)
    (fun i v hv => let ⟨d, hd, rd⟩ := hP i v hv; ⟨d, hd, Rep.mono (fz_gr gW k14) rd⟩) hD4 (by simpa using hle) fun h' tk' ys kk lv F' _ hD' r' => ?_) fun E' => (wk A am.hd).self 0 _ _ _ hst4 ⟨rfl, rfl⟩
  obtain ⟨m, hm⟩ := F'.ns
  refine hq _ Da h4 h' tk' ys m _ (fun b o' e' => kk b o' (fun q => ?_) (k14 _ _ (k1 _ _ e'))) (k1.back (hTn1 _ hCT)) (k1.back hDn1) (fun q => hDT (q ▸ hCT)) hm (by simpa using hD') (k1.trans k14) (let ⟨o, e⟩ := kinds _ hCT; fun q => dead q e) (let ⟨q, z⟩ := hD4; fun q => dead q z) (fun a q => ?_) r'
  · have e1 := k1 _ _ e'
    exact (List.mem_cons.mp q).elim (fun q => dead hI (q ▸ e1)) fun q => (List.mem_cons.mp q).elim (fun q => dead hDn1 (q ▸ e1)) fun q => dead (hTn1 _ q) e1
  · exact (List.mem_cons.mp q).elim (fun q => q ▸ List.mem_append_left _ hCT) fun q => List.mem_append_right _ ((List.mem_cons.mp q).elim (fun q => q ▸ List.mem_cons_self) fun q => List.mem_cons_of_mem _ (List.mem_cons_of_mem _ q))
theorem comp_gen (o : OrcOK prog w n Base O) (hE : PE prog w n Base O k) (hC : PC prog w n Base O k) {elt : Expr} {g : Comprehension} {gs : List Comprehension} {scope : Scope} {pos p : Pos} {ds es : List D} (hp : plainSrc g.iter = true) (ha : g.is_async = 0)
    (hs : scopeOk sc scope = true) (hpk : peekD σ (evE O k sc σ) g.iter = some ds) (he : evC O k scope.names (σ.filter fun p => scope.names.lookup p.1 == some .free) elt g gs ds = some es) (hle : es.length ≤ 1048576)
    (eo : EnvOK env sc) (cal : CellsAl h env) (vo : VarsOK h W X env σ) (al : Al W h) (ba : Base h W) (hXW : ∀ a ∈ X, a ∈ W) {use : Option (Value → Sem Unit)}
    {A : Around} {s : Shared} {Q : Value → Shared → Prop} {E : Value → Shared → Prop} (hk : Kp h s.heap) (am : Amb A n)
    (hq : ∀ C D h' tk' ys m, Kp s.heap h' → s.heap.get? C = none → s.heap.get? D = none → C ≠ D → h'.Ns C m → h'.PlainList D (List.toArray ys) → RepL (fz h' (C :: D :: W)) es ys → compPost (model prog w) A E use Q (.ref D) C (.ok .next) { s with heap := h', toks := tk' }) :
    wpAny (model prog w) A (comprehension (.ListComp elt (g :: gs) scope pos) scope env p (newList []) (firstAsync (g :: gs)) (firstIter (g :: gs) env) use) Q E s :=
  comp_any o hE (hC _ _ _ _ _ _ _ he) hp ha hs hpk hle eo cal vo al ba hXW hk am fun C D _ h' tk' ys m W' a1 a2 a3 a4 a5 a6 _ _ _ a7 a8 => hq C D h' tk' ys m a1 a2 a3 a4 a5 a6 (RepL.mono (fz_less a7) a8)
end
end
section
section
variable {prog : Program} {w : World} {n : Nat} {Base : Heap → List Addr → Prop} {O : Orc} {k : Nat} {sc : List (Str × NameKind)} {σ : Vars} {env : Env} {h : Heap} {W X : List Addr}

theorem behind_ok {op : CmpOp} {e : Expr} (hp : plainSrc e = true) : behindInMarks op e = false := by
  cases e <;> first | rfl | exact (Bool.false_ne_true hp).elim
theorem part_ok {f : Expr → Option D} {e : Option Expr} {a : Option Int} (al : Al W h) (hf : ∀ e d, f e = some d → Gv prog w n W (eval e env) d h) (he : partD f e = some a) : Gx prog w n W (evalPart e env) (fun _ v => Part v a) h := by
  intro A s Q E hk am hq
  cases e with
  | none =>
    rw [← Option.some.inj (show some none = some a from he)] at hq
    exact evalPart_none_step (hq _ s.heap s.toks (Kp.refl _) (.inl ⟨rfl, rfl⟩))
  | some e =>
    refine evalPart_some_step ?_
    obtain ⟨d, h1, he⟩ := bind_inv he
    cases d <;> first | exact ns he | skip
    · rw [← Option.some.inj (show some none = some a from he)] at hq
      exact hf e _ h1 A s Q E hk am fun v h' tk' k1 r => hq v h' tk' k1 (.inl ⟨r, rfl⟩)
    · rename_i i
      rw [← Option.some.inj (show some (some i) = some a from he)] at hq
      exact hf e _ h1 A s Q E hk am fun v h' tk' k1 ⟨t, r⟩ => hq v h' tk' k1 (.inr ⟨i, t, r, rfl⟩)
noncomputable def SlcAt (g : Gh) (i : Value) (lo hi : Option Int) : Prop := ∃ sl o a b, i = .ref sl ∧ g sl = some o ∧ o.cls = .type "slice" ∧ o.data = .fields #[a, b, .none] ∧ Part a lo ∧ Part b hi
theorem slice_ok {f : Expr → Option D} {lo hi : Option Expr} {p : Pos} {a b : Option Int} (al : Al W h) (hf : ∀ e d, f e = some d → Gv prog w n W (eval e env) d h) (ha : partD f lo = some a) (hb : partD f hi = some b) :
    Gx prog w n W (eval (.Slice lo hi none p) env) (fun g v => SlcAt g v a b) h := by
  intro A s Q E hk am hq
  refine wpAny_Slice (part_ok al hf ha A s _ E hk am fun u h1 tk1 k1 r1 => part_ok al hf hb A _ _ E (hk.trans k1) am fun v h2 tk2 k2 r2 => evalPart_none_step ?_)
  refine hq _ _ tk2 ((k1.trans k2).trans (Kp.push _ _)) ⟨h2.objs.size, _, u, v, rfl, fz_some.mpr ⟨(((al.mono hk).mono k1).mono k2).fresh (size_none _), Heap.get?_push_size _ rfl⟩, rfl, rfl, r1, r2⟩

theorem attr_is {value : Expr} {attr : Str} {pos : Pos} {A : Around} {s : Shared} {Q : Value → Shared → Prop} {E : Value → Shared → Prop} (hs : notSuper value = true)
    (h : wpAny (model prog w) A (eval value env) (fun o s₁ => wpAny (model prog w) A (getAttr o attr true) Q E s₁) E s) : wpAny (model prog w) A (eval (.Attribute value attr pos) env) Q E s := by
  refine Attribute_any_ h ?_
  show (do
    let o ← attributeBase value attr env (eval value env)
    standAt pos.atName
    let r ← holding [o] (getAttr o attr true)
    letTemporaryGo value o r
    pure r) = _
  rw [base_plain hs]
noncomputable def isTst (e : Expr) : Bool := [3, 0, 5, 15].any (Nat.beq e.ctorIdx)
theorem isAttr_is {f : Expr} (h : isAttr f = true) : ∃ o name p, f = .Attribute o name p := by
  cases f <;> first | exact (Bool.false_ne_true h).elim | exact ⟨_, _, _, rfl⟩
theorem isSlice_is {f : Expr} (h : isSlice f = true) : ∃ a b c p, f = .Slice a b c p := by
  cases f <;> first | exact (Bool.false_ne_true h).elim | exact ⟨_, _, _, _, rfl⟩
theorem call_plain {f : Expr} (h : isAttr f = false) (args : List Expr) (pos : Pos) (env : Env) : eval (.Call f args [] pos) env = (do callWith pos (← eval f env) [] (backTo pos (starEach args env)) (backToKw pos (keywordEach [] env))) := by
  cases f <;> first | rfl | exact (Bool.false_ne_true h.symm).elim
theorem test_plain {e : Expr} (h : isTst e = false) (env : Env) : PySem.isTrue e env (eval e env) = (do let v ← eval e env; standAt e.pos; holding [v] (truthy v)) := by
  cases e <;> first | rfl | exact (Bool.false_ne_true h.symm).elim
theorem evT_plain {e : Expr} (h : isTst e = false) : evT O (k + 1) sc σ e = (evE O k sc σ e).bind truD := by
  cases e <;> first | rfl | exact (Bool.false_ne_true h.symm).elim
theorem varD_inv {b : Option B} {d : D} (h : varD b = some d) : b = some (.val d) := by
  cases b with
  | none => first | with_reducible exact ns h | cases h
  | some b => cases b <;> first | (exact ns h) | (cases (show some _ = some d from h); rfl)
theorem cmpE_inv {f : Expr → Option D} {l : Expr} {ops : List CmpOp} {rs : List Expr} {c : Bool} (h : cmpE O f l ops rs = some c) : ∃ op r a b, ops = [op] ∧ rs = [r] ∧ plainSrc r = true ∧ f l = some a ∧ f r = some b ∧ cmpO O op a b = some c := by
  cases ops with
  | nil => exact ns h
  | cons op ops => cases ops with
  | cons _ _ => exact ns h
  | nil => cases rs with
  | nil => exact ns h
  | cons r rs => cases rs with
  | cons _ _ => exact ns h
  | nil =>
  have h : (if plainSrc r then (f l).bind fun a => (f r).bind fun b => cmpO O op a b else none) = some c := h
  obtain ⟨hp, h⟩ := ift_inv h
  obtain ⟨a, ha, h⟩ := bind_inv h
  obtain ⟨b, hb, h⟩ := bind_inv h
  exact ⟨op, r, a, b, rfl, rfl, hp, ha, hb, h⟩
theorem litE_inv {f : Expr → Option D} {mk : List D → D} {es : List Expr} {d : D} (h : litE f mk es = some d) : ∃ ds, es.any starred = false ∧ allSome f es = some ds ∧ ds.length ≤ 1048576 ∧ d = mk ds := by
  unfold litE at h
  obtain ⟨hp, h⟩ := ifn_inv h
  obtain ⟨ds, ha, h⟩ := bind_inv h
  obtain ⟨hz, rfl⟩ := ite_inv h
  exact ⟨ds, Bool.eq_false_iff.mpr hp, ha, hz, rfl⟩
theorem compE_inv {elt : Expr} {g : Comprehension} {gs : List Comprehension} {scope : Scope} {p : Pos} {d : D} (h : evE O (k + 1) sc σ (.ListComp elt (g :: gs) scope p) = some d) : ∃ ds es, (plainSrc g.iter && decide (g.is_async = 0) && scopeOk sc scope) = true ∧ peekD σ (evE O k sc σ) g.iter = some ds ∧
    evC O k scope.names (σ.filter fun p => scope.names.lookup p.1 == some .free) elt g gs ds = some es ∧ es.length ≤ 1048576 ∧ d = .list es := by
  obtain ⟨hp, h⟩ := ift_inv (show (if (plainSrc g.iter && decide (g.is_async = 0) && scopeOk sc scope) = true then _ else none) = some d from h)
  obtain ⟨ds, ha, h⟩ := bind_inv h
  obtain ⟨es, hb, h⟩ := bind_inv h
  obtain ⟨hz, rfl⟩ := ite_inv h
  exact ⟨ds, es, hp, ha, hb, hz.2, rfl⟩
theorem or_no {a b : Bool} (h : (a || b) = false) : a = false ∧ b = false := Bool.or_eq_false_iff.mp h
theorem not_no {a : Bool} (h : (!a) = false) : a = true := by cases a; exact nomatch h; rfl
theorem four_no {a b c : Bool} {P : Prop} [Decidable P] (h : (a || !(decide P) || !b || !c) = false) : a = false ∧ P ∧ b = true ∧ c = true :=
  ⟨(or_no (or_no (or_no h).1).1).1, of_decide_eq_true (not_no (or_no (or_no (or_no h).1).1).2), not_no (or_no (or_no h).1).2, not_no (or_no h).2⟩
theorem pe_Constant (hn : 1 ≤ n) (o : OrcOK prog w n Base O) (hE : PE prog w n Base O k) (hT : PT prog w n Base O k) (hC : PC prog w n Base O k) {c : Const} {a : Nat} {p : Pos} {d : D} (he : evE O (k + 1) sc σ (.Constant c a p) = some d) (eo : EnvOK env sc) (cal : CellsAl h env) (vo : VarsOK h W X env σ) (al : Al W h) (ba : Base h W) (hXW : ∀ a ∈ X, a ∈ W) : Gv prog w n W (eval (.Constant c a p) env) d h := by
  have he : constE c = some d := he
  cases c <;> first | (exact ns he) | skip
  · cases (show some _ = some d from he); exact g_none _ _ _
  · cases (show some _ = some d from he); exact g_bool _ _ _ _
  · cases (show some _ = some d from he); exact g_int _ _ _ _
  · cases (show some _ = some d from he); exact g_str _ _ _ _
theorem pe_Name (hn : 1 ≤ n) (o : OrcOK prog w n Base O) (hE : PE prog w n Base O k) (hT : PT prog w n Base O k) (hC : PC prog w n Base O k) {x : Str} {p : Pos} {d : D} (he : evE O (k + 1) sc σ (.Name x p) = some d) (eo : EnvOK env sc) (cal : CellsAl h env) (vo : VarsOK h W X env σ) (al : Al W h) (ba : Base h W) (hXW : ∀ a ∈ X, a ∈ W) : Gv prog w n W (eval (.Name x p) env) d h := by
  obtain ⟨q, hq, he⟩ := bind_inv (show nameE O sc σ x = some d from he)
  cases q <;> first | (exact ns he) | skip
  case globalImplicit => exact name_glob o ba eo hq he
  all_goals exact name_val eo.kind vo (varD_inv he)
theorem pe_BinOp (hn : 1 ≤ n) (o : OrcOK prog w n Base O) (hE : PE prog w n Base O k) (hT : PT prog w n Base O k) (hC : PC prog w n Base O k) {l r : Expr} {op : Operator} {p : Pos} {d : D} (he : evE O (k + 1) sc σ (.BinOp l op r p) = some d) (eo : EnvOK env sc) (cal : CellsAl h env) (vo : VarsOK h W X env σ) (al : Al W h) (ba : Base h W) (hXW : ∀ a ∈ X, a ∈ W) : Gv prog w n W (eval (.BinOp l op r p) env) d h := by
  have ev : ∀ e d, evE O k sc σ e = some d → Gv prog w n W (eval e env) d h := fun e d he => hE sc σ e d he env h W X eo cal vo al ba hXW
  obtain ⟨a, ha, he⟩ := bind_inv (show (evE O k sc σ l).bind _ = some d from he)
  obtain ⟨b, hb, he⟩ := bind_inv he
  intro A s Q E hk am hq
  refine wpAny_BinOp (ev _ a ha A s _ E hk am fun v h1 tk1 k1 r1 => ev _ b hb A _ _ E (hk.trans k1) am fun u h2 tk2 k2 r2 => ?_)
  exact bin_ok (((al.mono hk).mono k1).mono k2) (Rep.mono (fz_mono k2) r1) r2 he A _ Q E (Kp.refl _) am fun z h3 tk3 k3 r3 => hq z h3 tk3 ((k1.trans k2).trans k3) r3
theorem pe_UnaryOp (hn : 1 ≤ n) (o : OrcOK prog w n Base O) (hE : PE prog w n Base O k) (hT : PT prog w n Base O k) (hC : PC prog w n Base O k) {op : UnaryOp} {x : Expr} {p : Pos} {d : D} (he : evE O (k + 1) sc σ (.UnaryOp op x p) = some d) (eo : EnvOK env sc) (cal : CellsAl h env) (vo : VarsOK h W X env σ) (al : Al W h) (ba : Base h W) (hXW : ∀ a ∈ X, a ∈ W) : Gv prog w n W (eval (.UnaryOp op x p) env) d h := by
  have ev : ∀ e d, evE O k sc σ e = some d → Gv prog w n W (eval e env) d h := fun e d he => hE sc σ e d he env h W X eo cal vo al ba hXW
  have he : unE op (evE O k sc σ x) = some d := he
  cases op <;> first | (exact ns he) | skip
  case USub =>
    obtain ⟨dd, hd, he⟩ := bind_inv (show (evE O k sc σ x).bind _ = some d from he)
    obtain ⟨i, hi, he⟩ := bind_inv he
    have hi := asInt_inv hi
    subst hi
    first | with_reducible exact ns he | cases he
    intro A s Q E hk am hq
    refine UnaryOp_ (ev _ _ hd A s _ E hk am fun v h1 tk1 k1 ⟨t, r1⟩ => ?_)
    subst r1
    exact u_neg (h := h1) (n := n) (W := W) A _ Q E (Kp.refl _) am fun z h3 tk3 k3 r3 => hq z h3 tk3 (k1.trans k3) r3
  case Not =>
    obtain ⟨dd, hd, he⟩ := bind_inv (show (evE O k sc σ x).bind _ = some d from he)
    obtain ⟨b, hb, he⟩ := bind_inv he
    first | with_reducible exact ns he | cases he
    intro A s Q E hk am hq
    refine UnaryOp_ (ev _ _ hd A s _ E hk am fun v h1 tk1 k1 r1 => not_of ?_)
    exact tru_ok (n := n) r1 hb A _ _ E (Kp.refl _) am fun c h2 tk2 k2 r2 => hq _ h2 tk2 (k1.trans k2) (by rw [r2]; rfl)
theorem pe_BoolOp (hn : 1 ≤ n) (o : OrcOK prog w n Base O) (hE : PE prog w n Base O k) (hT : PT prog w n Base O k) (hC : PC prog w n Base O k) {op : BoolOp} {vs : List Expr} {p : Pos} {d : D} (he : evE O (k + 1) sc σ (.BoolOp op vs p) = some d) (eo : EnvOK env sc) (cal : CellsAl h env) (vo : VarsOK h W X env σ) (al : Al W h) (ba : Base h W) (hXW : ∀ a ∈ X, a ∈ W) : Gv prog w n W (eval (.BoolOp op vs p) env) d h := by
  have ev : ∀ e d, evE O k sc σ e = some d → Gv prog w n W (eval e env) d h := fun e d he => hE sc σ e d he env h W X eo cal vo al ba hXW
  have he : boolE op (evE O k sc σ) vs = some d := he
  cases vs with
  | nil => exact ns he
  | cons a vs => cases vs with
  | nil => exact ns he
  | cons b vs => cases vs with
  | cons _ _ => exact ns he
  | nil =>
  obtain ⟨dd, hd, he⟩ := bind_inv (show (evE O k sc σ a).bind _ = some d from he)
  obtain ⟨c, hb, he⟩ := bind_inv he
  intro A s Q E hk am hq
  have one : ∀ h1, Kp s.heap h1 → ∀ hz (tkz : Nat), Kp h1 hz → evE O k sc σ b = some d → wpAny (model prog w) A (eval (.BoolOp op [b] p) env) Q E { s with heap := hz, toks := tkz } := fun h1 k1 hz tkz k2 he => BoolOp_one (ev _ _ he A _ _ E ((hk.trans k1).trans k2) am fun z h3 tk3 k3 r3 => hq z h3 tk3 ((k1.trans k2).trans k3) r3)
  cases op
  · refine BoolOp_and (ev _ dd hd A s _ E hk am fun v h1 tk1 k1 r1 => tru_ok (n := n) r1 hb A _ _ E (Kp.refl _) am fun c' h2 tk2 k2 r2 => ?_)
    subst r2
    first | with_reducible exact ns c' | cases c'
    · cases (show some dd = some d from he)
      exact hq v h2 tk2 (k1.trans k2) (Rep.mono (fz_mono k2) r1)
    · exact one h1 k1 h2 tk2 k2 he
  · refine BoolOp_or (ev _ dd hd A s _ E hk am fun v h1 tk1 k1 r1 => tru_ok (n := n) r1 hb A _ _ E (Kp.refl _) am fun c' h2 tk2 k2 r2 => ?_)
    subst r2
    first | with_reducible exact ns c' | cases c'
    · exact one h1 k1 h2 tk2 k2 he
    · cases (show some dd = some d from he)
      exact hq v h2 tk2 (k1.trans k2) (Rep.mono (fz_mono k2) r1)
theorem pe_IfExp (hn : 1 ≤ n) (o : OrcOK prog w n Base O) (hE : PE prog w n Base O k) (hT : PT prog w n Base O k) (hC : PC prog w n Base O k) {t a b : Expr} {p : Pos} {d : D} (he : evE O (k + 1) sc σ (.IfExp t a b p) = some d) (eo : EnvOK env sc) (cal : CellsAl h env) (vo : VarsOK h W X env σ) (al : Al W h) (ba : Base h W) (hXW : ∀ a ∈ X, a ∈ W) : Gv prog w n W (eval (.IfExp t a b p) env) d h := by
  have ev : ∀ e d, evE O k sc σ e = some d → Gv prog w n W (eval e env) d h := fun e d he => hE sc σ e d he env h W X eo cal vo al ba hXW
  have tst : ∀ e b, evT O k sc σ e = some b → GvB prog w n W (PySem.isTrue e env (eval e env)) b h := fun e b he => hT sc σ e b he env h W X eo cal vo al ba hXW
  obtain ⟨c, hc, he⟩ := bind_inv (show (evT O k sc σ t).bind _ = some d from he)
  intro A s Q E hk am hq
  refine IfExp_ (tst _ _ hc A s _ E hk am fun c' h1 tk1 k1 r1 => ?_)
  subst r1
  first | with_reducible exact ns c' | cases c'
  · exact ev _ _ he A _ _ E (hk.trans k1) am fun z h3 tk3 k3 r3 => hq z h3 tk3 (k1.trans k3) r3
  · exact ev _ _ he A _ _ E (hk.trans k1) am fun z h3 tk3 k3 r3 => hq z h3 tk3 (k1.trans k3) r3
theorem pe_Compare (hn : 1 ≤ n) (o : OrcOK prog w n Base O) (hE : PE prog w n Base O k) (hT : PT prog w n Base O k) (hC : PC prog w n Base O k) {l : Expr} {ops : List CmpOp} {rs : List Expr} {p : Pos} {d : D} (he : evE O (k + 1) sc σ (.Compare l ops rs p) = some d) (eo : EnvOK env sc) (cal : CellsAl h env) (vo : VarsOK h W X env σ) (al : Al W h) (ba : Base h W) (hXW : ∀ a ∈ X, a ∈ W) : Gv prog w n W (eval (.Compare l ops rs p) env) d h := by
  have ev : ∀ e d, evE O k sc σ e = some d → Gv prog w n W (eval e env) d h := fun e d he => hE sc σ e d he env h W X eo cal vo al ba hXW
  obtain ⟨c, hc, he⟩ := bind_inv (show (cmpE O (evE O k sc σ) l ops rs).bind _ = some d from he)
  first | with_reducible exact ns he | cases he
  obtain ⟨op, r, a, b, rfl, rfl, hp, ha, hb, hc⟩ := cmpE_inv hc
  intro A s Q E hk am hq
  refine wpAny_Compare1 (ev _ a ha A s _ E hk am fun v h1 tk1 k1 r1 => ev _ b hb A _ _ E (hk.trans k1) am fun u h2 tk2 k2 r2 => ?_) (behind_ok hp)
  exact cmpO_ok o (o.keep ba ((hk.trans k1).trans k2)) hn (Rep.mono (fz_mono k2) r1) r2 hc A _ Q E (Kp.refl _) am fun z h3 tk3 k3 r3 => hq z h3 tk3 ((k1.trans k2).trans k3) r3
theorem pe_Subscript (hn : 1 ≤ n) (o : OrcOK prog w n Base O) (hE : PE prog w n Base O k) (hT : PT prog w n Base O k) (hC : PC prog w n Base O k) {v i : Expr} {p : Pos} {d : D} (he : evE O (k + 1) sc σ (.Subscript v i p) = some d) (eo : EnvOK env sc) (cal : CellsAl h env) (vo : VarsOK h W X env σ) (al : Al W h) (ba : Base h W) (hXW : ∀ a ∈ X, a ∈ W) : Gv prog w n W (eval (.Subscript v i p) env) d h := by
  have ev : ∀ e d, evE O k sc σ e = some d → Gv prog w n W (eval e env) d h := fun e d he => hE sc σ e d he env h W X eo cal vo al ba hXW
  have he : subE O (evE O k sc σ) v i = some d := he
  by_cases hs : isSlice i = true
  · unfold subE at he
    rw [if_pos hs] at he
    obtain ⟨lo, hi, st, q, rfl⟩ := isSlice_is hs
    cases st with
    | some _ => exact ns he
    | none =>
    obtain ⟨dd, hd, he⟩ := bind_inv (show (evE O k sc σ v).bind _ = some d from he)
    obtain ⟨a, ha, he⟩ := bind_inv he
    obtain ⟨b, hb, he⟩ := bind_inv he
    refine sub_ok (R := fun g v => Rep g dd v) (S := fun g v => SlcAt g v a b) (ev _ _ hd) (fun h' kk => slice_ok (al.mono kk) (fun e d q => (ev e d q).up kk) ha hb) fun ov iv h1 h2 k1 k2 r1 r2 => ?_
    obtain ⟨sl, ob, va, vb, rfl, hg, hc, hdt, pa, pb⟩ := r2
    exact cut_ok ((al.mono k1).mono k2) (Rep.mono (fz_mono k2) r1) pa pb ⟨ob, (fz_some.mp hg).2, hc, hdt⟩ he
  · unfold subE at he
    rw [if_neg hs] at he
    obtain ⟨dd, hd, he⟩ := bind_inv he
    obtain ⟨ji, hj, he⟩ := bind_inv he
    refine sub_ok (R := fun g v => Rep g dd v) (S := fun g v => Rep g ji v) (ev _ _ hd) (fun h' kk => (ev _ _ hj).up kk) fun ov iv h1 h2 k1 k2 r1 r2 => ?_
    exact itemO_ok o (o.keep ba (k1.trans k2)) (Rep.mono (fz_mono k2) r1) r2 he
theorem pe_Attribute (hn : 1 ≤ n) (o : OrcOK prog w n Base O) (hE : PE prog w n Base O k) (hT : PT prog w n Base O k) (hC : PC prog w n Base O k) {ob : Expr} {name : Str} {p : Pos} {d : D} (he : evE O (k + 1) sc σ (.Attribute ob name p) = some d) (eo : EnvOK env sc) (cal : CellsAl h env) (vo : VarsOK h W X env σ) (al : Al W h) (ba : Base h W) (hXW : ∀ a ∈ X, a ∈ W) : Gv prog w n W (eval (.Attribute ob name p) env) d h := by
  have ev : ∀ e d, evE O k sc σ e = some d → Gv prog w n W (eval e env) d h := fun e d he => hE sc σ e d he env h W X eo cal vo al ba hXW
  have he : attrE O ob (evE O k sc σ ob) name = some d := he
  by_cases hs : notSuper ob = true
  · unfold attrE at he
    rw [if_pos hs] at he
    obtain ⟨dd, hd, he⟩ := bind_inv he
    cases dd <;> first | (exact ns he) | skip
    intro A s Q E hk am hq
    refine attr_is hs (ev _ _ hd A s _ E hk am fun u h1 tk1 k1 r1 => ?_)
    have q : u = _ := r1
    subst q
    exact o.attr (o.keep ba (hk.trans k1)) he A _ Q E (Kp.refl _) am fun z h2 tk2 k2 r2 => hq z h2 tk2 (k1.trans k2) r2
  · unfold attrE at he
    rw [if_neg hs] at he
    first | with_reducible exact ns he | cases he
theorem pe_List (hn : 1 ≤ n) (o : OrcOK prog w n Base O) (hE : PE prog w n Base O k) (hT : PT prog w n Base O k) (hC : PC prog w n Base O k) {es : List Expr} {p : Pos} {d : D} (he : evE O (k + 1) sc σ (.List es p) = some d) (eo : EnvOK env sc) (cal : CellsAl h env) (vo : VarsOK h W X env σ) (al : Al W h) (ba : Base h W) (hXW : ∀ a ∈ X, a ∈ W) : Gv prog w n W (eval (.List es p) env) d h := by
  have ev : ∀ e d, evE O k sc σ e = some d → Gv prog w n W (eval e env) d h := fun e d he => hE sc σ e d he env h W X eo cal vo al ba hXW
  have ev' : ∀ (es : List Expr), ∀ e ∈ es, ∀ d h', Kp h h' → evE O k sc σ e = some d → Gv prog w n W (eval e env) d h' := fun es e _ d h' kk he => (ev e d he).up kk
  obtain ⟨ds, hs, hds, hz, rfl⟩ := litE_inv (show litE (evE O k sc σ) .list es = some d from he)
  intro A s Q E hk am hq
  refine List_ (args_ok hs (ev' _) hds A s _ E hk am fun vs h1 tk1 k1 r1 => ?_)
  exact new_list ((al.mono hk).mono k1) hz r1 A _ Q E (Kp.refl _) am fun z h3 tk3 k3 r3 => hq z h3 tk3 (k1.trans k3) r3
theorem pe_Tuple (hn : 1 ≤ n) (o : OrcOK prog w n Base O) (hE : PE prog w n Base O k) (hT : PT prog w n Base O k) (hC : PC prog w n Base O k) {es : List Expr} {c : Nat} {p : Pos} {d : D} (he : evE O (k + 1) sc σ (.Tuple es c p) = some d) (eo : EnvOK env sc) (cal : CellsAl h env) (vo : VarsOK h W X env σ) (al : Al W h) (ba : Base h W) (hXW : ∀ a ∈ X, a ∈ W) : Gv prog w n W (eval (.Tuple es c p) env) d h := by
  have ev : ∀ e d, evE O k sc σ e = some d → Gv prog w n W (eval e env) d h := fun e d he => hE sc σ e d he env h W X eo cal vo al ba hXW
  have ev' : ∀ (es : List Expr), ∀ e ∈ es, ∀ d h', Kp h h' → evE O k sc σ e = some d → Gv prog w n W (eval e env) d h' := fun es e _ d h' kk he => (ev e d he).up kk
  obtain ⟨ds, hs, hds, hz, rfl⟩ := litE_inv (show litE (evE O k sc σ) .tuple es = some d from he)
  intro A s Q E hk am hq
  refine Tuple_ (args_ok hs (ev' _) hds A s _ E hk am fun vs h1 tk1 k1 r1 => ?_)
  exact new_tuple ((al.mono hk).mono k1) hz r1 A _ Q E (Kp.refl _) am fun z h3 tk3 k3 r3 => hq z h3 tk3 (k1.trans k3) r3
theorem pe_Call (hn : 1 ≤ n) (o : OrcOK prog w n Base O) (hE : PE prog w n Base O k) (hT : PT prog w n Base O k) (hC : PC prog w n Base O k) {f : Expr} {args : List Expr} {kws : List Keyword} {pos : Pos} {d : D} (he : evE O (k + 1) sc σ (.Call f args kws pos) = some d) (eo : EnvOK env sc) (cal : CellsAl h env) (vo : VarsOK h W X env σ) (al : Al W h) (ba : Base h W) (hXW : ∀ a ∈ X, a ∈ W) : Gv prog w n W (eval (.Call f args kws pos) env) d h := by
  have ev : ∀ e d, evE O k sc σ e = some d → Gv prog w n W (eval e env) d h := fun e d he => hE sc σ e d he env h W X eo cal vo al ba hXW
  have ev' : ∀ (es : List Expr), ∀ e ∈ es, ∀ d h', Kp h h' → evE O k sc σ e = some d → Gv prog w n W (eval e env) d h' := fun es e _ d h' kk he => (ev e d he).up kk
  have he : callE O (evE O k sc σ) f args kws pos = some d := he
  cases kws with
  | cons _ _ => exact ns he
  | nil =>
  have he : (if isAttr f = true then methE O (evE O k sc σ) f args pos else if args.any starred then none else (evE O k sc σ f).bind fun d => (allSome (evE O k sc σ) args).bind fun ds => applyD O d ds) = some d := he
  cases hf : isAttr f
  case true =>
    have he := (if_pos hf).symm.trans he
    obtain ⟨ob, name, apos, rfl⟩ := isAttr_is hf
    have he : (if (args.any starred || !(decide (args.length < 30)) || !(apos.endLine == pos.line) || !(notSuper ob)) = true then none else (evE O k sc σ ob).bind fun d => (allSome (evE O k sc σ) args).bind fun ds => methO O name d ds) = some d := he
    obtain ⟨hs, he⟩ := ifn_inv he
    obtain ⟨hs1, hs2, hs3, hs4⟩ := four_no (Bool.eq_false_iff.mpr hs)
    obtain ⟨dd, hd, he⟩ := bind_inv he
    obtain ⟨ds, hds, he⟩ := bind_inv he
    intro A s Q E hk am hq
    refine MethodCall_ (ev _ _ hd A s _ E hk am fun v h1 tk1 k1 r1 => ?_) (method_is hs4 hs1 hs2 hs3)
    refine methO_ok o (o.keep ba (hk.trans k1)) (star_plain hs1) r1 ((al.mono hk).mono k1) he (Kp.refl _) am (fun fv s1 Q' ks hq' => evargs_ok (h := h) hs1 (ev' _) hds ((hk.trans k1).trans ks) am fun vs h2 tk2 k2 r2 => hq' vs h2 tk2 k2 r2) fun z h3 tk3 k3 r3 => hq z h3 tk3 (k1.trans k3) r3
  case false =>
    obtain ⟨hs, he⟩ := ifn_inv ((if_neg (by rw [hf]; exact Bool.false_ne_true)).symm.trans he)
    obtain ⟨dd, hd, he⟩ := bind_inv he
    obtain ⟨ds, hds, he⟩ := bind_inv he
    intro A s Q E hk am hq
    refine PyProof.Rows.Call_ (ev _ _ hd A s _ E hk am fun v h1 tk1 k1 r1 => ?_) (call_plain hf args pos env)
    exact apply_ok hn o (o.keep ba (hk.trans k1)) ((al.mono hk).mono k1) r1 (Bool.eq_false_iff.mpr hs) (fun e m d h' kk he => ((ev e d he).up hk).up (k1.trans kk)) hds he A _ Q E (Kp.refl _) am fun z h3 tk3 k3 r3 => hq z h3 tk3 (k1.trans k3) r3
theorem pe_ListComp (hn : 1 ≤ n) (o : OrcOK prog w n Base O) (hE : PE prog w n Base O k) (hT : PT prog w n Base O k) (hC : PC prog w n Base O k) {elt : Expr} {gs : List Comprehension} {scope : Scope} {p : Pos} {d : D} (he : evE O (k + 1) sc σ (.ListComp elt gs scope p) = some d) (eo : EnvOK env sc) (cal : CellsAl h env) (vo : VarsOK h W X env σ) (al : Al W h) (ba : Base h W) (hXW : ∀ a ∈ X, a ∈ W) : Gv prog w n W (eval (.ListComp elt gs scope p) env) d h := by
  cases gs with
  | nil => exact ns he
  | cons g gs =>
  obtain ⟨ds, es, hc, hds, hes, hz, rfl⟩ := compE_inv he
  simp only [Bool.and_eq_true, decide_eq_true_eq] at hc
  obtain ⟨⟨hp, ha⟩, hs⟩ := hc
  intro A s Q E hk am hq
  rw [eval_ListComp]
  refine comp_gen o hE hC hp ha hs hds hes hz eo cal vo al ba hXW hk am fun C D' h' tk' ys m kk hC0 hD0 hCD hns hD rl => ?_
  refine ⟨m, hns, fun h'' hs'' => ?_⟩
  have alS := al.mono hk
  have hkk : Kp s.heap h'' := fun b ob e => (hs''.2 b (fun q => by first | exact dead2 (hC0) (q ▸ e) | (rw [q, hC0] at e; cases e))).trans (kk b ob e)
  refine hq _ h'' tk' hkk (rep_list (alS.fresh hD0) (let ⟨md, gd⟩ := hD; ⟨_, (hs''.2 D' (Ne.symm hCD)).trans gd, rfl, md, rfl, rfl⟩) (RepL.mono (fun a ob q => ?_) rl))
  obtain ⟨q1, q2⟩ := fz_some.mp q
  exact fz_some.mpr ⟨fun z => q1 (List.mem_cons_of_mem _ (List.mem_cons_of_mem _ z)), (hs''.2 a (fun z => q1 (z ▸ List.mem_cons_self))).trans q2⟩
theorem pe_step (hn : 1 ≤ n) (o : OrcOK prog w n Base O) (hE : PE prog w n Base O k) (hT : PT prog w n Base O k) (hC : PC prog w n Base O k) : PE prog w n Base O (k + 1) := by
  intro sc σ e d he env h W X eo cal vo al ba hXW
  cases e <;> first | (exact ns he) | skip
  case Constant => exact pe_Constant hn o hE hT hC he eo cal vo al ba hXW
  case Name => exact pe_Name hn o hE hT hC he eo cal vo al ba hXW
  case BinOp => exact pe_BinOp hn o hE hT hC he eo cal vo al ba hXW
  case UnaryOp => exact pe_UnaryOp hn o hE hT hC he eo cal vo al ba hXW
  case BoolOp => exact pe_BoolOp hn o hE hT hC he eo cal vo al ba hXW
  case IfExp => exact pe_IfExp hn o hE hT hC he eo cal vo al ba hXW
  case Compare => exact pe_Compare hn o hE hT hC he eo cal vo al ba hXW
  case Subscript => exact pe_Subscript hn o hE hT hC he eo cal vo al ba hXW
  case Attribute => exact pe_Attribute hn o hE hT hC he eo cal vo al ba hXW
  case List => exact pe_List hn o hE hT hC he eo cal vo al ba hXW
  case Tuple => exact pe_Tuple hn o hE hT hC he eo cal vo al ba hXW
  case Call => exact pe_Call hn o hE hT hC he eo cal vo al ba hXW
  case ListComp => exact pe_ListComp hn o hE hT hC he eo cal vo al ba hXW

theorem all_ok {f : Expr → Option Bool} {op : BoolOp} : ∀ {es : List Expr} {b : Bool} {h : Heap}, (∀ e ∈ es, ∀ b h', Kp h h' → f e = some b → GvB prog w n W (PySem.isTrue e env (eval e env)) b h') → allT f op es = some b → GvB prog w n W (allTrue op es env) b h
  | [], b, h, _, he => by
    intro A s Q E hk am hq
    cases op
    · rw [← Option.some.inj (show some true = some b from he)] at hq; exact wpAny_allTrue_And_nil (hq _ s.heap s.toks (Kp.refl _) rfl)
    · rw [← Option.some.inj (show some false = some b from he)] at hq; exact wpAny_allTrue_Or_nil (hq _ s.heap s.toks (Kp.refl _) rfl)
  | x :: r, b, h, hf, he => by
    intro A s Q E hk am hq
    cases op
    · obtain ⟨c, h1, he⟩ := bind_inv (show (f x).bind _ = some b from he)
      refine wpAny_allTrue_And_cons (hf x List.mem_cons_self _ h (Kp.refl _) h1 A s _ E hk am fun c' hh tk1 k1 r1 => ?_)
      subst r1
      cases c' with
      | true => exact all_ok (h := h) (fun e' m b' h'' k' e1 => hf e' (List.mem_cons_of_mem _ m) b' h'' k' e1) he A _ Q E (hk.trans k1) am fun z h3 tk3 k3 r3 => hq z h3 tk3 (k1.trans k3) r3
      | false => exact hq _ hh tk1 k1 (Option.some.inj he)
    · obtain ⟨c, h1, he⟩ := bind_inv (show (f x).bind _ = some b from he)
      refine wpAny_allTrue_Or_cons (hf x List.mem_cons_self _ h (Kp.refl _) h1 A s _ E hk am fun c' hh tk1 k1 r1 => ?_)
      subst r1
      cases c' with
      | true => exact hq _ hh tk1 k1 (Option.some.inj he)
      | false => exact all_ok (h := h) (fun e' m b' h'' k' e1 => hf e' (List.mem_cons_of_mem _ m) b' h'' k' e1) he A _ Q E (hk.trans k1) am fun z h3 tk3 k3 r3 => hq z h3 tk3 (k1.trans k3) r3

theorem pt_step (hn : 1 ≤ n) (o : OrcOK prog w n Base O) (hE : PE prog w n Base O k) (hT : PT prog w n Base O k) : PT prog w n Base O (k + 1) := by
  intro sc σ e b he env h W X eo cal vo al ba hXW
  have ev : ∀ e d, evE O k sc σ e = some d → Gv prog w n W (eval e env) d h := fun e d he => hE sc σ e d he env h W X eo cal vo al ba hXW
  have tst : ∀ e b, evT O k sc σ e = some b → GvB prog w n W (PySem.isTrue e env (eval e env)) b h := fun e b he => hT sc σ e b he env h W X eo cal vo al ba hXW
  cases hx : isTst e
  case false =>
    obtain ⟨d, hd, ht⟩ := bind_inv ((evT_plain hx).symm.trans he)
    intro A s Q E hk am hq
    refine isTrue_plain (ev e d hd A s _ E hk am fun v h1 tk1 k1 r1 => ?_) (test_plain hx env)
    exact tru_ok (n := n) r1 ht A _ Q E (Kp.refl _) am fun z h4 tk4 k4 r4 => hq z h4 tk4 (k1.trans k4) r4
  cases e <;> first | exact (Bool.false_ne_true hx).elim | skip
  case UnaryOp op x p =>
    cases op <;> first | (exact ns he) | skip
    obtain ⟨c, hc, he⟩ := bind_inv (show (evT O k sc σ x).bind _ = some b from he)
    first | with_reducible exact ns he | cases he
    intro A s Q E hk am hq
    refine isTrue_not (tst _ _ hc A s _ E hk am fun z h1 tk1 k1 r1 => hq _ h1 tk1 k1 (by rw [r1]))
  case BoolOp op vs p =>
    intro A s Q E hk am hq
    exact wpAny_isTrue_BoolOp (all_ok (h := h) (fun e' _ b' h'' k' e1 => (tst e' b' e1).up k') he A s Q E hk am hq)
  case IfExp => exact ns he
  case Compare l ops rs p =>
    obtain ⟨op, r, a, c, rfl, rfl, hp, ha, hb, hc⟩ := cmpE_inv he
    intro A s Q E hk am hq
    refine wpAny_isTrue_Compare1 (ev _ a ha A s _ E hk am fun v h1 tk1 k1 r1 => ev _ c hb A _ _ E (hk.trans k1) am fun u h2 tk2 k2 r2 => ?_) (behind_ok hp)
    refine cmpO_ok o (o.keep ba ((hk.trans k1).trans k2)) hn (Rep.mono (fz_mono k2) r1) r2 hc A _ _ E (Kp.refl _) am fun z h3 tk3 k3 r3 => ?_
    exact tru_ok (d := .bool b) (n := n) r3 rfl A _ Q E (Kp.refl _) am fun z h4 tk4 k4 r4 => hq z h4 tk4 (((k1.trans k2).trans k3).trans k4) r4

theorem ev_all (hn : 1 ≤ n) (o : OrcOK prog w n Base O) : ∀ k, PE prog w n Base O k ∧ PT prog w n Base O k ∧ PC prog w n Base O k
  | 0 => ⟨fun sc σ e d he => ns he, fun sc σ e d he => ns he, fun sc σ elt g gs ds es he => ns he⟩
  | k + 1 => let ⟨a, b, c⟩ := ev_all hn o k; ⟨pe_step hn o a b c, pt_step hn o a b, pc_step o a b c⟩
end
end
section
inductive Fl where
  | next | brk | ret (d : D)

noncomputable def setV : Vars → Str → B → Vars
  | [], x, b => [(x, b)]
  | (y, c) :: r, x, b => if x == y then (y, b) :: r else (y, c) :: setV r x b
noncomputable def setAll : Vars → List Str → List B → Vars
  | σ, x :: xs, b :: bs => setAll (setV σ x b) xs bs
  | σ, _, _ => σ
noncomputable def nameT : Expr → Option Str
  | .Name x _ => some x
  | _ => none
noncomputable def namesT : List Expr → Option (List Str)
  | [] => some []
  | e :: es => (nameT e).bind fun x => (namesT es).bind fun xs => some (x :: xs)
theorem namesT_inv {e : Expr} {es : List Expr} {ys : List Str} (h : namesT (e :: es) = some ys) : ∃ x xs, nameT e = some x ∧ namesT es = some xs ∧ ys = x :: xs := by
  obtain ⟨x, hx, h⟩ := bind_inv h
  obtain ⟨xs, hs, h⟩ := bind_inv h
  exact ⟨x, xs, hx, hs, (Option.some.inj h).symm⟩
noncomputable def tgtOk (sc : List (Str × NameKind)) (x : Str) : Bool := okName x && (sc.lookup x == some .local || sc.lookup x == some .cell)
noncomputable def isEmptyL : Expr → Bool
  | .List [] _ => true
  | _ => false
noncomputable def oneB (f : Expr → Option D) (ap : List Str) (x : Str) (e : Expr) : Option B :=
  if isEmptyL e && ap.contains x then some (.own []) else (f e).map .val
noncomputable def manyB (f : Expr → Option D) (ap : List Str) : List Str → List Expr → Option (List B)
  | [], [] => some []
  | x :: xs, e :: es => (oneB f ap x e).bind fun b => (manyB f ap xs es).bind fun bs => some (b :: bs)
  | _, _ => none
noncomputable def frzB : B → B
  | .own ds => .val (.list ds)
  | b => b
noncomputable def frzAll (σ : Vars) : Vars := σ.map fun p => (p.1, frzB p.2)
noncomputable def seqD : D → Option (List D)
  | .list ds => some ds
  | .tuple ds => some ds
  | _ => none
noncomputable def setT (sc : List (Str × NameKind)) (t : Expr) (σ : Vars) (d : D) : Option Vars := match t with
  | .Name x _ => if tgtOk sc x then some (setV σ x (.val d)) else none
  | .Tuple ts _ _ => (namesT ts).bind fun xs => (seqD d).bind fun ds => if xs.all (tgtOk sc) && (nodupS xs && decide (ds.length = xs.length)) then some (setAll σ xs (ds.map .val)) else none
  | _ => none
noncomputable def isOwnB : B → Bool
  | .own _ => true
  | _ => false

noncomputable def contF (k : Vars → Option (Vars × Fl)) : Vars × Fl → Option (Vars × Fl)
  | (σ, .next) => k σ
  | r => some r
noncomputable def blkD (f : Vars → Stmt → Option (Vars × Fl)) : List Stmt → Vars → Option (Vars × Fl)
  | [], σ => some (σ, .next)
  | st :: r, σ => (f σ st).bind (contF fun σ' => blkD f r σ')
noncomputable def stepF (k : Vars → Option (Vars × Fl)) : Vars × Fl → Option (Vars × Fl)
  | (σ, .next) => k σ
  | (σ, .brk) => some (σ, .next)
  | r => some r
theorem stepF_inv {k : Vars → Option (Vars × Fl)} {o : Option (Vars × Fl)} {σ' : Vars} {fl : Fl} (h : o.bind (stepF k) = some (σ', fl)) : (∃ σ2, o = some (σ2, .next) ∧ k σ2 = some (σ', fl)) ∨ (o = some (σ', .brk) ∧ fl = .next) ∨ ∃ d', o = some (σ', .ret d') ∧ fl = .ret d' := by
  obtain ⟨⟨σ2, f2⟩, rfl, h⟩ := bind_inv h
  cases f2 with
  | next => exact .inl ⟨σ2, rfl, h⟩
  | brk => cases (show some (σ2, Fl.next) = some (σ', fl) from h); exact .inr (.inl ⟨rfl, rfl⟩)
  | ret d' => cases (show some (σ2, Fl.ret d') = some (σ', fl) from h); exact .inr (.inr ⟨d', rfl, rfl⟩)
noncomputable def whileD (t : Vars → Option Bool) (b : Vars → Option (Vars × Fl)) : Nat → Vars → Option (Vars × Fl)
  | 0, _ => none
  | k + 1, σ => (t σ).bind fun c => if c = true then (b σ).bind (stepF fun σ' => whileD t b k σ') else some (σ, .next)
noncomputable def forD (t : Vars → D → Option Vars) (b els : Vars → Option (Vars × Fl)) : List D → Vars → Option (Vars × Fl)
  | [], σ => els σ
  | d :: ds, σ => (t σ d).bind fun σ1 => (b σ1).bind (stepF fun σ' => forD t b els ds σ')

noncomputable def dispOf : Expr → Option (List Expr)
  | .Tuple vs _ _ => some vs
  | _ => none
noncomputable def dispX (f : Expr → Option D) (ap : List Str) (sc : List (Str × NameKind)) (σ : Vars) (ts vs : List Expr) : Option (Vars × Fl) := (namesT ts).bind fun xs => (manyB f ap xs vs).bind fun bs =>
  if xs.all (tgtOk sc) && (xs.all (fun x => sc.lookup x == some .local) && (nodupS xs && (!(vs.any starred) && (!(vs.all (constantsAlone 8)) && (decide ((bs.filter isOwnB).length ≤ 1) && decide (bs.length ≤ 1000)))))) then some (setAll σ xs bs, .next) else none
noncomputable def tupX (f : Expr → Option D) (sc : List (Str × NameKind)) (σ : Vars) (t v : Expr) : Option (Vars × Fl) := (f v).bind fun d => (setT sc t σ d).map fun σ' => (σ', .next)
noncomputable def nameX (f : Expr → Option D) (ap : List Str) (sc : List (Str × NameKind)) (σ : Vars) (x : Str) (v : Expr) : Option (Vars × Fl) := if tgtOk sc x then (oneB f ap x v).map fun b => (setV σ x b, .next) else none
noncomputable def asgX (f : Expr → Option D) (ap : List Str) (sc : List (Str × NameKind)) (σ : Vars) (t v : Expr) : Option (Vars × Fl) := match t with
  | .Name x _ => nameX f ap sc σ x v
  | .Tuple ts kc p => (match dispOf v with
    | some vs => dispX f ap sc σ ts vs
    | none => tupX f sc σ (.Tuple ts kc p) v)
  | _ => none
noncomputable def appX (f : Expr → Option D) (σ : Vars) (x nm : Str) (apos pos : Pos) (e : Expr) : Option (Vars × Fl) := match σ.lookup x with
  | some (.own ds) => (f e).bind fun d => if nm = Str.ofString "append" ∧ starred e = false ∧ (apos.endLine == pos.line) = true ∧ ds.length < 1048576 then some (setV σ x (.own (ds ++ [d])), .next) else none
  | _ => none
noncomputable def methX (f : Expr → Option D) (σ : Vars) (c e : Expr) (pos : Pos) : Option (Vars × Fl) := match c with
  | .Attribute o nm apos => (match o with
    | .Name x _ => appX f σ x nm apos pos e
    | _ => none)
  | _ => none
noncomputable def exprX (f : Expr → Option D) (σ : Vars) (e : Expr) : Option (Vars × Fl) := match e with
  | .Call c args kws pos => (match kws with
    | [] => (match args with
      | [e] => methX f σ c e pos
      | _ => none)
    | _ => none)
  | _ => none
noncomputable def exS (O : Orc) (ap : List Str) : Nat → List (Str × NameKind) → Vars → Stmt → Option (Vars × Fl)
  | 0, _, _, _ => none
  | k + 1, sc, σ, st => match st with
    | .Assign ts v _ => (match ts with
      | [t] => asgX (evE O k sc σ) ap sc σ t v
      | _ => none)
    | .Expr e _ => exprX (evE O k sc σ) σ e
    | .If t b o _ => match evT O k sc σ t with
      | some true => blkD (exS O ap k sc) b σ
      | some false => blkD (exS O ap k sc) o σ
      | none => none
    | .While t b els _ => (match els with
      | [] => whileD (fun σ => evT O k sc σ t) (fun σ => blkD (exS O ap k sc) b σ) k σ
      | _ => none)
    | .For t i b o _ => if plainSrc i then ((evE O k sc σ i).bind iterD).bind fun ds =>
        forD (setT sc t) (fun σ => blkD (exS O ap k sc) b σ) (fun σ => blkD (exS O ap k sc) o σ) ds σ else none
    | .Return r _ => (match r with
      | some e => (evE O k sc (frzAll σ) e).map fun d => (σ, .ret d)
      | none => none)
    | .Break _ => some (σ, .brk)
    | .Pass _ => some (σ, .next)
    | _ => none

theorem lookup_setV (y x : Str) (b : B) : ∀ σ : Vars, (setV σ x b).lookup y = if y == x then some b else σ.lookup y
  | [] => by show ([(x, b)] : Vars).lookup y = _; rw [List.lookup_cons]; cases y == x <;> rfl
  | (z, c) :: r => by
    show List.lookup y (if x == z then (z, b) :: r else (z, c) :: setV r x b) = _
    split
    · rename_i h
      have := beq_iff_eq.mp h
      subst this
      rw [List.lookup_cons, List.lookup_cons]
      cases y == x <;> rfl
    · rename_i h
      rw [List.lookup_cons, List.lookup_cons, lookup_setV y x b r]
      cases q : y == z with
      | true =>
        have := beq_iff_eq.mp q
        subst this
        have : (y == x) = false := by
          cases e : y == x with
          | false => rfl
          | true => exact absurd (by rw [beq_iff_eq.mp e]; simp) h
        rw [this]; rfl
      | false => rfl
theorem lookup_frz (y : Str) : ∀ σ : Vars, (frzAll σ).lookup y = (σ.lookup y).map frzB
  | [] => rfl
  | (z, c) :: r => by
    show ((z, frzB c) :: frzAll r).lookup y = _
    rw [List.lookup_cons, List.lookup_cons]
    cases y == z
    · exact lookup_frz y r
    · rfl

theorem ns_fun {h : Heap} {a : Addr} {m m' : Str → Option Value} (x : h.Ns a m) (y : h.Ns a m') (z : Str) : m z = m' z := by
  obtain ⟨o, es, ep, e, hd, -, hf⟩ := x
  obtain ⟨o', es', ep', e', hd', -, hf'⟩ := y
  first | exact dead2 (e) e' | exact dead2 e' (e) | (rw [e] at e'; cases e'); first | exact dead2 (hd) hd' | exact dead2 hd' (hd) | (rw [hd] at hd'; cases hd')
  rw [← hf z, ← hf' z]
theorem cell_fun {h : Heap} {a : Addr} {u v : Option Value} (x : h.IsCell a u) (y : h.IsCell a v) : u = v := by
  obtain ⟨o, e, d⟩ := x
  obtain ⟨o', e', d'⟩ := y
  first | exact dead2 (e) e' | exact dead2 e' (e) | (rw [e] at e'; cases e'); first | exact dead2 (d) d' | exact dead2 d' (d) | (rw [d] at d'; cases d'); rfl
theorem Holds.one {h : Heap} {X : List Addr} {env : Env} {x : Str} {u v : Value} (a : Holds h X env x u) (b : Holds h X env x v) : u = v := by
  rcases a with ⟨k, _, m, hm, e⟩ | ⟨k, c, e, _, hc⟩ <;> rcases b with ⟨k', _, m', hm', e'⟩ | ⟨k', c', e', _, hc'⟩
  · have := ns_fun hm hm' x
    first | exact dead2 (e') (e ▸ this) | (rw [e, e'] at this; cases this); rfl
  · rcases k' with q | q <;> · first | exact dead2 (k) q | exact dead2 q (k) | (rw [k] at q; cases q)
  · rcases k with q | q <;> · first | exact dead2 (k') q | exact dead2 q (k') | (rw [k'] at q; cases q)
  · first | exact dead2 (e) e' | exact dead2 e' (e) | (rw [e] at e'; cases e')
    have := cell_fun hc hc'
    cases this; rfl

structure FS (Base : Heap → List Addr → Prop) (h : Heap) (V W0 X : List Addr) (env : Env) (sc : List (Str × NameKind)) (T : List Addr) (σ : Vars) : Prop where
  eo : EnvOK env sc
  cal : CellsAl h env
  fra : Fra h env sc T
  tv : ∀ a ∈ T, a ∈ V
  tx : ∀ a ∈ T, a ∉ X
  xw : ∀ a ∈ X, a ∈ V ++ W0
  vw : ∀ a ∈ V, a ∉ W0
  al : Al (V ++ W0) h
  vo : VarsOK h (V ++ W0) X env σ
  ownV : ∀ x ds a, σ.lookup x = some (.own ds) → Holds h X env x (.ref a) → a ∈ V
  apart : ∀ x y ds es a, σ.lookup x = some (.own ds) → σ.lookup y = some (.own es) → Holds h X env x (.ref a) → Holds h X env y (.ref a) → x = y
  base : Base h (V ++ W0)

section
variable {prog : Program} {w : World} {n : Nat} {Base : Heap → List Addr → Prop} {O : Orc} {h h' : Heap} {V W0 X T : List Addr} {env : Env} {sc : List (Str × NameKind)} {σ σ' : Vars}
theorem FS.congr (f : FS Base h V W0 X env sc T σ) (e : ∀ x, σ.lookup x = σ'.lookup x) : FS Base h V W0 X env sc T σ' where
  eo := f.eo
  cal := f.cal
  fra := f.fra
  tv := f.tv
  tx := f.tx
  xw := f.xw
  vw := f.vw
  al := f.al
  vo := fun x b q => f.vo x b (by rw [e]; exact q)
  ownV := fun x ds a q => f.ownV x ds a (by rw [e]; exact q)
  apart := fun x y ds es a q q' => f.apart x y ds es a (by rw [e]; exact q) (by rw [e]; exact q')
  base := f.base
theorem FS.kp (o : OrcOK prog w n Base O) (f : FS Base h V W0 X env sc T σ) (k : Kp h h') : FS Base h' V W0 X env sc T σ where
  eo := f.eo
  cal := f.cal.kw (Kw.of k (X := []))
  fra := f.fra.kp k
  tv := f.tv
  tx := f.tx
  xw := f.xw
  vw := f.vw
  al := f.al.mono k
  vo := f.vo.mono k
  ownV := fun x ds a q hv => by
    obtain ⟨ok, v, hv', r⟩ := f.vo x _ q
    have := (hv'.mono k).one hv
    subst this
    exact f.ownV x ds a q hv'
  apart := fun x y ds es a q q' hx hy => by
    obtain ⟨_, v, hv, _⟩ := f.vo x _ q
    obtain ⟨_, u, hu, _⟩ := f.vo y _ q'
    have e1 := (hv.mono k).one hx
    have e2 := (hu.mono k).one hy
    subst e1; subst e2
    exact f.apart x y ds es a q q' hv hu
  base := o.keep f.base k
theorem FS.grow (o : OrcOK prog w n Base O) (f : FS Base h V W0 X env sc T σ) {V' : List Addr} (g : Gr h V V') (k : Kp h h') (l : ∀ a ∈ V', ∃ ob, h'.get? a = some ob) : FS Base h' V' W0 X env sc T σ := by
  have f' := f.kp o k
  have gW : Gr h (V ++ W0) (V' ++ W0) := ⟨fun a m => by
    rcases List.mem_append.mp m with m | m
    · exact List.mem_append_left _ (g.sub a m)
    · exact List.mem_append_right _ m, fun a m => by
    rcases List.mem_append.mp m with m | m
    · rcases g.new a m with q | q
      · exact .inl (List.mem_append_left _ q)
      · exact .inr q
    · exact .inl (List.mem_append_right _ m)⟩
  exact {
    eo := f.eo, cal := f'.cal, fra := f'.fra, tv := fun a m => g.sub a (f.tv a m), tx := f.tx, xw := fun a m => gW.sub a (f.xw a m)
    vw := fun a m q => by
      rcases g.new a m with z | z
      · exact f.vw a z q
      · obtain ⟨ob, e⟩ := f.al a (List.mem_append_right _ q)
        first | exact dead2 (z) e | exact dead2 e (z) | (rw [z] at e; cases e)
    al := fun a m => by
      rcases List.mem_append.mp m with m | m
      · exact l a m
      · exact f'.al a (List.mem_append_right _ m)
    vo := f.vo.gr gW Gr.refl k
    ownV := fun x ds a q hv => g.sub a (f'.ownV x ds a q hv)
    apart := f'.apart
    base := o.up f.base (Kw.of k).keep gW.new }

theorem FS.set (o : OrcOK prog w n Base O) (f : FS Base h V W0 X env sc T σ) {x : Str} {v : Value} {b : B} (k : Kw T h h') (F : Fra h' env sc T) (ok : okName x = true) (hv : Holds h' X env x v) (ho : ∀ y u, y ≠ x → Holds h X env y u → Holds h' X env y u)
    (r : BRep h' (V ++ W0) X b v) (ow : ∀ ds a, b = .own ds → v = .ref a → a ∈ V ∧ ∀ y es, y ≠ x → σ.lookup y = some (.own es) → ¬ Holds h X env y (.ref a)) : FS Base h' V W0 X env sc T (setV σ x b) := by
  have tw : ∀ a ∈ T, a ∈ V ++ W0 := fun a m => List.mem_append_left _ (f.tv a m)
  have old : ∀ y c, y ≠ x → σ.lookup y = some c → okName y = true ∧ ∃ u, Holds h X env y u ∧ Holds h' X env y u ∧ BRep h (V ++ W0) X c u := fun y c ne e => by
    obtain ⟨oy, u, hu, ru⟩ := f.vo y c e
    exact ⟨oy, u, hu, ho y u ne hu, ru⟩
  have cases_ : ∀ y c, (setV σ x b).lookup y = some c → (y = x ∧ c = b) ∨ (y ≠ x ∧ σ.lookup y = some c) := fun y c e => by
    rw [lookup_setV] at e
    cases q : y == x with
    | true => rw [q] at e; simp only [if_true] at e; cases e; exact .inl ⟨beq_iff_eq.mp q, rfl⟩
    | false => rw [q] at e; simp only [Bool.false_eq_true, if_false] at e; exact .inr ⟨fun z => by rw [z] at q; simp at q, e⟩
  exact {
    eo := f.eo, cal := f.cal.kw k, fra := F, tv := f.tv, tx := f.tx, xw := f.xw, vw := f.vw, al := f.al.kw k
    vo := fun y c e => by
      rcases cases_ y c e with ⟨rfl, rfl⟩ | ⟨ne, e⟩
      · exact ⟨ok, v, hv, r⟩
      · obtain ⟨oy, u, _, hu, ru⟩ := old y c ne e
        exact ⟨oy, u, hu, ru.st k.keep f.fra tw⟩
    ownV := fun y ds a e hy => by
      rcases cases_ y _ e with ⟨rfl, e'⟩ | ⟨ne, e⟩
      · exact (ow ds a e'.symm (hv.one hy)).1
      · obtain ⟨_, u, hu, hu', _⟩ := old y _ ne e
        have := hu'.one hy
        subst this
        exact f.ownV y ds a e hu
    apart := fun y z ds es a e e' hy hz => by
      rcases cases_ y _ e with ⟨q0, q⟩ | ⟨ne, ee⟩ <;> rcases cases_ z _ e' with ⟨q0', q'⟩ | ⟨ne', ee'⟩
      · rw [q0, q0']
      · obtain ⟨_, u, hu, hu', _⟩ := old z _ ne' ee'
        have := hu'.one hz
        subst this
        rw [q0] at hy
        exact absurd hu ((ow ds a q.symm (hv.one hy)).2 z es ne' ee')
      · obtain ⟨_, u, hu, hu', _⟩ := old y _ ne ee
        have := hu'.one hy
        subst this
        rw [q0'] at hz
        exact absurd hu ((ow es a q'.symm (hv.one hz)).2 y ds ne ee)
      · obtain ⟨_, u, hu, hu', _⟩ := old y _ ne ee
        obtain ⟨_, u', hz1, hz2, _⟩ := old z _ ne' ee'
        have e1 := hu'.one hy
        have e2 := hz2.one hz
        subst e1; subst e2
        exact f.apart y z ds es a ee ee' hu hz1
    base := o.up f.base (k.less tw).keep fun a m => .inl m }
end
end
section
theorem tgt_1 {sc : List (Str × NameKind)} {x : Str} (h : tgtOk sc x = true) : okName x = true := by
  unfold tgtOk at h; rw [Bool.and_eq_true] at h; exact h.1
theorem tgt_2 {sc : List (Str × NameKind)} {x : Str} (h : tgtOk sc x = true) : sc.lookup x = some .local ∨ sc.lookup x = some .cell := by
  unfold tgtOk at h; rw [Bool.and_eq_true, Bool.or_eq_true] at h; simpa using h.2
theorem Kw.more {V V' : List Addr} {a b c : Heap} (x : Kw V a b) (g : Gr a V V') (y : Kw V' b c) : Kw V a c := ⟨fun k o m e => y.keep k o (fun q => by
  rcases g.new k q with z | z
  · exact m z
  · first | exact dead2 (z) e | exact dead2 e (z) | (rw [z] at e; cases e)) (x.keep k o m e), fun k e => y.live k (x.live k e)⟩
theorem Gr.more {V V' V'' : List Addr} {U : List Addr} {a b : Heap} (g : Gr a V V') (x : Kw U a b) (g' : Gr b V' V'') : Gr a V V'' := ⟨fun k m => g'.sub k (g.sub k m), fun k m => by
  rcases g'.new k m with z | z
  · exact g.new k z
  · refine .inr ?_
    cases q : a.get? k with
    | none => rfl
    | some o =>
      obtain ⟨o', e⟩ := x.live k ⟨o, q⟩
      first | exact dead2 (z) e | exact dead2 e (z) | (rw [z] at e; cases e)⟩

noncomputable def Post (Base : Heap → List Addr → Prop) (h : Heap) (V W0 X : List Addr) (env : Env) (sc : List (Str × NameKind)) (T : List Addr) (σ : Vars) : Fl → Flow → Heap → Prop
  | .next, .next, h' => ∃ V', Gr h V V' ∧ FS Base h' V' W0 X env sc T σ
  | .brk, .brk, h' => ∃ V', Gr h V V' ∧ FS Base h' V' W0 X env sc T σ
  | .ret d, .ret v, h' => Rep (fz h' W0) d v
  | _, _, _ => False
theorem Post.up {Base : Heap → List Addr → Prop} {h h1 : Heap} {V V1 W0 X : List Addr} {env : Env} {sc : List (Str × NameKind)} {T : List Addr} {σ : Vars} {U : List Addr} {fl : Fl} {f : Flow} {h' : Heap} (g : Gr h V V1) (k : Kw U h h1) (p : Post Base h1 V1 W0 X env sc T σ fl f h') : Post Base h V W0 X env sc T σ fl f h' := by
  cases fl <;> cases f <;> first | exact p | (obtain ⟨V', g', f'⟩ := p; exact ⟨V', g.more k g', f'⟩)

noncomputable def PS (prog : Program) (w : World) (n : Nat) (Base : Heap → List Addr → Prop) (t : Env → Sem Flow) (sc : List (Str × NameKind)) (σ σ' : Vars) (fl : Fl) : Prop :=
  ∀ env V W0 X T A s Q E, FS Base s.heap V W0 X env sc T σ → Amb A n → (∀ f h' tk', Kw V s.heap h' → Post Base s.heap V W0 X env sc T σ' fl f h' → Q f { s with heap := h', toks := tk' }) → wpAny (model prog w) A (t env) Q E s

section
variable {prog : Program} {w : World} {n : Nat} {Base : Heap → List Addr → Prop} {O : Orc} {h h' : Heap} {V W0 X T : List Addr} {env : Env} {sc : List (Str × NameKind)} {σ σ' : Vars}

theorem PS.nil : PS prog w n Base (execs []) sc σ σ .next := fun env V W0 X T A s Q E f am hq => wpAny_execs_nil (hq .next s.heap s.toks Kw.refl ⟨V, Gr.refl, f⟩)
theorem PS.seq {st : Stmt} {r : List Stmt} {σ1 σ2 : Vars} {fl : Fl} (a : PS prog w n Base (exec st) sc σ σ1 .next) (b : PS prog w n Base (execs r) sc σ1 σ2 fl) : PS prog w n Base (execs (st :: r)) sc σ σ2 fl := fun env V W0 X T A s Q E f am hq => by
  refine wpAny_execs_cons (a env V W0 X T A s _ E f am fun fl1 h1 tk1 k1 p1 => ?_)
  cases fl1 <;> first | exact p1.elim | skip
  obtain ⟨V1, g1, f1⟩ := p1
  exact b env V1 W0 X T A _ Q E f1 am fun fl2 h2 tk2 k2 p2 => hq fl2 h2 tk2 (k1.more g1 k2) (p2.up g1 k1)
theorem PS.stop {st : Stmt} {r : List Stmt} {σ1 : Vars} {fl : Fl} (a : PS prog w n Base (exec st) sc σ σ1 fl) (hn : ∀ h V W0 X env T h', ¬ Post Base h V W0 X env sc T σ1 fl .next h') : PS prog w n Base (execs (st :: r)) sc σ σ1 fl := fun env V W0 X T A s Q E f am hq => by
  refine wpAny_execs_cons (a env V W0 X T A s _ E f am fun fl1 h1 tk1 k1 p1 => ?_)
  cases fl1 <;> first | exact hq _ h1 tk1 k1 p1 | exact absurd p1 (hn _ _ _ _ _ _ _)
theorem blk_ok {f : Vars → Stmt → Option (Vars × Fl)} (hf : ∀ σ st σ' fl, f σ st = some (σ', fl) → PS prog w n Base (exec st) sc σ σ' fl) : ∀ {b : List Stmt} {σ σ' : Vars} {fl : Fl}, blkD f b σ = some (σ', fl) → PS prog w n Base (execs b) sc σ σ' fl
  | [], σ, σ', fl, e => by cases e; exact PS.nil
  | st :: r, σ, σ', fl, e => by
    obtain ⟨⟨σ1, fl1⟩, h1, e⟩ := bind_inv e
    cases fl1 with
    | next => exact PS.seq (hf _ _ _ _ h1) (blk_ok hf e)
    | brk => cases e; exact PS.stop (hf _ _ _ _ h1) fun h V W0 X env T h' p => p
    | ret d => cases e; exact PS.stop (hf _ _ _ _ h1) fun h V W0 X env T h' p => p

structure Ent where
  x : Str
  F : Value → Sem Unit
  v : Value
  b : B
structure EntOK (h : Heap) (V W0 X : List Addr) (env : Env) (sc : List (Str × NameKind)) (σ : Vars) (p : Ent) : Prop where
  tg : tgtOk sc p.x = true
  st : ∀ {A : Around} {s : Shared} {Q : Unit → Shared → Prop} {E : Value → Shared → Prop} {prog : Program} {w : World}, wpAny (model prog w) A (storeName env p.x p.v) Q E s → wpAny (model prog w) A (p.F p.v) Q E s
  r : BRep h (V ++ W0) X p.b p.v
  ow : ∀ ds a, p.b = .own ds → p.v = .ref a → a ∈ V ∧ ∀ y es, σ.lookup y = some (.own es) → ¬ Holds h X env y (.ref a)
noncomputable def setE (σ : Vars) (p : Ent) : Vars := setV σ p.x p.b
theorem stores_FS (o : OrcOK prog w n Base O) : ∀ (l : List Ent) {A : Around} {s : Shared} {Q : Unit → Shared → Prop} {E : Value → Shared → Prop} {σ : Vars}, FS Base s.heap V W0 X env sc T σ → (∀ p ∈ l, EntOK s.heap V W0 X env sc σ p) → l.Pairwise (fun p q => ¬ (isOwnB p.b = true ∧ isOwnB q.b = true)) →
    (∀ h' tk', Kw T s.heap h' → FS Base h' V W0 X env sc T (l.foldl setE σ) → Q () { s with heap := h', toks := tk' }) → wpAny (model prog w) A (assignInOrder (l.map Ent.F) (l.map Ent.v)) Q E s
  | [], A, s, Q, E, σ, f, _, _, hq => wpAny_pure (by have := hq s.heap s.toks Kw.refl f; exact this)
  | p :: l, A, s, Q, E, σ, f, hp, hd, hq => by
    have e1 := hp p List.mem_cons_self
    show wpAny _ _ (holding (l.map Ent.v) (p.F p.v) >>= fun _ => assignInOrder (l.map Ent.F) (l.map Ent.v)) _ _ _
    refine wpAny_bind (wpAny_holding (e1.st (store_ok f.eo f.fra (tgt_2 e1.tg) f.tx fun h1 tk1 k1 F1 hv1 ho1 => ?_)))
    have tw : ∀ a ∈ T, a ∈ V ++ W0 := fun a m => List.mem_append_left _ (f.tv a m)
    have f1 : FS Base h1 V W0 X env sc T (setV σ p.x p.b) := f.set o k1 F1 (tgt_1 e1.tg) hv1 ho1 (e1.r.st k1.keep f.fra tw) fun ds a q q' => ⟨(e1.ow ds a q q').1, fun y es _ z => (e1.ow ds a q q').2 y es z⟩
    obtain ⟨hd1, hd2⟩ := List.pairwise_cons.mp hd
    refine stores_FS o l (s := { s with heap := h1, toks := tk1 }) f1 (fun q m => ?_) hd2 fun h2 tk2 k2 f2 => hq h2 tk2 (k1.trans k2) f2
    have e2 := hp q (List.mem_cons_of_mem _ m)
    refine ⟨e2.tg, e2.st, e2.r.st k1.keep f.fra tw, fun ds a qb qv => ⟨(e2.ow ds a qb qv).1, fun y es z hy => ?_⟩⟩
    rw [lookup_setV] at z
    cases c : y == p.x with
    | true =>
      rw [c] at z
      simp only [if_true] at z
      cases z' : p.b with
      | val d => first | exact dead2 (z') z | exact dead2 z (z') | (rw [z'] at z; cases z)
      | own ds' => exact hd1 q m ⟨by rw [z']; rfl, by rw [qb]; rfl⟩
    | false =>
      rw [c] at z
      simp only [Bool.false_eq_true, if_false] at z
      obtain ⟨_, u, hu, _⟩ := f.vo y _ z
      have := (ho1 y u (fun q => by rw [q] at c; simp at c) hu).one hy
      subst this
      exact (e2.ow ds a qb qv).2 y es z hu

theorem draw_ok {I : Addr} {fp : List Addr} {N : Nat} {P : Nat → Value → Prop} {St : Nat → Heap → Prop} {A : Around} (wk : Walks prog w A I fp [I] N P St) : ∀ (m i : Nat) (s : Shared) (Q : List Value → Shared → Prop) (E : Value → Shared → Prop), St i s.heap → i + m ≤ N →
    (∀ us h' tk', St (i + m) h' → Kk [I] s.heap h' → us.length = m → (∀ j v, us[j]? = some v → P (i + j) v) → Q us { s with heap := h', toks := tk' }) → wpAny (model prog w) A (draw (.ref I) m) Q E s
  | 0, i, s, Q, E, st, _, hq => wpAny_pure (by have := hq [] s.heap s.toks st (fun _ _ _ e => e) rfl (by (first | exact List.mem_cons_self | exact List.mem_cons_of_mem _ List.mem_cons_self | decide | simp)); exact this)
  | m + 1, i, s, Q, E, st, hle, hq => by
    show wpAny _ _ (pyNext (.ref I) >>= _) Q E s
    refine wpAny_bind (wk.item i _ _ _ (by (first | lia | omega)) st fun v h1 tk1 hv st1 k1 => ?_)
    refine wpAny_bind (wpAny_holding (draw_ok wk m (i + 1) _ _ _ st1 (by (first | lia | omega)) fun us h2 tk2 st2 k2 hl hP => wpAny_pure ?_))
    refine hq (v :: us) h2 tk2 (by rw [show i + (m + 1) = i + 1 + m by (first | lia | omega)]; exact st2) (fun b o hb e => k2 b o hb (k1 b o hb e)) (by simp [hl]) fun j u hj => ?_
    cases j with
    | zero => simp at hj; subst hj; exact hv
    | succ j => simp at hj; have := hP j u hj; rw [show i + 1 + j = i + (j + 1) by (first | lia | omega)] at this; exact this
theorem iterable_ok {d : D} {ds : List D} {v : Value} {W : List Addr} (r : Rep (fz h W) d v) (e : seqD d = some ds) {A : Around} {s : Shared} {Q : Bool → Shared → Prop} {E : Value → Shared → Prop} (hk : Kp h s.heap) (hq : Q false s) : wpAny (model prog w) A (notIterableAtAll v) Q E s := by
  unfold notIterableAtAll
  cases d <;> first | exact ns e | skip
  · obtain ⟨l, vs, rfl, q, rl⟩ := r
    refine wpAny_bind (wpAny_specialOf (list_of (SeqAt.mono q (fz_mono hk))).1.typeIs slot_list_iter.lookup ?_)
    exact wpAny_pure hq
  · obtain ⟨l, vs, rfl, q, rl⟩ := r
    refine wpAny_bind (wpAny_specialOf (tuple_of (SeqAt.mono q (fz_mono hk))).1.typeIs F.slot_tuple_iter.lookup ?_)
    exact wpAny_pure hq
theorem seq_iter {d : D} {ds : List D} (e : seqD d = some ds) : iterD d = some ds := by cases d <;> first | exact e | cases e
theorem unpack_ok {d : D} {ds : List D} {v : Value} {W : List Addr} (r : Rep (fz h W) d v) (e : seqD d = some ds) {A : Around} {s : Shared} {Q : List Value → Shared → Prop} {E : Value → Shared → Prop} (hk : Kp h s.heap) (am : Amb A n)
    (hq : ∀ us h' tk', Kp s.heap h' → RepL (fz h' W) ds us → Q us { s with heap := h', toks := tk' }) : wpAny (model prog w) A (unpackItems v ds.length none) Q E s := by
  unfold unpackItems
  refine wpAny_bind (iterable_ok r e hk ?_)
  simp only [Bool.false_eq_true, if_false]
  refine wpAny_bind (wpAny_holding (iter_ok r (seq_iter e) hk fun I h1 k1 it => ?_))
  obtain ⟨fp, P, St, wk, hst, hI, hI2, hfp, hP, hlive⟩ := it
  refine wpAny_bind (wpAny_holding (draw_ok (wk A am.hd) ds.length 0 _ _ _ hst (by (first | lia | omega)) fun us h2 tk2 st2 k2 hl hP2 => ?_))
  rw [if_neg (by (first | lia | omega))]
  refine wpAny_bind (wpAny_holding ((wk A am.hd).done _ _ _ (by simpa using st2) fun h3 tk3 k3 => ?_))
  simp only [Option.isSome_none, Bool.false_eq_true, if_false]
  have kp : Kp s.heap h3 := fun b ob e => by
    have n : b ∉ [I] := fun m => by rw [List.mem_singleton.mp m, hI] at e; cases e
    exact k3 b ob n (k2 b ob n (k1 b ob e))
  refine wpAny_pure (hq us h3 tk3 kp (RepL.of_get hl fun i d' v' hd hv => ?_))
  obtain ⟨d2, e2, r2⟩ := hP _ v' (by have := hP2 i v' hv; rw [Nat.zero_add] at this; exact this)
  first | exact dead2 (hd) e2 | exact dead2 e2 (hd) | (rw [hd] at e2; cases e2)
  exact Rep.mono (fz_mono kp) r2

theorem nameT_is {e : Expr} {x : Str} (h : nameT e = some x) : ∃ p, e = .Name x p := by
  cases e <;> first | exact ns h | (rw [Option.some.inj (show some _ = some x from h)]; exact ⟨_, rfl⟩)
theorem names_plain : ∀ {ts : List Expr} {xs : List Str}, namesT ts = some xs → ts.length = xs.length ∧ (assignEach ts env).findIdx? (·.1) = none ∧ (assignEach ts env).length = ts.length
  | [], xs, e => by cases e; exact ⟨rfl, rfl, rfl⟩
  | t :: ts, xs, e => by
    obtain ⟨x, xs', h1, h2, rfl⟩ := namesT_inv e
    obtain ⟨a, b, c⟩ := names_plain h2
    obtain ⟨p, rfl⟩ := nameT_is h1
    refine ⟨congrArg (· + 1) a, ?_, congrArg (· + 1) c⟩
    show ((false, assign (.Name x p) env) :: assignEach ts env).findIdx? (·.1) = none
    rw [List.findIdx?_cons, b]; rfl
noncomputable def entsT (env : Env) : List Expr → List Str → List Value → List B → List Ent
  | t :: ts, x :: xs, v :: vs, b :: bs => ⟨x, assign t env, v, b⟩ :: entsT env ts xs vs bs
  | _, _, _, _ => []
theorem ents_ok (env : Env) : ∀ {ts : List Expr} {xs : List Str} {vs : List Value} {bs : List B}, namesT ts = some xs → vs.length = xs.length → bs.length = xs.length →
    (entsT env ts xs vs bs).map Ent.F = (assignEach ts env).map (·.2) ∧ (entsT env ts xs vs bs).map Ent.v = vs ∧ ∀ σ, (entsT env ts xs vs bs).foldl setE σ = setAll σ xs bs
  | [], xs, vs, bs, e, h1, h2 => by
    first | with_reducible exact ns e | cases e
    cases vs with
    | cons => simp at h1
    | nil => cases bs with
      | cons => simp at h2
      | nil => exact ⟨rfl, rfl, fun σ => rfl⟩
  | t :: ts, xs, vs, bs, e, h1, h2 => by
    obtain ⟨x, xs', e1, e2, rfl⟩ := namesT_inv e
    cases vs with
    | nil => exact nomatch h1
    | cons v vs => cases bs with
      | nil => exact nomatch h2
      | cons b bs =>
        obtain ⟨a1, a2, a3⟩ := ents_ok env e2 (Nat.succ.inj h1) (Nat.succ.inj h2)
        obtain ⟨p, rfl⟩ := nameT_is e1
        exact ⟨congrArg (assign (.Name x p) env :: ·) a1, congrArg (v :: ·) a2, fun σ => a3 _⟩
end
end
section
section
variable {prog : Program} {w : World} {n : Nat} {Base : Heap → List Addr → Prop} {O : Orc} {k : Nat} {h h' : Heap} {V W0 X T : List Addr} {env : Env} {sc : List (Str × NameKind)} {σ σ' : Vars}
theorem ents_val : ∀ {ts : List Expr} {xs : List Str} {us : List Value} {ds : List D}, namesT ts = some xs → xs.all (tgtOk sc) = true → RepL (fz h (V ++ W0)) ds us → ∀ p ∈ entsT env ts xs us (ds.map .val), EntOK h V W0 X env sc σ p ∧ isOwnB p.b = false
  | [], xs, us, ds, e, _, _, p, m => by cases e; exact absurd (show p ∈ ([] : List Ent) from m) List.not_mem_nil
  | t :: ts, xs, us, ds, e, ha, r, p, m => by
    obtain ⟨x, xs', e1, e2, rfl⟩ := namesT_inv e
    cases ds with
    | nil => cases r; exact nomatch m
    | cons d ds =>
      obtain ⟨v, vs, rfl, r1, r2⟩ := r
      rw [List.all_cons, Bool.and_eq_true] at ha
      obtain ⟨q, rfl⟩ := nameT_is e1
      rcases List.mem_cons.mp m with rfl | m
      · exact ⟨⟨ha.1, fun hh => wpAny_assign_Name hh, r1, fun ds a z => by cases z⟩, rfl⟩
      · exact ents_val e2 ha.2 r2 p m

theorem assign_T (o : OrcOK prog w n Base O) {t : Expr} {d : D} {v : Value} (e : setT sc t σ d = some σ') {A : Around} {s : Shared} {Q : Unit → Shared → Prop} {E : Value → Shared → Prop} (f : FS Base s.heap V W0 X env sc T σ) (r : Rep (fz s.heap (V ++ W0)) d v) (am : Amb A n)
    (hq : ∀ h' tk', Kw V s.heap h' → FS Base h' V W0 X env sc T σ' → Q () { s with heap := h', toks := tk' }) : wpAny (model prog w) A (assign t env v) Q E s := by
  cases t <;> first | exact ns e | skip
  case Name x p =>
    obtain ⟨hx, e⟩ := ite_inv e
    rw [← e] at hq
    refine wpAny_assign_Name (store_ok f.eo f.fra (tgt_2 hx) f.tx fun h1 tk1 k1 F1 hv1 ho1 => ?_)
    exact hq h1 tk1 (k1.less f.tv) (f.set o k1 F1 (tgt_1 hx) hv1 ho1 (BRep.st (b := .val d) k1.keep f.fra (fun a m => List.mem_append_left _ (f.tv a m)) r) fun ds a q => by cases q)
  case Tuple ts kk p =>
    obtain ⟨xs, hx, e⟩ := bind_inv e
    obtain ⟨ds, hd, e⟩ := bind_inv e
    obtain ⟨hc, e⟩ := ite_inv e
    rw [← e] at hq
    simp only [Bool.and_eq_true, decide_eq_true_eq] at hc
    obtain ⟨h1, h2, h3⟩ := hc
    obtain ⟨l1, l2, l3⟩ := names_plain (env := env) hx
    show wpAny _ _ (standAt p >>= fun _ => unpack v (assignEach ts env)) _ _ _
    refine wpAny_bind (wpAny_standAt ?_)
    unfold unpack
    rw [l2, l3, l1, ← h3]
    refine wpAny_bind (wpAny_holding (unpack_ok (h := s.heap) (n := n) r hd (Kp.refl _) am fun us h1' tk1 k1 ru => ?_))
    have f1 := f.kp o k1
    have hl := ru.length
    obtain ⟨q1, q2, q3⟩ := ents_ok env hx (vs := us) (bs := ds.map .val) (hl.trans h3) ((List.length_map _).trans h3)
    rw [← q1]
    have := stores_FS o (entsT env ts xs us (ds.map .val)) (A := A) (s := { s with heap := h1', toks := tk1 }) (Q := Q) (E := E) f1 (fun p m => (ents_val hx h1 ru p m).1) ?_ fun h2' tk2 k2 f2 => hq h2' tk2 ((Kw.of k1).trans (k2.less f.tv)) (by rw [q3] at f2; exact f2)
    · rw [q2] at this; exact this
    · refine List.pairwise_of_forall_mem_list fun p m q m' z => ?_
      rw [(ents_val (σ := σ) (X := X) hx h1 ru p m).2] at z
      exact absurd z.1 Bool.false_ne_true

theorem lots_ok {t : Expr} {I : Addr} {v : Value} {A : Around} {s : Shared} {Q : Unit → Shared → Prop} {E : Value → Shared → Prop} (hc : ∃ o, s.heap.get? I = some o ∧ Calm o) (hq : Q () s) : wpAny (model prog w) A (letOwnedTupleGo t (.ref I) v) Q E s := by
  have key : wpAny (model prog w) A (do
      let (.ref r, .ref a) := ((Value.ref I : Value), v) | return
      let o ← load r
      match o.cls, o.data with
      | .type n, .fields vs =>
        if ["enumerate", "zip", "dict_itemiterator", "dict_reverseitemiterator", "odict_iterator", "itertools.zip_longest", "itertools.pairwise"].contains n && vs[0]? == some (rawInt a) then
          rule "for.unpacks-the-owned-tuple"
          updateField r 0 .none
      | _, _ => pure () : Sem Unit) Q E s := by
    first | with_reducible exact ns v | cases v
    case ref a =>
      obtain ⟨o, ho, Tn, hT, hn⟩ := hc
      refine wpAny_bind (wpAny_load ho ?_)
      rw [hT]
      cases o.data
      case fields vs =>
        simp only [hn, Bool.false_and, Bool.false_eq_true, if_false]
        exact wpAny_pure hq
      all_goals exact wpAny_pure hq
    all_goals exact wpAny_pure hq
  cases t <;> first | exact wpAny_pure hq | exact key

theorem Gr.pre {h : Heap} {M V V' : List Addr} (g : Gr h V V') : Gr h (M ++ V) (M ++ V') := ⟨fun a m => by
  rcases List.mem_append.mp m with m | m
  · exact List.mem_append_left _ m
  · exact List.mem_append_right _ (g.sub a m), fun a m => by
  rcases List.mem_append.mp m with m | m
  · exact .inl (List.mem_append_left _ m)
  · rcases g.new a m with q | q
    · exact .inl (List.mem_append_right _ q)
    · exact .inr q⟩
theorem Gr.back {h h' : Heap} {V V' : List Addr} (g : Gr h' V V') (k : Kp h h') : Gr h V V' := ⟨g.sub, fun a m => (g.new a m).imp id k.back⟩
theorem Kw.transJ {V V' J : List Addr} {a b c : Heap} (x : Kw (J ++ V) a b) (g : Gr a V V') (y : Kw V' b c) : Kw (J ++ V) a c := x.more g.pre (y.less fun k m => List.mem_append_right _ m)
theorem Kw.out {V J : List Addr} {z a c : Heap} (x : Kw (J ++ V) a c) (e : ∀ b ∈ J, z.get? b = none) (k : Kp z a) : Kw V z c := ⟨fun b o n q => x.keep b o (fun m => (List.mem_append.mp m).elim (fun m => dead (e b m) q) n) (k b o q), fun b ⟨o, q⟩ => x.live b ⟨o, k b o q⟩⟩
theorem Holds.lessJ {J : List Addr} {x : Str} {v : Value} (hv : Holds h (J ++ X) env x v) : Holds h X env x v := by
  rcases hv with ⟨a, n, m, z, e⟩ | ⟨a, e, z, n, d⟩
  · exact .inl ⟨a, fun q => n (List.mem_append_right _ q), m, z, e⟩
  · exact .inr ⟨a, e, z, fun q => n (List.mem_append_right _ q), d⟩
theorem mid_mem {J V W0 : List Addr} {a : Addr} (m : a ∈ V ++ W0) : a ∈ V ++ (J ++ W0) := (List.mem_append.mp m).elim (List.mem_append_left _) fun m => List.mem_append_right _ (List.mem_append_right _ m)
theorem FS.dropJ (o : OrcOK prog w n Base O) {J : List Addr} (f : FS Base h V (J ++ W0) (J ++ X) env sc T σ) (xw : ∀ a ∈ X, a ∈ V ++ W0) (k : Kk J h h') (cal : CellsAl h' env) (al : Al (V ++ W0) h') : FS Base h' V W0 X env sc T σ := by
  have kJ : Kk (J ++ X) h h' := fun b ob n e => k b ob (fun q => n (List.mem_append_left _ q)) e
  have mid : ∀ {x : Str} {ds : List D} {a : Addr}, σ.lookup x = some (.own ds) → Holds h' X env x (.ref a) → Holds h (J ++ X) env x (.ref a) := fun {x ds a} q hv => by
    obtain ⟨ok, v, hv', r⟩ := f.vo x _ q
    have := (hv'.kw kJ).lessJ.one hv
    subst this
    exact hv'
  exact {
    eo := f.eo, cal := cal
    fra := f.fra.kw k fun a m z => f.tx a m (List.mem_append_left _ z)
    tv := f.tv
    tx := fun a m q => f.tx a m (List.mem_append_right _ q)
    xw := xw
    vw := fun a m q => f.vw a m (List.mem_append_right _ q)
    al := al
    vo := (f.vo.kw kJ f.xw).shrink (fun a m => mid_mem m) (fun a m => List.mem_append_right _ m) fun a m q => (List.mem_append.mp m).elim (List.mem_append_left _) fun m => (List.mem_append.mp m).elim (fun m => absurd (List.mem_append_left _ m) q) (List.mem_append_right _)
    ownV := fun x ds a q hv => f.ownV x ds a q (mid q hv)
    apart := fun x y ds es a q q' hx hy => f.apart x y ds es a q q' (mid q hx) (mid q' hy)
    base := o.up f.base (fun b ob n e => k b ob (fun q => n (List.mem_append_right _ (List.mem_append_left _ q))) e) fun a m => .inl (mid_mem m) }
theorem gr_mid {J : List Addr} (hJ : ∀ a ∈ J, h.get? a = none) : Gr h (V ++ W0) (V ++ (J ++ W0)) := ⟨fun a m => mid_mem m, fun a m => (List.mem_append.mp m).elim (fun m => .inl (List.mem_append_left _ m)) fun m => (List.mem_append.mp m).elim (fun m => .inr (hJ a m)) fun m => .inl (List.mem_append_right _ m)⟩
theorem FS.addJ (o : OrcOK prog w n Base O) {J : List Addr} (f : FS Base h V W0 X env sc T σ) (k : Kp h h') (hJ : ∀ a ∈ J, h.get? a = none) (hJ' : ∀ a ∈ J, ∃ ob, h'.get? a = some ob) : FS Base h' V (J ++ W0) (J ++ X) env sc T σ := by
  have f1 := f.kp o k
  have nW : ∀ a ∈ J, a ∉ V ++ W0 := fun a m q => let ⟨_, e⟩ := f.al a q; dead (hJ a m) e
  have gI : Gr h (V ++ W0) (V ++ (J ++ W0)) := gr_mid hJ
  have gX : Gr h X (J ++ X) := ⟨fun a m => List.mem_append_right _ m, fun a m => (List.mem_append.mp m).elim (fun m => .inr (hJ a m)) .inl⟩
  exact {
    eo := f.eo, cal := f1.cal, fra := f1.fra, tv := f.tv
    tx := fun a m q => (List.mem_append.mp q).elim (fun q => nW a q (List.mem_append_left _ (f.tv a m))) (f.tx a m)
    xw := fun a m => (List.mem_append.mp m).elim (fun m => List.mem_append_right _ (List.mem_append_left _ m)) fun m => gI.sub a (f.xw a m)
    vw := fun a m q => (List.mem_append.mp q).elim (fun q => nW a q (List.mem_append_left _ m)) (f.vw a m)
    al := fun a m => (List.mem_append.mp m).elim (fun m => f1.al a (List.mem_append_left _ m)) fun m => (List.mem_append.mp m).elim (hJ' a) fun m => f1.al a (List.mem_append_right _ m)
    vo := f.vo.gr gI gX k
    ownV := fun x ds a q hv => f1.ownV x ds a q hv.lessJ
    apart := fun x y ds es a q q' hx hy => f1.apart x y ds es a q q' hx.lessJ hy.lessJ
    base := o.up f.base (Kw.of k).keep gI.new }
theorem FS.vol (o : OrcOK prog w n Base O) (f : FS Base h V W0 X env sc T σ) (k : Kw X h h') : FS Base h' V W0 X env sc T σ where
  eo := f.eo
  cal := f.cal.kw k
  fra := f.fra.kw k.keep f.tx
  tv := f.tv
  tx := f.tx
  xw := f.xw
  vw := f.vw
  al := f.al.kw k
  vo := f.vo.kw k.keep f.xw
  ownV := fun x ds a q hv => by
    obtain ⟨ok, v, hv', r⟩ := f.vo x _ q
    have := (hv'.kw k.keep).one hv
    subst this
    exact f.ownV x ds a q hv'
  apart := fun x y ds es a q q' hx hy => by
    obtain ⟨_, v, hv, _⟩ := f.vo x _ q
    obtain ⟨_, u, hu, _⟩ := f.vo y _ q'
    have e1 := (hv.kw k.keep).one hx
    have e2 := (hu.kw k.keep).one hy
    subst e1; subst e2
    exact f.apart x y ds es a q q' hv hu
  base := o.up f.base (k.less f.xw).keep fun a m => .inl m

noncomputable def finOf (t : Expr) (it : Value) (b els : List Stmt) (env : Env) : Flow → Fin
  | .next | .cont => .again (.forLoop t it b els env)
  | .brk => .done .next
  | .ret v => .done (.ret v)
theorem forloop_rule {A : Around} {t : Expr} {it : Value} {b els : List Stmt} {R : Result → Shared → Prop} (I : Nat → Shared → Prop)
    (turn : ∀ m s, I m s → ∀ Qf : Fin → Shared → Prop, (∀ m' s', m' < m → I m' s' → Qf (.again (.forLoop t it b els env)) s') → (∀ s', codeAny (model prog w) A (.block els env) R s' → Qf (.again (.block els env)) s') → (∀ f s', R (.ok f) s' → Qf (.done f) s') →
      ∀ E1 E2, wpAny (model prog w) A (pyNext it) (fun r s1 => (r = none ∧ Qf (.again (.block els env)) s1) ∨ ∃ v, r = some v ∧ wpAny (model prog w) A (letOwnedTupleGo t it v) (fun _ s2 => wpAny (model prog w) A (assign t env v) (fun _ s3 => wpAny (model prog w) A (execs b env) (fun fl s4 => Qf (finOf t it b els env fl) s4) E2 s3) E2 s2) E2 s1) E1 s)
    {m : Nat} {s : Shared} (h : I m s) : codeAny (model prog w) A (.forLoop t it b els env) R s := by
  refine codeAny_loop' rfl I (fun m s hI => ?_) m h
  have e0 : A.under (.forLoop t it b els env) = A := Around.under_of_weight rfl
  rw [e0]
  have e1 : (model prog w).den (.forLoop t it b els env) = (forTurn t it b els env).onRaise (fun x => do noteFrame x env; theTreesLotGoes x) := rfl
  rw [e1]
  refine hide fun Q' E' hQ _ => wpAny_noted ?_
  unfold forTurn
  refine wpAny_bind (wpAny_standAt (wpAny_bind (wpAny_onRaise ?_)))
  refine wpAny_mono (turn m s hI Q' (fun m' s' hlt h => hQ _ _ (.inl ⟨rfl, m', hlt, h⟩)) (fun s' h => hQ _ _ (.inr ⟨rfl, h⟩)) (fun f s' h => hQ _ _ h) _ (notedBy (model prog w) A env E')) (fun r s1 h => ?_) fun _ _ e => e
  rcases h with ⟨rfl, h⟩ | ⟨v, rfl, h⟩
  · exact wpAny_pure h
  · refine wpAny_bind (wpAny_mono h (fun _ s2 h => wpAny_bind (wpAny_mono h (fun _ s3 h => wpAny_bind (wpAny_mono h (fun fl s4 h => ?_) fun _ _ e => e)) fun _ _ e => e)) fun _ _ e => e)
    cases fl <;> exact wpAny_pure h

inductive LInv (Base : Heap → List Addr → Prop) (h1 : Heap) (V W0 X : List Addr) (env : Env) (sc : List (Str × NameKind)) (T J M : List Addr) (N : Nat) {S : Type} (st : S → Vars) (JJ : Nat → S → Heap → List Addr → Prop) (St : Nat → Heap → Prop) (s0 : Shared) : Nat → Shared → Prop
  | mk (i : Nat) (h' : Heap) (tk' : Nat) (V' : List Addr) (y : S) (hi : i ≤ N) (hst : St i h') (kw : Kw (J ++ (M ++ V)) h1 h') (g : Gr h1 V V') (f : FS Base h' V' (J ++ W0) (J ++ X) env sc T (st y)) (j : JJ i y h' (V' ++ (J ++ W0))) :
    LInv Base h1 V W0 X env sc T J M N st JJ St s0 (N + 1 - i) { s0 with heap := h', toks := tk' }

theorem loop_g (o : OrcOK prog w n Base O) {A : Around} (am : Amb A n) {t : Expr} {I : Addr} {b els : List Stmt} {R : Result → Shared → Prop} {J M fp : List Addr} {ds : List D} {S : Type} {st : S → Vars} {JJ : Nat → S → Heap → List Addr → Prop} {JB : S → Prop} {Rt : Value → Heap → List Addr → Prop} {St : Nat → Heap → Prop}
    {s : Shared} {hA h1 : Heap} {tk0 : Nat} {y0 : S} (f : FS Base s.heap V W0 X env sc T (st y0)) (kA : Kp s.heap hA) (k1 : Kp hA h1) (hJ : ∀ a ∈ J, hA.get? a = none) (hJl : ∀ a ∈ J, ∃ ob, h1.get? a = some ob) (hM : ∀ a ∈ M, a ∈ W0) (hfp : ∀ a ∈ fp, a ∈ J ∨ (a ∉ V ++ W0 ∧ ∃ ob, hA.get? a = some ob))
    (frame : ∀ i a b, St i a → (∀ c ∈ fp, ∀ o, a.get? c = some o → b.get? c = some o) → St i b) (hst : St 0 h1)
    (item : ∀ i d h' tk' V', i < ds.length → ds[i]? = some d → St i h' → Al (V' ++ (J ++ W0)) h' → (∀ h3, Kw J h' h3 → Sub (fz hA (V ++ W0)) (fz h3 (V' ++ (J ++ W0)))) → ∀ {K : Value → Shared → Prop} {E1 E2 : Value → Shared → Prop},
      (∀ v h3 tk3, Kw J h' h3 → St (i + 1) h3 → Rep (fz h3 (V' ++ (J ++ W0))) d v → K v { s with heap := h3, toks := tk3 }) →
      wpAny (model prog w) A (pyNext (.ref I)) (fun r s1 => ∃ v, r = some v ∧ wpAny (model prog w) A (letOwnedTupleGo t (.ref I) v) (fun _ s2 => K v s2) E2 s1) E1 { s with heap := h', toks := tk' })
    (done : ∀ (s : Shared) (Q : Option Value → Shared → Prop) (E : Value → Shared → Prop), St ds.length s.heap → (∀ h' tk, Kk J s.heap h' → Q none { s with heap := h', toks := tk }) → wpAny (model prog w) A (pyNext (.ref I)) Q E s)
    (stab : ∀ i y h h' W W', Sub (fz h W) (fz h' W') → (∀ a ∈ M, ∀ o, h.get? a = some o → h'.get? a = some o) → JJ i y h W → JJ i y h' W')
    (rstab : ∀ v h W W', (∀ a ∈ W, a ∈ W') → Rt v h W' → Rt v h W)
    (ht : ∀ (i : Nat) (d : D) (y : S) h' W', ds[i]? = some d → JJ i y h' W' → ∃ σ1, setT sc t (st y) d = some σ1)
    (hb : ∀ i d y σ1 V' h3 tk3 {Q : Flow → Shared → Prop} {E : Value → Shared → Prop}, ds[i]? = some d → setT sc t (st y) d = some σ1 → FS Base h3 V' (J ++ W0) (J ++ X) env sc T σ1 → JJ i y h3 (V' ++ (J ++ W0)) →
      (∀ y' h4 tk4 V4, Kw (M ++ V') h3 h4 → Gr h3 V' V4 → FS Base h4 V4 (J ++ W0) (J ++ X) env sc T (st y') → JJ (i + 1) y' h4 (V4 ++ (J ++ W0)) → Q .next { s with heap := h4, toks := tk4 }) →
      (∀ y' h4 tk4 V4, Kw (M ++ V') h3 h4 → Gr h3 V' V4 → FS Base h4 V4 (J ++ W0) (J ++ X) env sc T (st y') → JB y' → Q .brk { s with heap := h4, toks := tk4 }) →
      (∀ v h4 tk4, Kw (M ++ V') h3 h4 → Rt v h4 (J ++ W0) → Q (.ret v) { s with heap := h4, toks := tk4 }) → wpAny (model prog w) A (execs b env) Q E { s with heap := h3, toks := tk3 })
    (hJ0 : JJ 0 y0 s.heap (V ++ W0))
    (hnext : ∀ y h' tk' V', Kw (M ++ V) s.heap h' → Gr s.heap V V' → FS Base h' V' W0 X env sc T (st y) → JJ ds.length y h' (V' ++ W0) → codeAny (model prog w) A (.block els env) R { s with heap := h', toks := tk' })
    (hbrk : ∀ y h' tk' V', Kw (M ++ V) s.heap h' → Gr s.heap V V' → FS Base h' V' W0 X env sc T (st y) → JB y → R (.ok .next) { s with heap := h', toks := tk' })
    (hret : ∀ v h' tk', Kw (M ++ V) s.heap h' → Rt v h' W0 → R (.ok (.ret v)) { s with heap := h', toks := tk' }) :
    codeAny (model prog w) A (.forLoop t (.ref I) b els env) R { s with heap := h1, toks := tk0 } := by
  have k01 : Kp s.heap h1 := fun b o e => k1 b o (kA b o e)
  have hJs : ∀ a ∈ J, s.heap.get? a = none := fun a m => kA.back (hJ a m)
  have hJM : ∀ a ∈ J, a ∉ M := fun a m q => let ⟨_, e⟩ := f.al a (List.mem_append_right _ (hM a q)); dead (hJs a m) e
  have f1 : FS Base h1 V (J ++ W0) (J ++ X) env sc T (st y0) := (f.kp o kA).addJ o k1 hJ hJl
  -- what lets the iterators go
  have letgo : ∀ {h' h'' : Heap} {V' : List Addr} {σ1 : Vars}, Gr h1 V V' → Kw (J ++ (M ++ V)) h1 h' → FS Base h' V' (J ++ W0) (J ++ X) env sc T σ1 → Kk J h' h'' → FS Base h'' V' W0 X env sc T σ1 ∧ Kw (M ++ V) s.heap h'' := fun {h' h'' V' σ1} g kw f' kk => by
    have k2 := kw.out hJs k01
    have kwS : Kw (M ++ V) s.heap h'' := ⟨fun a ob na e => kk a ob (fun q => dead (hJs a q) e) (k2.keep a ob na e), fun a ⟨ob, e⟩ => let ⟨ob', e'⟩ := k2.live a ⟨ob, e⟩; ⟨ob', kk a ob' (fun q => dead (hJs a q) e) e'⟩⟩
    refine ⟨f'.dropJ o (fun a m => (List.mem_append.mp (f.xw a m)).elim (fun q => List.mem_append_left _ (g.sub a q)) (List.mem_append_right _)) kk (fun y c e => kwS.live c (f.cal y c e)) fun a m => ?_, kwS⟩
    refine (List.mem_append.mp m).elim (fun m => ?_) fun m => kwS.live a (f.al a (List.mem_append_right _ m))
    obtain ⟨ob, e⟩ := f'.al a (List.mem_append_left _ m)
    exact ⟨ob, kk a ob (fun q => f'.vw a m (List.mem_append_left _ q)) e⟩
  refine forloop_rule (LInv Base h1 V W0 X env sc T J M ds.length st JJ St s) (fun m s' hI Qf again_ els_ done_ E1 E2 => ?_) (.mk 0 h1 tk0 V y0 (Nat.zero_le _) hst Kw.refl Gr.refl f1 (stab _ _ _ _ _ _ (fz_gr (gr_mid hJs) k01) (fun a _ ob e => k01 _ _ e) hJ0))
  cases hI with
  | mk i h' tk' V' y hi hst' kw g f' j =>
  have keepM : ∀ {ha hb : Heap}, Kk J ha hb → ∀ a ∈ M, ∀ ob, ha.get? a = some ob → hb.get? a = some ob := fun {ha hb} kk a m ob e => kk a ob (fun q => hJM a q m) e
  by_cases hlt : i < ds.length
  · obtain ⟨d, hd⟩ : ∃ d, ds[i]? = some d := ⟨_, List.getElem?_eq_getElem hlt⟩
    have sub : ∀ h3, Kw J h' h3 → Sub (fz hA (V ++ W0)) (fz h3 (V' ++ (J ++ W0))) := fun h3 kk a ob q => by
      obtain ⟨na, e⟩ := fz_some.mp q
      have e1 := k1 _ _ e
      have nJ : a ∉ J := fun q => dead (hJ a q) e
      have nV : a ∉ V := fun q => na (List.mem_append_left _ q)
      have nW : a ∉ W0 := fun q => na (List.mem_append_right _ q)
      refine fz_some.mpr ⟨fun z => ?_, kk.keep a ob nJ (kw.keep a ob (fun z => ?_) e1)⟩
      · exact (List.mem_append.mp z).elim (fun z => (g.new a z).elim nV fun z => dead z e1) fun z => (List.mem_append.mp z).elim nJ nW
      · exact (List.mem_append.mp z).elim nJ fun z => (List.mem_append.mp z).elim (fun z => nW (hM a z)) nV
    obtain ⟨σ1, hσ1⟩ := ht i d y _ _ hd j
    refine wpAny_mono (item i d h' tk' V' hlt hd hst' f'.al sub (K := fun v s2 => wpAny (model prog w) A (assign t env v) (fun _ s3 => wpAny (model prog w) A (execs b env) (fun fl s4 => Qf (finOf t (.ref I) b els env fl) s4) E2 s3) E2 s2) (E1 := E1) (E2 := E2) fun v h2 tk2 kJ st2 rd => ?_) (fun r s1 h => .inr h) fun _ _ e => e
    have kw2 : Kw (J ++ (M ++ V)) h1 h2 := kw.trans (kJ.less fun a m => List.mem_append_left _ m)
    have f2 : FS Base h2 V' (J ++ W0) (J ++ X) env sc T (st y) := f'.vol o (kJ.less fun a m => List.mem_append_left _ m)
    have j2 := stab _ _ _ _ _ _ (fz_kw kJ.keep fun a m => List.mem_append_right _ (List.mem_append_left _ m)) (keepM kJ.keep) j
    refine assign_T o hσ1 (s := { s with heap := h2, toks := tk2 }) f2 rd am fun h3 tk3 k3 f3 => ?_
    have j3 := stab _ _ _ _ _ _ (fz_kw k3.keep fun a m => List.mem_append_left _ m) (fun a m ob e => k3.keep a ob (fun q => f2.vw a q (List.mem_append_right _ (hM a m))) e) j2
    have kw3 : Kw (J ++ (M ++ V)) h1 h3 := kw2.transJ g.pre (k3.less fun a m => List.mem_append_right _ m)
    have keepfp : ∀ {ha hb : Heap}, Kk (M ++ V') ha hb → ∀ a ∈ fp, ∀ ob, ha.get? a = some ob → hb.get? a = some ob := fun {ha hb} kk a hfa ob e => kk a ob (fun z => (hfp a hfa).elim
      (fun q => (List.mem_append.mp z).elim (hJM a q) fun z => f2.vw a z (List.mem_append_left _ q))
      fun ⟨q, ob', e'⟩ => (List.mem_append.mp z).elim (fun z => q (List.mem_append_right _ (hM a z))) fun z => (g.new a z).elim (fun z => q (List.mem_append_left _ z)) fun z => dead z (k1 _ _ e')) e
    have st3 : St (i + 1) h3 := frame _ _ _ st2 (keepfp (k3.less fun a m => List.mem_append_right _ m).keep)
    refine hb i d y σ1 V' h3 tk3 hd hσ1 f3 j3 (fun y' h4 tk4 V4 k4 g4 f4 j4 => ?_) (fun y' h4 tk4 V4 k4 g4 f4 j4 => ?_) fun v h4 tk4 k4 r4 => ?_
    · exact again_ _ _ (by (first | lia | omega)) (.mk (i + 1) h4 tk4 V4 y' hlt (frame _ _ _ st3 (keepfp k4.keep)) (kw3.transJ g.pre k4) (g.more kw3 g4) f4 j4)
    · obtain ⟨f5, kS⟩ := letgo (g.more kw3 g4) (kw3.transJ g.pre k4) f4 (fun _ _ _ e => e)
      exact done_ _ _ (hbrk y' h4 tk4 V4 kS ((g.more kw3 g4).back k01) f5 j4)
    · exact done_ _ _ (hret v h4 tk4 ((kw3.transJ g.pre k4).out hJs k01) (rstab _ _ _ _ (fun a m => List.mem_append_right _ m) r4))
  · have hin : i = ds.length := Nat.le_antisymm hi (Nat.le_of_not_lt hlt)
    subst hin
    refine done _ _ _ hst' fun h2 tk2 kk2 => .inl ⟨rfl, els_ _ ?_⟩
    obtain ⟨f2, kS⟩ := letgo g kw f' kk2
    refine hnext y h2 tk2 V' kS (g.back k01) f2 (stab _ _ _ _ _ _ (fun a ob q => ?_) (keepM kk2) j)
    obtain ⟨na, e⟩ := fz_some.mp q
    exact fz_some.mpr ⟨fun z => na (mid_mem z), kk2 a ob (fun q => na (List.mem_append_right _ (List.mem_append_left _ q))) e⟩
theorem walk_in {A : Around} {I : Addr} {ds : List D} {W : List Addr} {h0 h1 : Heap} (it : Itr prog w W [] h0 ds I h1) (am : Amb A n) {P : Prop}
    (hq : ∀ (J fp : List Addr) (St : Nat → Heap → Prop), (∀ a ∈ J, h0.get? a = none) → (∀ a ∈ J, ∃ ob, h1.get? a = some ob) → (∀ a ∈ fp, a ∈ J ∨ (a ∉ W ∧ ∃ ob, h0.get? a = some ob)) →
      (∀ i a b, St i a → (∀ c ∈ fp, ∀ o, a.get? c = some o → b.get? c = some o) → St i b) → St 0 h1 →
      (∀ (t : Expr) (s : Shared) i d h' tk' W', i < ds.length → ds[i]? = some d → St i h' → Al W' h' → (∀ h3, Kw J h' h3 → Sub (fz h0 W) (fz h3 W')) → ∀ {K : Value → Shared → Prop} {E1 E2 : Value → Shared → Prop},
        (∀ v h3 tk3, Kw J h' h3 → St (i + 1) h3 → Rep (fz h3 W') d v → K v { s with heap := h3, toks := tk3 }) →
        wpAny (model prog w) A (pyNext (.ref I)) (fun r s1 => ∃ v, r = some v ∧ wpAny (model prog w) A (letOwnedTupleGo t (.ref I) v) (fun _ s2 => K v s2) E2 s1) E1 { s with heap := h', toks := tk' }) →
      (∀ (s : Shared) (Q : Option Value → Shared → Prop) (E : Value → Shared → Prop), St ds.length s.heap → (∀ h' tk, Kk J s.heap h' → Q none { s with heap := h', toks := tk }) → wpAny (model prog w) A (pyNext (.ref I)) Q E s) → P) : P := by
  obtain ⟨fp, Pt, St, wk, hst, hI, hI2, hfp, hP, hlive⟩ := it
  have wk := wk A am.hd
  refine hq [I] fp St (fun a m => by rw [List.mem_singleton.mp m]; exact hI) (fun a m => by rw [List.mem_singleton.mp m]; exact hI2) (fun a m => ?_) wk.frame hst (fun t s i d h' tk' W' hlt hd hst' al sub K E1 E2 hK => ?_) wk.done
  · exact (hfp a m).imp (fun q => List.mem_singleton.mpr q) fun ⟨q, e⟩ => ⟨q.elim id (fun z => nomatch z), e⟩
  · refine wk.item i _ _ _ hlt hst' fun v h2 tk2 hv st2 kk2 => ?_
    obtain ⟨d', hd', rd⟩ := hP i v hv
    cases hd'.symm.trans hd
    have kI : Kw [I] h' h2 := ⟨kk2, fun a ⟨ob, e⟩ => by
      by_cases q : a ∈ [I]
      · rw [List.mem_singleton.mp q]; exact let ⟨ob, e, _⟩ := hlive _ _ st2; ⟨ob, e⟩
      · exact ⟨ob, kk2 a ob q e⟩⟩
    exact ⟨v, rfl, lots_ok (hlive _ _ st2) (hK v h2 tk2 kI st2 (Rep.mono (sub h2 kI) rd))⟩
end
end
section
section
variable {prog : Program} {w : World} {n : Nat} {Base : Heap → List Addr → Prop} {O : Orc} {k : Nat} {h h' : Heap} {V W0 X T : List Addr} {env : Env} {sc : List (Str × NameKind)} {σ σ' : Vars}

theorem forD_inv {t : Vars → D → Option Vars} {fb fe : Vars → Option (Vars × Fl)} {d : D} {ds : List D} {fl : Fl} (h : forD t fb fe (d :: ds) σ = some (σ', fl)) : ∃ σ1, t σ d = some σ1 ∧ ((∃ σ2, fb σ1 = some (σ2, .next) ∧ forD t fb fe ds σ2 = some (σ', fl)) ∨ (fb σ1 = some (σ', .brk) ∧ fl = .next) ∨ ∃ d', fb σ1 = some (σ', .ret d') ∧ fl = .ret d') := by
  obtain ⟨σ1, e, h⟩ := bind_inv h
  exact ⟨σ1, e, stepF_inv h⟩
theorem fl_next {h : Heap} {f' : Flow} {V' : List Addr} (p : Post Base h V' W0 X env sc T σ .next f' h') : f' = .next ∧ ∃ V4, Gr h V' V4 ∧ FS Base h' V4 W0 X env sc T σ := by
  cases f' <;> first | exact p.elim | exact ⟨rfl, p⟩
theorem fl_brk {h : Heap} {f' : Flow} {V' : List Addr} (p : Post Base h V' W0 X env sc T σ .brk f' h') : f' = .brk ∧ ∃ V4, Gr h V' V4 ∧ FS Base h' V4 W0 X env sc T σ := by
  cases f' <;> first | exact p.elim | exact ⟨rfl, p⟩
theorem fl_ret {h : Heap} {f' : Flow} {V' : List Addr} {d : D} (p : Post Base h V' W0 X env sc T σ (.ret d) f' h') : ∃ v, f' = .ret v ∧ Rep (fz h' W0) d v := by
  cases f' <;> first | exact p.elim | exact ⟨_, rfl, p⟩
theorem loop_d (o : OrcOK prog w n Base O) {A : Around} (am : Amb A n) {t : Expr} {I : Addr} {b els : List Stmt} {J fp : List Addr} {ds : List D} {St : Nat → Heap → Prop} {fb fe : Vars → Option (Vars × Fl)} {fl : Fl} {Q : Flow → Shared → Prop} {E : Value → Shared → Prop}
    {s : Shared} {hA h1 : Heap} {tk0 : Nat} (f : FS Base s.heap V W0 X env sc T σ) (kA : Kp s.heap hA) (k1 : Kp hA h1) (hJ : ∀ a ∈ J, hA.get? a = none) (hJl : ∀ a ∈ J, ∃ ob, h1.get? a = some ob) (hfp : ∀ a ∈ fp, a ∈ J ∨ (a ∉ V ++ W0 ∧ ∃ ob, hA.get? a = some ob))
    (frame : ∀ i a b, St i a → (∀ c ∈ fp, ∀ o, a.get? c = some o → b.get? c = some o) → St i b) (hst : St 0 h1)
    (item : ∀ i d h' tk' V', i < ds.length → ds[i]? = some d → St i h' → Al (V' ++ (J ++ W0)) h' → (∀ h3, Kw J h' h3 → Sub (fz hA (V ++ W0)) (fz h3 (V' ++ (J ++ W0)))) → ∀ {K : Value → Shared → Prop} {E1 E2 : Value → Shared → Prop},
      (∀ v h3 tk3, Kw J h' h3 → St (i + 1) h3 → Rep (fz h3 (V' ++ (J ++ W0))) d v → K v { s with heap := h3, toks := tk3 }) →
      wpAny (model prog w) A (pyNext (.ref I)) (fun r s1 => ∃ v, r = some v ∧ wpAny (model prog w) A (letOwnedTupleGo t (.ref I) v) (fun _ s2 => K v s2) E2 s1) E1 { s with heap := h', toks := tk' })
    (done : ∀ (s : Shared) (Q : Option Value → Shared → Prop) (E : Value → Shared → Prop), St ds.length s.heap → (∀ h' tk, Kk J s.heap h' → Q none { s with heap := h', toks := tk }) → wpAny (model prog w) A (pyNext (.ref I)) Q E s)
    (hb : ∀ σ σ' fl, fb σ = some (σ', fl) → PS prog w n Base (execs b) sc σ σ' fl) (he : ∀ σ σ' fl, fe σ = some (σ', fl) → PS prog w n Base (execs els) sc σ σ' fl) (hf : forD (setT sc t) fb fe ds σ = some (σ', fl))
    (hq : ∀ f h' tk', Kw V s.heap h' → Post Base s.heap V W0 X env sc T σ' fl f h' → Q f { s with heap := h', toks := tk' }) :
    codeAny (model prog w) A (.forLoop t (.ref I) b els env) (fun r s' => match r with | .ok f => Q f s' | .error e => cameBackBy (model prog w) A env E e s') { s with heap := h1, toks := tk0 } := by
  refine loop_g o am (J := J) (M := []) (ds := ds) (st := id) (JJ := fun i σi _ _ => forD (setT sc t) fb fe (ds.drop i) σi = some (σ', fl)) (JB := fun σi => σi = σ' ∧ fl = .next) (Rt := fun v h W => ∃ d, fl = .ret d ∧ Rep (fz h W) d v) f kA k1 hJ hJl (fun _ m => nomatch m) hfp frame hst item done
    (fun _ _ _ _ _ _ _ _ j => j) (fun v h W W' m r => let ⟨d, e, r⟩ := r; ⟨d, e, Rep.mono (fz_less m) r⟩) (fun i d y _ _ hd j => ?_) (fun i d y σ1 V' h3 tk3 Q' E' hd hσ1 f3 j nx bk rt => ?_) hf (fun y h' tk' V' kS g f2 j => ?_) (fun y h' tk' V' kS g f2 j => ?_) fun v h' tk' kS r => ?_
  · rw [drop_cons hd] at j
    obtain ⟨σ1, e, _⟩ := forD_inv j
    exact ⟨σ1, e⟩
  · rw [drop_cons hd] at j
    obtain ⟨σ1', e, j⟩ := forD_inv j
    cases hσ1.symm.trans e
    rcases j with ⟨σ2, hfb, j⟩ | ⟨hfb, rfl⟩ | ⟨d', hfb, rfl⟩
    · refine hb _ _ _ hfb env V' (J ++ W0) (J ++ X) T A { s with heap := h3, toks := tk3 } Q' E' f3 am fun fl' h4 tk4 k4 p4 => ?_
      obtain ⟨rfl, V4, g4, f4⟩ := fl_next p4
      exact nx σ2 h4 tk4 V4 k4 g4 f4 j
    · refine hb _ _ _ hfb env V' (J ++ W0) (J ++ X) T A { s with heap := h3, toks := tk3 } Q' E' f3 am fun fl' h4 tk4 k4 p4 => ?_
      obtain ⟨rfl, V4, g4, f4⟩ := fl_brk p4
      exact bk σ' h4 tk4 V4 k4 g4 f4 ⟨rfl, rfl⟩
    · refine hb _ _ _ hfb env V' (J ++ W0) (J ++ X) T A { s with heap := h3, toks := tk3 } Q' E' f3 am fun fl' h4 tk4 k4 p4 => ?_
      obtain ⟨v, rfl, r⟩ := fl_ret p4
      exact rt v h4 tk4 k4 ⟨d', rfl, r⟩
  · have j : forD (setT sc t) fb fe (ds.drop ds.length) y = some (σ', fl) := j
    rw [List.drop_length] at j
    exact codeAny_block (he _ _ _ j env V' W0 X T A { s with heap := h', toks := tk' } _ _ f2 am fun fl' h3 tk3 k3 p3 => hq fl' h3 tk3 (kS.more g k3) (p3.up g kS))
  · obtain ⟨rfl, rfl⟩ := j
    exact hq .next h' tk' kS ⟨V', g, f2⟩
  · obtain ⟨d, rfl, r⟩ := r
    exact hq (.ret v) h' tk' kS r
theorem for_ok (o : OrcOK prog w n Base O) (hE : PE prog w n Base O k) {t i : Expr} {b els : List Stmt} {p : Pos} {ds : List D} {fb fe : Vars → Option (Vars × Fl)} {fl : Fl} (hp : plainSrc i = true) (hi : (evE O k sc σ i).bind iterD = some ds)
    (hb : ∀ σ σ' fl, fb σ = some (σ', fl) → PS prog w n Base (execs b) sc σ σ' fl) (he : ∀ σ σ' fl, fe σ = some (σ', fl) → PS prog w n Base (execs els) sc σ σ' fl) (hf : forD (setT sc t) fb fe ds σ = some (σ', fl)) : PS prog w n Base (exec (.For t i b els p)) sc σ σ' fl := by
  intro env V W0 X T A s Q E f am hq
  obtain ⟨di, hdi, hit⟩ := bind_inv hi
  refine wpAny_For (hE sc σ i di hdi env s.heap (V ++ W0) X f.eo f.cal f.vo f.al f.base f.xw A s _ E (Kp.refl _) am fun v h0 tk0 k0 r0 => ?_) (fun x => folded_ok hp)
  refine iter_ok r0 hit (Kp.refl _) fun I h1 k1 it => ?_
  exact walk_in it am fun J fp St hJ hJl hfp frame hst item done => loop_d (s := s) o am f k0 k1 hJ hJl hfp frame hst (fun i d h' tk' V' a1 a2 a3 a4 a5 => item t s i d h' tk' _ a1 a2 a3 a4 a5) done hb he hf hq
end
end
section
section
variable {prog : Program} {w : World} {n : Nat} {Base : Heap → List Addr → Prop} {O : Orc} {k : Nat} {h h' : Heap} {V W0 X T : List Addr} {env : Env} {sc : List (Str × NameKind)} {σ σ' : Vars}

theorem whileD_inv {ft : Vars → Option Bool} {fb : Vars → Option (Vars × Fl)} {m : Nat} {fl : Fl} (h : whileD ft fb (m + 1) σ = some (σ', fl)) : (ft σ = some false ∧ σ' = σ ∧ fl = .next) ∨ (ft σ = some true ∧ ((∃ σ2, fb σ = some (σ2, .next) ∧ whileD ft fb m σ2 = some (σ', fl)) ∨ (fb σ = some (σ', .brk) ∧ fl = .next) ∨ ∃ d', fb σ = some (σ', .ret d') ∧ fl = .ret d')) := by
  obtain ⟨c, e, h⟩ := bind_inv h
  cases c with
  | false => cases (show some (σ, Fl.next) = some (σ', fl) from h); exact .inl ⟨e, rfl, rfl⟩
  | true => exact .inr ⟨e, stepF_inv h⟩
noncomputable def wlOf (Qd : Flow → Shared → Prop) (K : Shared → Prop) : Flow → Shared → Prop
  | .next | .cont => K
  | .brk => Qd .next
  | .ret v => Qd (.ret v)
theorem while_rule {A : Around} {t : Expr} {b : List Stmt} {R : Result → Shared → Prop} (I : Nat → Shared → Prop)
    (turn : ∀ m s, I m s → ∀ (Qd : Flow → Shared → Prop) (K : Shared → Prop) (E' : Value → Shared → Prop), (∀ f s', R (.ok f) s' → Qd f s') → (∀ m' s', m' < m → I m' s' → K s') →
      wpAny (model prog w) A (isTrue t env (eval t env)) (fun c s2 => (c = false ∧ Qd .next s2) ∨ (c = true ∧ wpAny (model prog w) A (execs b env) (wlOf Qd K) E' s2)) E' s)
    {m : Nat} {s : Shared} (h : I m s) : codeAny (model prog w) A (.whileLoop t b [] env) R s := by
  refine codeAny_whileLoop I (fun m s hI => wpAny_mono (turn m s hI (fun f s' => R (.ok f) s') (fun s' => ∃ m', m' < m ∧ I m' s') _ (fun _ _ h => h) fun m' s' hm h => ⟨m', hm, h⟩) (fun c s2 h => ?_) fun _ _ e => e) m h
  rcases h with ⟨rfl, h⟩ | ⟨rfl, h⟩
  · exact wpAny_execs_nil h
  · exact wpAny_mono h (fun f s3 h => by cases f <;> exact h) fun _ _ e => e
inductive WInv (Base : Heap → List Addr → Prop) (V W0 X : List Addr) (env : Env) (sc : List (Str × NameKind)) (T : List Addr) (rest : Nat → Vars → Prop) (s0 : Shared) : Nat → Shared → Prop
  | mk {m : Nat} (h' : Heap) (tk' : Nat) (V' : List Addr) (σi : Vars) (kw : Kw V s0.heap h') (g : Gr s0.heap V V') (f : FS Base h' V' W0 X env sc T σi) (r : rest m σi) : WInv Base V W0 X env sc T rest s0 m { s0 with heap := h', toks := tk' }
theorem while_ok (o : OrcOK prog w n Base O) (hT : PT prog w n Base O k) {t : Expr} {b : List Stmt} {p : Pos} {fb : Vars → Option (Vars × Fl)} {fl : Fl} {k' : Nat}
    (hb : ∀ σ σ' fl, fb σ = some (σ', fl) → PS prog w n Base (execs b) sc σ σ' fl) (hf : whileD (fun σ => evT O k sc σ t) fb k' σ = some (σ', fl)) : PS prog w n Base (exec (.While t b [] p)) sc σ σ' fl := by
  intro env V W0 X T A s Q E f am hq
  refine wpAny_While (while_rule (WInv Base V W0 X env sc T (fun m σi => whileD (fun σ => evT O k sc σ t) fb m σi = some (σ', fl)) s) (fun m s' hJ Qd K E' hQd hK => ?_) (.mk s.heap s.toks V σ Kw.refl Gr.refl f hf))
  cases hJ with
  | mk h1 tk1 V1 σ1 kw1 g1 f1 e1 =>
  cases m with
  | zero => exact ns e1
  | succ m =>
    rcases whileD_inv e1 with ⟨ht, rfl, rfl⟩ | ⟨ht, e1⟩
    · refine hT sc _ t _ ht env h1 (V1 ++ W0) X f1.eo f1.cal f1.vo f1.al f1.base f1.xw A _ _ _ (Kp.refl _) am fun c h2 tk2 k2 r2 => .inl ⟨r2, ?_⟩
      exact hQd _ _ (hq .next h2 tk2 (kw1.trans (Kw.of k2)) ⟨V1, g1, f1.kp o k2⟩)
    · refine hT sc _ t _ ht env h1 (V1 ++ W0) X f1.eo f1.cal f1.vo f1.al f1.base f1.xw A _ _ _ (Kp.refl _) am fun c h2 tk2 k2 r2 => .inr ⟨r2, ?_⟩
      have f2 := f1.kp o k2
      have kw2 : Kw V s.heap h2 := kw1.trans (Kw.of k2)
      rcases e1 with ⟨σ2, hfb, e1⟩ | ⟨hfb, rfl⟩ | ⟨d', hfb, rfl⟩
      · refine hb _ _ _ hfb env V1 W0 X T A { s with heap := h2, toks := tk2 } _ _ f2 am fun fl' h3 tk3 k3 p3 => ?_
        obtain ⟨rfl, V3, g3, f3⟩ := fl_next p3
        exact hK m _ (Nat.lt_succ_self _) (.mk h3 tk3 V3 σ2 (kw2.more g1 k3) (g1.more kw2 g3) f3 e1)
      · refine hb _ _ _ hfb env V1 W0 X T A { s with heap := h2, toks := tk2 } _ _ f2 am fun fl' h3 tk3 k3 p3 => ?_
        obtain ⟨rfl, V3, g3, f3⟩ := fl_brk p3
        exact hQd _ _ (hq .next h3 tk3 (kw2.more g1 k3) ⟨V3, g1.more kw2 g3, f3⟩)
      · refine hb _ _ _ hfb env V1 W0 X T A { s with heap := h2, toks := tk2 } _ _ f2 am fun fl' h3 tk3 k3 p3 => ?_
        obtain ⟨v, rfl, r⟩ := fl_ret p3
        exact hQd _ _ (hq (.ret v) h3 tk3 (kw2.more g1 k3) r)

theorem ret_ok (o : OrcOK prog w n Base O) (hE : PE prog w n Base O k) {e : Expr} {p : Pos} {d : D} (he : evE O k sc (frzAll σ) e = some d) : PS prog w n Base (exec (.Return (some e) p)) sc σ σ (.ret d) := by
  intro env V W0 X T A s Q E f am hq
  have sub : ∀ a ∈ T ++ W0, a ∈ V ++ W0 := fun a m => by
    rcases List.mem_append.mp m with m | m
    · exact List.mem_append_left _ (f.tv a m)
    · exact List.mem_append_right _ m
  have vo : VarsOK s.heap (T ++ W0) [] env (frzAll σ) := fun x b q => by
    rw [lookup_frz] at q
    obtain ⟨b0, hb0, rfl⟩ := Option.map_eq_some_iff.mp q
    obtain ⟨ok, v, hv, r⟩ := f.vo x b0 hb0
    have hv' : Holds s.heap [] env x v := by
      rcases hv with ⟨a, n, m, z, e⟩ | ⟨a, e, z, n, d⟩
      · exact .inl ⟨a, by simp, m, z, e⟩
      · exact .inr ⟨a, e, z, by simp, d⟩
    refine ⟨ok, v, hv', ?_⟩
    cases b0 with
    | val d => exact Rep.mono (fz_less sub) r
    | own ds =>
      have hO := fun a => f.ownV x ds a hb0
      obtain ⟨a, vs, m, rfl, hg, ma, nx, rl⟩ := r
      refine ⟨a, vs, rfl, ⟨_, m, fz_some.mpr ⟨fun z => ?_, hg⟩, rfl, rfl, fun _ => rfl⟩, RepL.mono (fz_less sub) rl⟩
      rcases List.mem_append.mp z with z | z
      · exact f.fra.noSeq hg rfl z
      · exact f.vw a (hO a hv) z
  refine wpAny_Return_some (hE sc _ e d he env s.heap (T ++ W0) [] f.eo f.cal vo (fun a m => f.al a (sub a m)) (o.up f.base (fun _ _ _ e => e) fun a m => .inl (sub a m)) (by (first | exact List.mem_cons_self | exact List.mem_cons_of_mem _ List.mem_cons_self | decide | simp)) A s _ E (Kp.refl _) am fun v h1 tk1 k1 r1 => ?_)
  exact hq (.ret v) h1 tk1 (Kw.of k1) (Rep.mono (fz_less fun a m => List.mem_append_right _ m) r1)

theorem inter_no {env : Env} (hk : env.scope.kind = .function) : interactive env = false := by
  unfold interactive; rw [hk]; rfl
theorem Holds.seq {a : Addr} {ob : Obj} {vs : Array Value} {m : Nat} {x : Str} {v : Value} (hv : Holds h X env x v) (k : Kk [a] h h') (e : h.get? a = some ob) (d : ob.data = .seq vs m) : Holds h' X env x v := by
  rcases hv with ⟨q, nx, mm, hns, hm⟩ | ⟨q, c, hc, nx, oc, ho, hd⟩
  · refine .inl ⟨q, nx, mm, hns.at' fun o2 e2 => k _ o2 (fun z => ?_) e2, hm⟩
    rw [List.mem_singleton.mp z, e] at e2
    first | with_reducible exact ns e2 | cases e2
    obtain ⟨o3, es, ep, e3, d3, _⟩ := hns
    rw [List.mem_singleton.mp z, e] at e3
    first | with_reducible exact ns e3 | cases e3
    first | exact dead2 (d) d3 | exact dead2 d3 (d) | (rw [d] at d3; cases d3)
  · refine .inr ⟨q, c, hc, nx, oc, k _ oc (fun z => ?_) ho, hd⟩
    rw [List.mem_singleton.mp z, e] at ho
    first | with_reducible exact ns ho | cases ho
    first | exact dead2 (d) hd | exact dead2 hd (d) | (rw [d] at hd; cases hd)
theorem FS.app (o : OrcOK prog w n Base O) (f : FS Base h V W0 X env sc T σ) {x : Str} {ds ds' : List D} {a : Addr} {vs' : List Value} {m : Nat} (hx : σ.lookup x = some (.own ds)) (hv : Holds h X env x (.ref a)) (s : Heap.SameBut a h h')
    (hg : h'.get? a = some { cls := .type "list", dict := none, data := .seq vs'.toArray m, slots := #[] }) (r : RepL (fz h' (V ++ W0)) ds' vs') : FS Base h' V W0 X env sc T (setV σ x (.own ds')) := by
  obtain ⟨ok, v0, hv0, a0, vs0, m0, rfl, hg0, ma0, nx0, rl0⟩ := f.vo x _ hx
  have := hv0.one hv
  first | with_reducible exact ns this | cases this
  have k : Kw [a] h h' := kw_same s List.mem_cons_self ⟨_, hg⟩
  have hkeep : ∀ {y : Str} {u : Value}, Holds h X env y u → Holds h' X env y u := fun {y u} hy => hy.seq k.keep hg0 rfl
  have aT : ∀ b ∈ T, b ∉ [a] := fun b mb z => f.fra.noSeq hg0 rfl (by rw [← List.mem_singleton.mp z]; exact mb)
  have aW : ∀ b ∈ [a], b ∈ V ++ W0 := fun b mb => by rw [List.mem_singleton.mp mb]; exact ma0
  have cases_ : ∀ y c, (setV σ x (.own ds')).lookup y = some c → (y = x ∧ c = .own ds') ∨ (y ≠ x ∧ σ.lookup y = some c) := fun y c e => by
    rw [lookup_setV] at e
    cases q : y == x with
    | true => rw [q] at e; simp only [if_true] at e; cases e; exact .inl ⟨beq_iff_eq.mp q, rfl⟩
    | false => rw [q] at e; simp only [Bool.false_eq_true, if_false] at e; exact .inr ⟨fun z => by rw [z] at q; simp at q, e⟩
  have back : ∀ {y : Str} {es : List D} {b : Addr}, σ.lookup y = some (.own es) → Holds h' X env y (.ref b) → Holds h X env y (.ref b) := fun {y es b} e hy => by
    obtain ⟨_, u, hu, _⟩ := f.vo y _ e
    have := (hkeep hu).one hy
    subst this
    exact hu
  exact {
    eo := f.eo, cal := f.cal.kw k, fra := f.fra.kw k.keep aT, tv := f.tv, tx := f.tx, xw := f.xw, vw := f.vw, al := f.al.kw k
    vo := fun y c e => by
      rcases cases_ y c e with ⟨rfl, rfl⟩ | ⟨ne, e⟩
      · exact ⟨ok, _, hkeep hv0, a, vs', m, rfl, hg, ma0, nx0, r⟩
      · obtain ⟨oy, u, hu, ru⟩ := f.vo y c e
        refine ⟨oy, u, hkeep hu, ?_⟩
        cases c with
        | val d => exact Rep.mono (fz_kw k.keep aW) ru
        | own es =>
          obtain ⟨b, us, mb, rfl, hgb, mb2, nb, rb⟩ := ru
          refine ⟨b, us, mb, rfl, k.keep _ _ (fun z => ?_) hgb, mb2, nb, RepL.mono (fz_kw k.keep aW) rb⟩
          rw [List.mem_singleton.mp z] at hu
          exact ne (f.apart y x es ds a e hx hu hv0)
    ownV := fun y es b e hy => by
      rcases cases_ y _ e with ⟨rfl, _⟩ | ⟨ne, e⟩
      · exact f.ownV y ds b hx (back hx hy)
      · exact f.ownV y es b e (back e hy)
    apart := fun y z es es' b e e' hy hz => by
      rcases cases_ y _ e with ⟨q, _⟩ | ⟨ne, ee⟩ <;> rcases cases_ z _ e' with ⟨q', _⟩ | ⟨ne', ee'⟩
      · rw [q, q']
      · rw [q] at hy ⊢; exact f.apart x z ds es' b hx ee' (back hx hy) (back ee' hz)
      · rw [q'] at hz ⊢; exact f.apart y x es ds b ee hx (back ee hy) (back hx hz)
      · exact f.apart y z es es' b ee ee' (back ee hy) (back ee' hz)
    base := o.up f.base (fun b ob nb e => k.keep b ob (fun z => nb (aW b z)) e) fun a m => .inl m }

theorem append_ok (o : OrcOK prog w n Base O) (hE : PE prog w n Base O k) {x : Str} {q apos pos p : Pos} {e : Expr} {ds : List D} {d : D} (hx : σ.lookup x = some (.own ds)) (he : evE O k sc σ e = some d) (hs : starred e = false) (hp : (apos.endLine == pos.line) = true) (hl : ds.length < 1048576) :
    PS prog w n Base (exec (.Expr (.Call (.Attribute (.Name x q) (Str.ofString "append") apos) [e] [] pos) p)) sc σ (setV σ x (.own (ds ++ [d]))) .next := by
  intro env V W0 X T A s Q E f am hq
  obtain ⟨ok, v0, hv0, a, vs, m, rfl, hg, ma, nx, rl⟩ := f.vo x _ hx
  have hs' : [e].any starred = false := by simp [hs]
  have hal : allSome (evE O k sc σ) [e] = some [d] := by show (evE O k sc σ e).bind _ = _; rw [he]; rfl
  refine wpAny_Expr_any ?_ (inter_no f.eo.kind)
  refine MethodCall_ (name_holds f.eo.kind ok hv0 ?_) (method_is rfl hs' (by (first | exact List.mem_cons_self | exact List.mem_cons_of_mem _ List.mem_cons_self | decide | simp)) hp)
  have gm : ∀ {Q : Value × List Value → Shared → Prop} {pl : Sem Bool}, Q (.builtin "list.append", [.ref a]) s → wpAny (model prog w) A (getMethod (.ref a) (Str.ofString "append") pl) Q E s := fun hQ => by
    with_reducible exact getMethod_list_append hg rfl rfl hQ
  refine gm ?_
  refine callWith_builtin (star_plain hs') (evargs_ok (h := s.heap) (n := n) (W := V ++ W0) hs' (fun e' _ d' h' kk q => (hE sc σ e' d' q env s.heap (V ++ W0) X f.eo f.cal f.vo f.al f.base f.xw).up kk) hal (Kp.refl _) am fun us h1 tk1 k1 r1 => ?_)
  obtain ⟨u, _, rfl, r1, rfl⟩ := r1
  have hl' := rl.length
  have f1 := f.kp o k1
  have hv1 := hv0.mono k1
  refine wpAny_list_append_plain (hsz := by rw [List.size_toArray, sizeLine_eq]; (first | lia | omega)) ⟨m, k1 _ _ hg⟩ fun h2 hD2 hs2 => ?_
  obtain ⟨m2, hg2⟩ := hD2
  have e2 : vs.toArray.push u = (vs ++ [u]).toArray := by simp
  rw [e2] at hg2
  have k2 : Kw [a] h1 h2 := kw_same hs2 List.mem_cons_self ⟨_, hg2⟩
  have aV := f.ownV x ds a hx hv0
  have aW : ∀ b ∈ [a], b ∈ V ++ W0 := fun b mb => by rw [List.mem_singleton.mp mb]; exact ma
  refine hq .next h2 tk1 ((Kw.of k1).trans (k2.less fun b mb => by rw [List.mem_singleton.mp mb]; exact aV)) ⟨V, Gr.refl, f1.app o hx hv1 hs2 hg2 ?_⟩
  exact RepL.append (RepL.mono (Sub.trans (fz_mono k1) (fz_kw k2.keep aW)) rl) (RepL.one (Rep.mono (fz_kw k2.keep aW) r1))
end
end
section
section
variable {prog : Program} {w : World} {n : Nat} {Base : Heap → List Addr → Prop} {O : Orc} {k : Nat} {h h' : Heap} {V W0 X T : List Addr} {env : Env} {sc : List (Str × NameKind)} {σ σ' : Vars}

theorem new_own (o : OrcOK prog w n Base O) (f : FS Base h V W0 X env sc T σ) (hz : h' = h.push { cls := .type "list", dict := none, data := .seq ([] : List Value).toArray }) :
    FS Base h' (h.objs.size :: V) W0 X env sc T σ ∧ Gr h V (h.objs.size :: V) ∧ BRep h' (h.objs.size :: V ++ W0) X (.own []) (.ref h.objs.size) ∧ Kp h h' := by
  subst hz
  have g : Gr h V (h.objs.size :: V) := Gr.one (size_none _)
  have hg := Heap.get?_push_size h (o := { cls := .type "list", dict := none, data := .seq ([] : List Value).toArray }) rfl
  refine ⟨f.grow o g (Kp.push _ _) (fun a m => ?_), g, ⟨h.objs.size, [], 0, rfl, hg, by simp, fun m => ?_, rfl⟩, Kp.push _ _⟩
  · rcases List.mem_cons.mp m with rfl | m
    · exact ⟨_, hg⟩
    · obtain ⟨ob, e⟩ := f.al a (List.mem_append_left _ m); exact ⟨ob, Kp.push _ _ a ob e⟩
  · obtain ⟨ob, e⟩ := f.al _ (f.xw _ m)
    first | exact dead2 (size_none) e | exact dead2 e (size_none) | (rw [size_none] at e; cases e)
theorem new_apart (f : FS Base h V W0 X env sc T σ) (k : Kp h h') {a : Addr} (e : h.get? a = none) {y : Str} {es : List D} (hy : σ.lookup y = some (.own es)) : ¬ Holds h' X env y (.ref a) := fun hh => by
  obtain ⟨_, u, hu, _⟩ := f.vo y _ hy
  have := (hu.mono k).one hh
  subst this
  obtain ⟨ob, e'⟩ := f.al a (List.mem_append_left _ (f.ownV y es a hy hu))
  first | exact dead2 (e) e' | exact dead2 e' (e) | (rw [e] at e'; cases e')

theorem swaps_cases {v : Expr} {x : Str} {p : Pos} {l : Nat} : (swapsWith v (some (.Name x p)) l env = pure false) ∨ ((∃ elt gens scope pos, v = .ListComp elt gens scope pos) ∧ swapsWith v (some (.Name x p)) l env = pure true) ∨ (∃ a b c d, v = .SetComp a b c d) ∨ ∃ a b c d e, v = .DictComp a b c d e := by
  first | with_reducible exact ns v | cases v
  case ListComp elt gens scope pos =>
    have : ∃ b : Bool, swapsWith (.ListComp elt gens scope pos) (some (.Name x p)) l env = pure b := ⟨_, rfl⟩
    obtain ⟨b, hb⟩ := this
    first | with_reducible exact ns b | cases b
    · exact .inl hb
    · exact .inr (.inl ⟨⟨_, _, _, _, rfl⟩, hb⟩)
  case SetComp => exact .inr (.inr (.inl ⟨_, _, _, _, rfl⟩))
  case DictComp => exact .inr (.inr (.inr ⟨_, _, _, _, _, rfl⟩))
  all_goals exact .inl rfl

theorem isEmptyL_is {e : Expr} (h : isEmptyL e = true) : ∃ p, e = .List [] p := by
  cases e <;> first | exact (Bool.false_ne_true h).elim | skip
  rename_i es p
  cases es
  · exact ⟨_, rfl⟩
  · first | with_reducible exact ns h | cases h
theorem eval_empty {p : Pos} {A : Around} {s : Shared} {Q : Value → Shared → Prop} {E : Value → Shared → Prop} (hq : Q (.ref s.heap.objs.size) { s with heap := s.heap.push { cls := .type "list", dict := none, data := .seq ([] : List Value).toArray } }) : wpAny (model prog w) A (eval (.List [] p) env) Q E s :=
  List_ (spliced_nil (wpAny_newObj_type hq))

theorem inv_comp {elt : Expr} {gens : List Comprehension} {scope : Scope} {pos : Pos} {d : D} (he : evE O k sc σ (.ListComp elt gens scope pos) = some d) : ∃ k' g gs ds es, k = k' + 1 ∧ gens = g :: gs ∧ plainSrc g.iter = true ∧ g.is_async = 0 ∧ scopeOk sc scope = true ∧ peekD σ (evE O k' sc σ) g.iter = some ds ∧
    evC O k' scope.names (σ.filter fun p => scope.names.lookup p.1 == some .free) elt g gs ds = some es ∧ es.length ≤ 1048576 ∧ d = .list es := by
  cases k with
  | zero => exact nomatch (show (none : Option D) = some d from he)
  | succ k' =>
    cases gens with
    | nil => exact nomatch (show (none : Option D) = some d from he)
    | cons g gs =>
      obtain ⟨ds, es, hc, hds, hes, hz, rfl⟩ := compE_inv he
      simp only [Bool.and_eq_true, decide_eq_true_eq] at hc
      exact ⟨k', g, gs, ds, es, rfl, rfl, hc.1.1, hc.1.2, hc.2, hds, hes, hz, rfl⟩

theorem comp_used (o : OrcOK prog w n Base O) (hE : PE prog w n Base O k) {x : Str} {q p pos : Pos} {elt : Expr} {g : Comprehension} {gs : List Comprehension} {scope : Scope} {ds : List D} {cap : Nat} {Fin : Heap → Heap → List Addr → List Value → Prop} (hx : tgtOk sc x = true) (hC : CL prog w n Base scope.names (σ.filter fun p => scope.names.lookup p.1 == some .free) elt g gs ds cap Fin)
    (hp : plainSrc g.iter = true) (ha : g.is_async = 0) (hsc : scopeOk sc scope = true) (hpk : peekD σ (evE O k sc σ) g.iter = some ds) (hle : cap ≤ 1048576) (hs : swapsWith (.ListComp elt (g :: gs) scope pos) (some (.Name x q)) p.line env = pure true)
    {A : Around} {s : Shared} {Q : Flow → Shared → Prop} {E : Value → Shared → Prop} (f : FS Base s.heap V W0 X env sc T σ) (am : Amb A n)
    (hq : ∀ C ys hs h1 h3 tk3 W', Fin hs h1 W' ys → Kp s.heap hs → hs.get? C ≠ none → Kw T s.heap h3 → (∀ a ob, a ≠ C → a ∉ T → h1.get? a = some ob → h3.get? a = some ob) → Sub (fz h1 W') (fz h3 (V ++ W0)) → (∀ es, RepL (fz h3 (V ++ W0)) es ys → FS Base h3 V W0 X env sc T (setV σ x (.val (.list es)))) → Q .next { s with heap := h3, toks := tk3 }) :
    wpAny (model prog w) A (exec (.Assign [.Name x q] (.ListComp elt (g :: gs) scope pos) p) env) Q E s := by
  rw [exec_Assign_Name_used _ _ _ _ hs]
  refine wpAny_bind (wpAny_standAt (wpAny_bind ?_))
  show wpAny _ A (do let _ ← comprehension (.ListComp elt (g :: gs) scope pos) scope env _ (newList []) (firstAsync (g :: gs)) (firstIter (g :: gs) env) (some (assign (.Name x q) env))) _ _ s
  refine wpAny_bind (wpAny_mono (comp_any (Q := fun _ s' => Q .next s') (E := E) o hE hC hp ha hsc hpk hle f.eo f.cal f.vo f.al f.base f.xw (Kp.refl _) am fun C D' hs0 h1 tk1 ys m W' k1 hC0 hD0 hCD hns hD ks hCs _ hW' fin => ?_) (fun _ s' hq => wpAny_pure (wpAny_pure hq)) fun _ _ e => e)
  have f1 := f.kp o k1
  have alS : ∀ a ∈ V ++ W0, ∃ ob, s.heap.get? a = some ob := f.al
  have nC : ∀ {a : Addr}, (∃ ob, s.heap.get? a = some ob) → a ≠ C := fun {a} ⟨ob, e⟩ z => dead hC0 (z ▸ e)
  have TC : C ∉ T := fun z => nC (alS C (List.mem_append_left _ (f.tv C z))) rfl
  refine wpAny_assign_Name (store_ok (X := C :: X) f1.eo f1.fra (tgt_2 hx) (fun a m' z => (List.mem_cons.mp z).elim (fun q => TC (q ▸ m')) (f.tx a m')) fun h2 tk2 k2 F2 hv2 ho2 => ?_)
  refine ⟨m, hns.at' fun ob e => k2.keep _ ob TC e, fun h3 hs3 => ?_⟩
  have k3 : Kk [C] h2 h3 := fun b ob nb e => (hs3.2 b (fun z => nb (by rw [z]; exact List.mem_singleton.mpr rfl))).trans e
  have k3C : Kk (C :: X) h2 h3 := fun b ob nb e => k3 b ob (fun z => nb (sing List.mem_cons_self z)) e
  have less : ∀ {y : Str} {u : Value}, Holds h3 (C :: X) env y u → Holds h3 X env y u := fun {y u} hv => Holds.lessJ (J := [C]) hv
  have up : ∀ {y : Str} {u : Value}, Holds s.heap X env y u → Holds h1 (C :: X) env y u := fun {y u} hv => by
    refine Holds.mono k1 ?_
    rcases hv with ⟨a, n, m, z, e⟩ | ⟨a, e, z, n, d⟩
    · exact .inl ⟨a, fun q => (List.mem_cons.mp q).elim (fun q => let ⟨ob, _, _, e', _⟩ := z; nC ⟨ob, e'⟩ q) n, m, z, e⟩
    · exact .inr ⟨a, e, z, fun q => (List.mem_cons.mp q).elim (fun q => let ⟨ob, e', _⟩ := d; nC ⟨ob, e'⟩ q) n, d⟩
  have kwT : Kw T s.heap h3 := ⟨fun b ob nb e => k3 b ob (fun z => nC ⟨ob, e⟩ (List.mem_singleton.mp z)) (k2.keep b ob nb (k1 b ob e)), fun b ⟨ob, e⟩ => let ⟨ob', e'⟩ := k2.live b ⟨ob, k1 b ob e⟩; ⟨ob', k3 b ob' (fun z => nC ⟨ob, e⟩ (List.mem_singleton.mp z)) e'⟩⟩
  have TW : ∀ a ∈ T, a ∈ V ++ W0 := fun a m => List.mem_append_left _ (f.tv a m)
  have DW : D' ∉ V ++ W0 := fun z => let ⟨ob, e⟩ := alS D' z; dead hD0 e
  have keep : ∀ a ob, a ≠ C → a ∉ T → h1.get? a = some ob → h3.get? a = some ob := fun a ob nc nt e => k3 a ob (fun z => nc (List.mem_singleton.mp z)) (k2.keep a ob nt e)
  have hD3 : ∃ o, h3.get? D' = some o ∧ o.cls = .type "list" ∧ ∃ k, o.data = .seq ys.toArray k ∧ o.dict = Option.none := by
    obtain ⟨md, gd⟩ := hD
    exact ⟨_, keep D' _ (Ne.symm hCD) (fun z => DW (TW _ z)) gd, rfl, md, rfl, rfl⟩
  exact hq C ys hs0 h1 h3 _ W' fin ks hCs kwT keep (fun a ob z => let ⟨na, e⟩ := fz_some.mp z; fz_some.mpr ⟨fun z => na (hW' _ (List.mem_cons_of_mem _ (List.mem_cons_of_mem _ z))), keep a ob (fun q => na (hW' _ (q ▸ List.mem_cons_self))) (fun q => na (hW' _ (List.mem_cons_of_mem _ (List.mem_cons_of_mem _ (TW a q))))) e⟩)
    fun es rl => f.set o kwT (F2.kw k3 fun a m z => TC (by rw [← List.mem_singleton.mp z]; exact m)) (tgt_1 hx) (less (hv2.kw k3C)) (fun y u ne hy => less ((ho2 y u ne (up hy)).kw k3C)) (rep_list DW hD3 rl) fun ds a z => by cases z

theorem asg_val (hn : 1 ≤ n) (o : OrcOK prog w n Base O) {x : Str} {q p : Pos} {v : Expr} {d : D} (hx : tgtOk sc x = true) (he : evE O k sc σ v = some d) : PS prog w n Base (exec (.Assign [.Name x q] v p)) sc σ (setV σ x (.val d)) .next := by
  intro env V W0 X T A s Q E f am hq
  have plain : swapsWith v (some (.Name x q)) p.line env = pure false → wpAny (model prog w) A (exec (.Assign [.Name x q] v p) env) Q E s := fun hs => by
    refine wpAny_Assign_Name ((ev_all hn o k).1 sc σ v d he env s.heap (V ++ W0) X f.eo f.cal f.vo f.al f.base f.xw A s _ E (Kp.refl _) am fun u h1 tk1 k1 r1 => ?_) hs
    have f1 := f.kp o k1
    refine store_ok f1.eo f1.fra (tgt_2 hx) f1.tx fun h2 tk2 k2 F2 hv2 ho2 => ?_
    refine hq .next h2 tk2 ((Kw.of k1).trans (k2.less f.tv)) ⟨V, Gr.refl, f1.set o k2 F2 (tgt_1 hx) hv2 ho2 (BRep.st (b := .val d) k2.keep f1.fra (fun a m => List.mem_append_left _ (f.tv a m)) r1) fun ds a q => by cases q⟩
  rcases swaps_cases (env := env) (v := v) (x := x) (p := q) (l := p.line) with hs | ⟨⟨elt, gens, scope, pos, rfl⟩, hs⟩ | ⟨_, _, _, _, rfl⟩ | ⟨_, _, _, _, _, rfl⟩
  · exact plain hs
  · obtain ⟨k', g, gs, ds, es, rfl, rfl, hp, ha, hsc, hpk, hev, hle, rfl⟩ := inv_comp he
    obtain ⟨hE, hT, hC⟩ := ev_all hn o k'
    exact comp_used o hE hx (hC _ _ _ _ _ _ _ hev) hp ha hsc hpk hle hs f am fun C ys hs0 h1 h3 tk3 W' fin _ _ kwT _ sub fs => hq .next h3 tk3 (kwT.less f.tv) ⟨V, Gr.refl, fs _ (RepL.mono sub fin)⟩
  · cases k <;> exact nomatch (show (none : Option D) = some d from he)
  · cases k <;> exact nomatch (show (none : Option D) = some d from he)
end
end
section
section
variable {prog : Program} {w : World} {n : Nat} {Base : Heap → List Addr → Prop} {O : Orc} {k : Nat} {h h' : Heap} {V W0 X T : List Addr} {env : Env} {sc : List (Str × NameKind)} {σ σ' : Vars} {ap : List Str}

theorem asg_own (o : OrcOK prog w n Base O) {x : Str} {q p pl : Pos} (hx : tgtOk sc x = true) : PS prog w n Base (exec (.Assign [.Name x q] (.List [] pl) p)) sc σ (setV σ x (.own [])) .next := by
  intro env V W0 X T A s Q E f am hq
  refine wpAny_Assign_Name (eval_empty ?_)
  obtain ⟨f1, g1, r1, k1⟩ := new_own o f (h' := s.heap.push { cls := .type "list", dict := none, data := .seq ([] : List Value).toArray }) rfl
  refine store_ok f1.eo f1.fra (tgt_2 hx) f1.tx fun h2 tk2 k2 F2 hv2 ho2 => ?_
  refine hq .next h2 tk2 ((Kw.of k1).trans (k2.less f.tv)) ⟨_, g1, f1.set o k2 F2 (tgt_1 hx) hv2 ho2 (BRep.st k2.keep f1.fra (fun a m => List.mem_append_left _ (f1.tv a m)) r1) fun ds a e1 e2 => ?_⟩
  first | with_reducible exact ns e2 | cases e2
  exact ⟨List.mem_cons_self, fun y es _ e => new_apart f k1 (size_none _) e⟩

noncomputable def BL (h0 h : Heap) (V W0 X : List Addr) : List B → List Value → Prop
  | [], us => us = []
  | b :: bs, us => ∃ u r, us = u :: r ∧ BRep h (V ++ W0) X b u ∧ (∀ ds a, b = .own ds → u = .ref a → a ∈ V ∧ h0.get? a = none) ∧ BL h0 h V W0 X bs r
theorem BL.gr {h0 h h' : Heap} {V V' W0 X : List Addr} (g : Gr h V V') (k : Kp h h') : ∀ {bs : List B} {us : List Value}, BL h0 h V W0 X bs us → BL h0 h' V' W0 X bs us
  | [], _, e => e
  | b :: bs, us, ⟨u, r, e, rb, ow, t⟩ => by
    refine ⟨u, r, e, ?_, fun ds a q q' => ⟨g.sub a (ow ds a q q').1, (ow ds a q q').2⟩, BL.gr g k t⟩
    have gW : Gr h (V ++ W0) (V' ++ W0) := ⟨fun a m => by
      rcases List.mem_append.mp m with m | m
      · exact List.mem_append_left _ (g.sub a m)
      · exact List.mem_append_right _ m, fun a m => by
      rcases List.mem_append.mp m with m | m
      · rcases g.new a m with q | q
        · exact .inl (List.mem_append_left _ q)
        · exact .inr q
      · exact .inl (List.mem_append_right _ m)⟩
    cases b with
    | val d => exact Rep.mono (fz_gr gW k) rb
    | own ds =>
      obtain ⟨a, vs, m, e, hg, ma, nx, rl⟩ := rb
      exact ⟨a, vs, m, e, k _ _ hg, gW.sub _ ma, nx, RepL.mono (fz_gr gW k) rl⟩
theorem BL.since {h0 h1 h : Heap} {V W0 X : List Addr} (k : Kp h0 h1) : ∀ {bs : List B} {us : List Value}, BL h1 h V W0 X bs us → BL h0 h V W0 X bs us
  | [], _, e => e
  | b :: bs, us, ⟨u, r, e, rb, ow, t⟩ => ⟨u, r, e, rb, fun ds a q q' => ⟨(ow ds a q q').1, by
      cases z : h0.get? a with
      | none => rfl
      | some ob => have := (ow ds a q q').2; first | exact dead2 (k _ _ z) this | exact dead2 this (k _ _ z) | (rw [k _ _ z] at this; cases this)⟩, BL.since k t⟩
theorem BL.length {h0 h : Heap} {V W0 X : List Addr} : ∀ {bs : List B} {us : List Value}, BL h0 h V W0 X bs us → us.length = bs.length
  | [], _, e => by rw [e]; rfl
  | b :: bs, us, ⟨u, r, e, _, _, t⟩ => by rw [e]; simp [BL.length t]

theorem many_ok (o : OrcOK prog w n Base O) {f : Expr → Option D} {pos : Pos} : ∀ {xs : List Str} {vs : List Expr} {bs : List B} {A : Around} {s : Shared} {Q : List Value → Shared → Prop} {E : Value → Shared → Prop} {V : List Addr}, manyB f ap xs vs = some bs → vs.any starred = false → FS Base s.heap V W0 X env sc T σ → Amb A n →
    (∀ e d V h', FS Base h' V W0 X env sc T σ → f e = some d → Gv prog w n (V ++ W0) (eval e env) d h') →
    (∀ us h' tk' V', Kp s.heap h' → Gr s.heap V V' → FS Base h' V' W0 X env sc T σ → BL s.heap h' V' W0 X bs us → Q us { s with heap := h', toks := tk' }) → wpAny (model prog w) A (spliced (backTo pos (starEach vs env))) Q E s
  | [], [], bs, A, s, Q, E, V, e, _, fs, _, _, hq => by
    first | with_reducible exact ns e | cases e
    exact spliced_nil (hq [] s.heap s.toks V (Kp.refl _) Gr.refl fs rfl)
  | x :: xs, [], bs, A, s, Q, E, V, e, _, _, _, _, _ => by cases e
  | [], v :: vs, bs, A, s, Q, E, V, e, _, _, _, _, _ => by cases e
  | x :: xs, v :: vs, bs, A, s, Q, E, V, e, hs, fs, am, hf, hq => by
    rw [List.any_cons, Bool.or_eq_false_iff] at hs
    rw [star_cons hs.1]
    obtain ⟨b, h1, e⟩ := bind_inv e
    obtain ⟨bs', h2, e⟩ := bind_inv e
    have e : b :: bs' = bs := Option.some.inj e
    subst e
    have go : ∀ u hh tkk V1, Kp s.heap hh → Gr s.heap V V1 → FS Base hh V1 W0 X env sc T σ → BRep hh (V1 ++ W0) X b u → (∀ ds a, b = .own ds → u = .ref a → a ∈ V1 ∧ s.heap.get? a = none) →
        wpAny (model prog w) A (spliced (backTo pos (starEach vs env))) (fun r s2 => Q (u :: r) s2) E { s with heap := hh, toks := tkk } := fun u hh tkk V1 k1 g1 f1 r1 ow1 => by
      refine many_ok o (s := { s with heap := hh, toks := tkk }) h2 hs.2 f1 am hf fun us h3 tk3 V3 k3 g3 f3 bl3 => ?_
      refine hq (u :: us) h3 tk3 V3 (k1.trans k3) (g1.more (Kw.of k1 (X := [])) g3) f3 ⟨u, us, rfl, ?_, fun ds a q q' => ⟨g3.sub a (ow1 ds a q q').1, (ow1 ds a q q').2⟩, BL.since k1 bl3⟩
      have := BL.gr (h0 := s.heap) (bs := [b]) (us := [u]) (W0 := W0) (X := X) g3 k3 ⟨u, [], rfl, r1, ow1, rfl⟩
      obtain ⟨u', r', e', rb, _⟩ := this
      first | with_reducible exact ns e' | cases e'
      exact rb
    refine spliced_cons ?_
    by_cases hc : (isEmptyL v && ap.contains x) = true
    · have hb : B.own [] = b := Option.some.inj ((if_pos hc).symm.trans h1)
      rw [Bool.and_eq_true] at hc
      obtain ⟨p, rfl⟩ := isEmptyL_is hc.1
      rw [← hb] at go
      refine eval_empty ?_
      obtain ⟨f1, g1, r1, k1⟩ := new_own o fs (h' := s.heap.push { cls := .type "list", dict := none, data := .seq ([] : List Value).toArray }) rfl
      exact go _ _ s.toks _ k1 g1 f1 r1 fun ds a _ q => by cases q; exact ⟨List.mem_cons_self, size_none _⟩
    · obtain ⟨d, hd, rfl⟩ := Option.map_eq_some_iff.mp ((if_neg hc).symm.trans h1)
      exact hf v d V s.heap fs hd A s _ E (Kp.refl _) am fun u h1' tk1 k1 r1 => go u h1' tk1 V k1 Gr.refl (fs.kp o k1) r1 fun ds a q => by cases q

theorem many_len {f : Expr → Option D} : ∀ {xs : List Str} {vs : List Expr} {bs : List B}, manyB f ap xs vs = some bs → xs.length = vs.length ∧ bs.length = vs.length
  | [], [], bs, e => by cases e; exact ⟨rfl, rfl⟩
  | x :: xs, [], bs, e => by cases e
  | [], v :: vs, bs, e => by cases e
  | x :: xs, v :: vs, bs, e => by
    obtain ⟨b, h1, e⟩ := bind_inv e
    obtain ⟨bs', h2, e⟩ := bind_inv e
    have e : b :: bs' = bs := Option.some.inj e
    subst e
    obtain ⟨a, c⟩ := many_len h2
    exact ⟨congrArg (· + 1) a, congrArg (· + 1) c⟩
theorem one_own : ∀ {bs : List B}, (bs.filter isOwnB).length ≤ 1 → bs.Pairwise fun p q => ¬ (isOwnB p = true ∧ isOwnB q = true)
  | [], _ => .nil
  | b :: bs, h => by
    rw [List.filter_cons] at h
    refine List.pairwise_cons.mpr ⟨fun q m z => ?_, one_own ?_⟩
    · rw [z.1] at h
      simp only [if_true, List.length_cons] at h
      have : q ∈ bs.filter isOwnB := List.mem_filter.mpr ⟨m, z.2⟩
      have : 0 < (bs.filter isOwnB).length := List.length_pos_of_mem this
      (first | lia | omega)
    · split at h
      · simp only [List.length_cons] at h; (first | lia | omega)
      · exact h
noncomputable def entsF (F : Str → Value → Sem Unit) : List Str → List Value → List B → List Ent
  | x :: xs, v :: vs, b :: bs => ⟨x, F x, v, b⟩ :: entsF F xs vs bs
  | _, _, _ => []
theorem entsF_ok (F : Str → Value → Sem Unit) : ∀ {xs : List Str} {vs : List Value} {bs : List B}, vs.length = xs.length → bs.length = xs.length → (entsF F xs vs bs).map Ent.F = xs.map F ∧ (entsF F xs vs bs).map Ent.v = vs ∧ (entsF F xs vs bs).map Ent.b = bs ∧ (entsF F xs vs bs).map Ent.x = xs ∧ ∀ σ, (entsF F xs vs bs).foldl setE σ = setAll σ xs bs
  | [], [], [], _, _ => ⟨rfl, rfl, rfl, rfl, fun _ => rfl⟩
  | [], v :: vs, _, e, _ => by simp at e
  | [], [], b :: bs, _, e => by simp at e
  | x :: xs, [], _, e, _ => by simp at e
  | x :: xs, v :: vs, [], _, e => by simp at e
  | x :: xs, v :: vs, b :: bs, e1, e2 => by
    obtain ⟨a1, a2, a3, a4, a5⟩ := entsF_ok F (xs := xs) (vs := vs) (bs := bs) (by simpa using e1) (by simpa using e2)
    refine ⟨?_, ?_, ?_, ?_, fun σ => a5 _⟩
    · show F x :: _ = F x :: _; rw [a1]
    · show v :: _ = _; rw [a2]
    · show b :: _ = _; rw [a3]
    · show x :: _ = _; rw [a4]
theorem entsF_each {F : Str → Value → Sem Unit} (hF : ∀ {x : Str} {v : Value} {A : Around} {s : Shared} {Q : Unit → Shared → Prop} {E : Value → Shared → Prop} {prog : Program} {w : World}, wpAny (model prog w) A (storeName env x v) Q E s → wpAny (model prog w) A (F x v) Q E s) {h0 : Heap} (f0 : FS Base h0 V W0 X env sc T σ) (k : Kp h0 h) {V' : List Addr} :
    ∀ {xs : List Str} {us : List Value} {bs : List B}, xs.all (tgtOk sc) = true → BL h0 h V' W0 X bs us → ∀ p ∈ entsF F xs us bs, EntOK h V' W0 X env sc σ p
  | [], us, bs, _, _, p, m => by exact absurd (show p ∈ ([] : List Ent) from m) List.not_mem_nil
  | x :: xs, us, [], _, r, p, m => by cases r; exact absurd (show p ∈ ([] : List Ent) from m) List.not_mem_nil
  | x :: xs, us, b :: bs, ha, ⟨u, r, e, rb, ow, t⟩, p, m => by
    subst e
    rw [List.all_cons, Bool.and_eq_true] at ha
    rcases List.mem_cons.mp m with rfl | m
    · exact ⟨ha.1, hF, rb, fun ds a q q' => ⟨(ow ds a q q').1, fun y es e => new_apart f0 k (ow ds a q q').2 e⟩⟩
    · exact entsF_each hF f0 k ha.2 t p m

theorem entsT_each {h0 : Heap} (f0 : FS Base h0 V W0 X env sc T σ) (k : Kp h0 h) {V' : List Addr} :
    ∀ {ts : List Expr} {xs : List Str} {us : List Value} {bs : List B}, namesT ts = some xs → xs.all (tgtOk sc) = true → BL h0 h V' W0 X bs us → ∀ p ∈ entsT env ts xs us bs, EntOK h V' W0 X env sc σ p
  | [], xs, us, bs, e, _, _, p, m => by cases e; exact absurd (show p ∈ ([] : List Ent) from m) List.not_mem_nil
  | t :: ts, xs, us, [], e, _, r, p, m => by cases r; cases xs <;> exact absurd (show p ∈ ([] : List Ent) from m) List.not_mem_nil
  | t :: ts, xs, us, b :: bs, hx, ha, ⟨u, r, e, rb, ow, tl⟩, p, m => by
    subst e
    obtain ⟨x, xs', e1, e2, rfl⟩ := namesT_inv hx
    obtain ⟨q, rfl⟩ := nameT_is e1
    rw [List.all_cons, Bool.and_eq_true] at ha
    rcases List.mem_cons.mp m with rfl | m
    · exact ⟨ha.1, fun hh => wpAny_assign_Name hh, rb, fun ds a q q' => ⟨(ow ds a q q').1, fun y es e => new_apart f0 k (ow ds a q q').2 e⟩⟩
    · exact entsT_each f0 k e2 ha.2 tl p m
theorem entsT_b : ∀ {ts : List Expr} {xs : List Str} {us : List Value} {bs : List B}, namesT ts = some xs → us.length = xs.length → bs.length = xs.length → (entsT env ts xs us bs).map Ent.b = bs
  | [], xs, us, bs, e, _, h2 => by
    first | with_reducible exact ns e | cases e
    cases bs with
    | nil => rfl
    | cons => simp at h2
  | t :: ts, xs, us, bs, e, h1, h2 => by
    obtain ⟨x, xs', e1, e2, rfl⟩ := namesT_inv e
    cases us with
    | nil => simp at h1
    | cons u us => cases bs with
      | nil => simp at h2
      | cons b bs =>
        show b :: _ = _
        rw [entsT_b e2 (by simpa using h1) (by simpa using h2)]
theorem fold_rev (y : Str) : ∀ (l : List Ent) (σ : Vars), (l.reverse.foldl setE σ).lookup y = match (l.map fun p => (p.x, p.b)).lookup y with | some b => some b | none => σ.lookup y
  | [], σ => rfl
  | p :: l, σ => by
    rw [List.reverse_cons, List.foldl_append, List.map_cons, List.lookup_cons]
    show (setV (l.reverse.foldl setE σ) p.x p.b).lookup y = _
    rw [lookup_setV]
    cases y == p.x
    · simp only [Bool.false_eq_true, if_false]; exact fold_rev y l σ
    · rfl
theorem lookup_none' {x : Str} : ∀ {l : List (Str × B)}, (l.map (·.1)).contains x = false → l.lookup x = none
  | [], _ => rfl
  | (k, v) :: r, h => by
    rw [List.map_cons, List.contains_cons, Bool.or_eq_false_iff] at h
    rw [List.lookup_cons, h.1]; exact lookup_none' h.2
theorem fold_fwd (y : Str) : ∀ (l : List Ent) (σ : Vars), nodupS (l.map Ent.x) = true → (l.foldl setE σ).lookup y = match (l.map fun p => (p.x, p.b)).lookup y with | some b => some b | none => σ.lookup y
  | [], σ, _ => rfl
  | p :: l, σ, hd => by
    rw [List.map_cons] at hd
    simp only [nodupS, Bool.and_eq_true, Bool.not_eq_true'] at hd
    rw [List.foldl_cons, fold_fwd y l _ hd.2, List.map_cons, List.lookup_cons]
    show (match (l.map fun p => (p.x, p.b)).lookup y with | some b => some b | none => (setV σ p.x p.b).lookup y) = _
    rw [lookup_setV]
    cases q : y == p.x with
    | false => simp only [Bool.false_eq_true, if_false]
    | true =>
      have := beq_iff_eq.mp q
      subst this
      rw [lookup_none' (by rw [List.map_map]; exact hd.1)]
      rfl

theorem swapS_no {t : List Expr} {kk l : Nat} {p : Pos} {v : Expr} : swapsWithSole [.Tuple t kk p] v l env = pure false := by
  show swapsWith v (some (.Tuple t kk p)) l env = pure false
  cases v <;> rfl
theorem ite_or {α : Type} {c : Prop} [Decidable c] {x : α} : (if c then some x else none) = none ∨ (if c then some x else none) = some x := by
  by_cases h : c
  · exact .inr (if_pos h)
  · exact .inl (if_neg h)
theorem names_all {f : Expr → Option Str} (hf : ∀ x p, f (.Name x p) = none ∨ f (.Name x p) = some x) : ∀ {ts : List Expr} {xs : List Str}, namesT ts = some xs → (ts.filterMap f).length = ts.length → ts.filterMap f = xs
  | [], xs, e, _ => by cases e; rfl
  | t :: ts, xs, e, hl => by
    obtain ⟨x, xs', e1, e2, rfl⟩ := namesT_inv e
    obtain ⟨p, rfl⟩ := nameT_is e1
    rcases hf x p with q | q
    · rw [List.filterMap_cons_none q] at hl
      exact absurd (Nat.le_trans (Nat.le_of_eq hl.symm) (List.length_filterMap_le _ ts)) (Nat.not_succ_le_self _)
    · rw [List.filterMap_cons_some q] at hl ⊢
      exact congrArg (x :: ·) (names_all hf e2 (Nat.succ.inj hl))
theorem swapped_cases {ts vs : List Expr} {kk k2 : Nat} {p p2 : Pos} {xs : List Str} (hx : namesT ts = some xs) (hc : vs.all (constantsAlone 8) = false) : swappedStores [.Tuple ts kk p] (.Tuple vs k2 p2) env = pure none ∨ swappedStores [.Tuple ts kk p] (.Tuple vs k2 p2) env = pure (some xs) := by
  delta swappedStores
  dsimp only
  split
  · exact .inl rfl
  · split
    · exact .inl rfl
    · split
      · exact .inl rfl
      · rename_i hl
        split
        · exact .inl rfl
        · refine .inr ((if_neg (by rw [hc]; exact Bool.false_ne_true)).trans ?_)
          exact congrArg (fun z => pure (some z)) (names_all (fun _ _ => ite_or) hx (bne_eq_false_iff_eq.mp (Bool.or_eq_false_iff.mp (Bool.eq_false_iff.mpr hl)).1))

theorem asg_disp (hn : 1 ≤ n) (o : OrcOK prog w n Base O) {ts vs : List Expr} {kk k2 : Nat} {p p2 pa : Pos} {xs : List Str} {bs : List B} (hx : namesT ts = some xs) (hb : manyB (evE O k sc σ) ap xs vs = some bs) (ht : xs.all (tgtOk sc) = true) (hnd : nodupS xs = true) (hs : vs.any starred = false) (hc : vs.all (constantsAlone 8) = false)
    (ho : (bs.filter isOwnB).length ≤ 1) (hz : bs.length ≤ 1000) : PS prog w n Base (exec (.Assign [.Tuple ts kk p] (.Tuple vs k2 p2) pa)) sc σ (setAll σ xs bs) .next := by
  intro env V W0 X T A s Q E f am hq
  obtain ⟨l1, l2⟩ := many_len hb
  have lx : bs.length = xs.length := by (first | lia | omega)
  have hev : ∀ e d V h', FS Base h' V W0 X env sc T σ → evE O k sc σ e = some d → Gv prog w n (V ++ W0) (eval e env) d h' := fun e d V h' f' he => (ev_all hn o k).1 sc σ e d he env h' (V ++ W0) X f'.eo f'.cal f'.vo f'.al f'.base f'.xw
  -- the display, taken apart
  have disp : ∀ {Q2 : List Value → Shared → Prop}, (∀ us h5 tk5 V5, Kp s.heap h5 → Gr s.heap V V5 → FS Base h5 V5 W0 X env sc T σ → BL s.heap h5 V5 W0 X bs us → Q2 us { s with heap := h5, toks := tk5 }) →
      wpAny (model prog w) A (eval (.Tuple vs k2 p2) env) (fun v s1 => wpAny (model prog w) A (unpackItems v xs.length none) Q2 E s1) E s := fun {Q2} hQ2 => by
    refine Tuple_ (many_ok o hb hs f am hev fun us h1 tk1 V1 k1 g1 f1 bl1 => ?_)
    have hul := bl1.length
    refine wpAny_newObj_type ?_ (by show us.toArray.size ≤ sizeLine; rw [List.size_toArray, hul, sizeLine_eq]; (first | lia | omega))
    have e3 : xs.length = us.toArray.size := by rw [List.size_toArray, hul, lx]
    rw [e3]
    refine wpAny_unpackItems_tuple am.hd ⟨_, Heap.get?_push_size _ rfl, rfl, 0, rfl⟩ fun h3 hx3 => ?_
    have k3 : Kp h1 h3 := fun b ob e => hx3 b ob (fun z => by
      have e' := Heap.get?_push_of_some { cls := .type "tuple", dict := none, data := .seq us.toArray } e
      first | exact dead2 (size_none) (z ▸ e') | (rw [z, size_none] at e'; cases e')) (Heap.get?_push_of_some _ e)
    exact hQ2 us h3 tk1 V1 (k1.trans k3) (g1.more (Kw.of k1 (X := [])) ⟨fun a m => m, fun a m => .inl m⟩) (f1.kp o k3) (bl1.gr Gr.refl k3)
  have fin : ∀ (F : Str → Value → Sem Unit), (∀ {x : Str} {v : Value} {A : Around} {s : Shared} {Q : Unit → Shared → Prop} {E : Value → Shared → Prop} {prog : Program} {w : World}, wpAny (model prog w) A (storeName env x v) Q E s → wpAny (model prog w) A (F x v) Q E s) →
      ∀ us h5 tk5 V5, Kp s.heap h5 → Gr s.heap V V5 → FS Base h5 V5 W0 X env sc T σ → BL s.heap h5 V5 W0 X bs us →
      wpAny (model prog w) A (assignInOrder (xs.map F) us) (fun _ => Q .next) E { s with heap := h5, toks := tk5 } ∧ wpAny (model prog w) A (assignInOrder (xs.reverse.map F) us.reverse) (fun _ => Q .next) E { s with heap := h5, toks := tk5 } := fun F hF us h5 tk5 V5 k5 g5 f5 bl5 => by
    have hul := bl5.length
    obtain ⟨q1, q2, q3, q4, q5⟩ := entsF_ok F (xs := xs) (vs := us) (bs := bs) (by (first | lia | omega)) lx
    have each := entsF_each hF f k5 ht bl5
    have pw : (entsF F xs us bs).Pairwise (fun p q => ¬ (isOwnB p.b = true ∧ isOwnB q.b = true)) := by
      have := one_own ho
      rw [← q3] at this
      exact List.pairwise_map.mp this
    constructor
    · have := stores_FS o (entsF F xs us bs) (A := A) (s := { s with heap := h5, toks := tk5 }) (Q := fun _ => Q .next) (E := E) f5 each pw fun h2' tk2 k2 f2 => hq .next h2' tk2 ((Kw.of k5).trans (k2.less f.tv)) ⟨V5, g5, by rw [q5] at f2; exact f2⟩
      rw [q1, q2] at this; exact this
    · have := stores_FS o (entsF F xs us bs).reverse (A := A) (s := { s with heap := h5, toks := tk5 }) (Q := fun _ => Q .next) (E := E) f5 (fun p m => each p (List.mem_reverse.mp m)) (List.pairwise_reverse.mpr (pw.imp fun {a b} z q => z ⟨q.2, q.1⟩)) fun h2' tk2 k2 f2 => hq .next h2' tk2 ((Kw.of k5).trans (k2.less f.tv)) ⟨V5, g5, f2.congr fun y => by
        rw [fold_rev, ← q5 σ, fold_fwd y _ σ (by rw [q4]; exact hnd)]⟩
      rw [List.map_reverse, List.map_reverse, q1, q2] at this
      rw [List.map_reverse]; exact this
  rcases swapped_cases (env := env) (kk := kk) (k2 := k2) (p := p) (p2 := p2) hx hc with hw | hw
  · refine Assign_Tuple ?_ swapS_no hw
    obtain ⟨n1, n2, n3⟩ := names_plain (env := env) hx
    refine wpAny_mono (disp (Q2 := fun us s2 => wpAny (model prog w) A (assignInOrder ((assignEach ts env).map (·.2)) us) (fun _ => Q .next) E s2) fun us h5 tk5 V5 k5 g5 f5 bl5 => ?_) (fun v s1 h1 => ?_) fun _ _ e => e
    · have e4 : (assignEach ts env).map (·.2) = (entsT env ts xs us bs).map Ent.F := (ents_ok env hx (vs := us) (bs := bs) (by rw [bl5.length, lx]) lx).1.symm
      rw [e4]
      obtain ⟨q1, q2, q3⟩ := ents_ok env hx (vs := us) (bs := bs) (by rw [bl5.length, lx]) lx
      have pw : (entsT env ts xs us bs).Pairwise (fun p q => ¬ (isOwnB p.b = true ∧ isOwnB q.b = true)) := by
        have := one_own ho
        rw [← entsT_b (env := env) hx (us := us) (by rw [bl5.length, lx]) lx] at this
        exact List.pairwise_map.mp this
      have := stores_FS o (entsT env ts xs us bs) (A := A) (s := { s with heap := h5, toks := tk5 }) (Q := fun _ => Q .next) (E := E) f5 (entsT_each f k5 hx ht bl5) pw fun h2' tk2 k2 f2 => hq .next h2' tk2 ((Kw.of k5).trans (k2.less f.tv)) ⟨V5, g5, by rw [q3] at f2; exact f2⟩
      rw [q2] at this; exact this
    · show wpAny _ _ (standAt p >>= fun _ => unpack v (assignEach ts env)) _ _ _
      refine wpAny_bind (wpAny_standAt ?_)
      unfold unpack
      rw [n2, n3, n1]
      exact wpAny_bind (wpAny_holding h1)
  · refine Assign_Tuple_swapped ?_ swapS_no hw
    exact disp fun us h5 tk5 V5 k5 g5 f5 bl5 => (fin (fun x => bindName env x) (fun hh => wpAny_bindName hh) us h5 tk5 V5 k5 g5 f5 bl5).2

theorem swapped_no {ts : List Expr} {v : Expr} {kk : Nat} {p : Pos} (hv : ∀ a b c, v ≠ .Tuple a b c) : swappedStores [.Tuple ts kk p] v env = pure none := by
  cases v <;> first | rfl | exact absurd rfl (hv _ _ _)
theorem asg_tup (hn : 1 ≤ n) (o : OrcOK prog w n Base O) {ts : List Expr} {v : Expr} {kk : Nat} {p pa : Pos} {d : D} (he : evE O k sc σ v = some d) (hv : ∀ a b c, v ≠ .Tuple a b c) (hs : setT sc (.Tuple ts kk p) σ d = some σ') : PS prog w n Base (exec (.Assign [.Tuple ts kk p] v pa)) sc σ σ' .next := by
  intro env V W0 X T A s Q E f am hq
  refine Assign_Tuple ?_ swapS_no (swapped_no hv)
  refine (ev_all hn o k).1 sc σ v d he env s.heap (V ++ W0) X f.eo f.cal f.vo f.al f.base f.xw A s _ E (Kp.refl _) am fun u h1 tk1 k1 r1 => ?_
  exact assign_T o hs (s := { s with heap := h1, toks := tk1 }) (f.kp o k1) r1 am fun h2 tk2 k2 f2 => hq .next h2 tk2 ((Kw.of k1).trans k2) ⟨V, Gr.refl, f2⟩

theorem dispOf_is {v : Expr} {vs : List Expr} (h : dispOf v = some vs) : ∃ a b, v = .Tuple vs a b := by
  cases v <;> first | (exact ns h) | skip
  cases h; exact ⟨_, _, rfl⟩
theorem ps_eq {t : Env → Sem Flow} {σ1 : Vars} {fl1 fl : Fl} (h : PS prog w n Base t sc σ σ1 fl1) (e : some (σ1, fl1) = some (σ', fl)) : PS prog w n Base t sc σ σ' fl := by cases e; exact h
theorem asgName_ok (hn : 1 ≤ n) (o : OrcOK prog w n Base O) {x : Str} {q p : Pos} {v : Expr} {fl : Fl} (e : nameX (evE O k sc σ) ap sc σ x v = some (σ', fl)) : PS prog w n Base (exec (.Assign [.Name x q] v p)) sc σ σ' fl := by
  unfold nameX at e
  by_cases hx : tgtOk sc x = true
  · rw [if_pos hx] at e
    obtain ⟨b, hb, e⟩ := Option.map_eq_some_iff.mp e
    refine ps_eq ?_ (congrArg some e)
    unfold oneB at hb
    by_cases hc : (isEmptyL v && ap.contains x) = true
    · rw [if_pos hc] at hb
      rw [Bool.and_eq_true] at hc
      obtain ⟨pl, rfl⟩ := isEmptyL_is hc.1
      rw [← Option.some.inj hb]
      exact asg_own o hx
    · rw [if_neg hc] at hb
      obtain ⟨d, hd, rfl⟩ := Option.map_eq_some_iff.mp hb
      exact asg_val hn o hx hd
  · rw [if_neg hx] at e; exact ns e
theorem asgTup_ok (hn : 1 ≤ n) (o : OrcOK prog w n Base O) {ts : List Expr} {kc : Nat} {q p : Pos} {v : Expr} {fl : Fl} (e : exS O ap (k + 1) sc σ (.Assign [.Tuple ts kc q] v p) = some (σ', fl)) : PS prog w n Base (exec (.Assign [.Tuple ts kc q] v p)) sc σ σ' fl := by
  have e : (match dispOf v with
    | some vs => dispX (evE O k sc σ) ap sc σ ts vs
    | none => tupX (evE O k sc σ) sc σ (.Tuple ts kc q) v) = some (σ', fl) := e
  cases hv : dispOf v with
  | some vs =>
    rw [hv] at e
    obtain ⟨a1, a2, rfl⟩ := dispOf_is hv
    obtain ⟨xs, hx, e⟩ := bind_inv e
    obtain ⟨bs, hb, e⟩ := bind_inv e
    obtain ⟨hc, e⟩ := ite_inv e
    simp only [Bool.and_eq_true, decide_eq_true_eq, Bool.not_eq_true'] at hc
    exact ps_eq (asg_disp hn o hx hb hc.1 hc.2.2.1 hc.2.2.2.1 hc.2.2.2.2.1 hc.2.2.2.2.2.1 hc.2.2.2.2.2.2) (congrArg some e)
  | none =>
    rw [hv] at e
    obtain ⟨d, hd, e⟩ := bind_inv e
    obtain ⟨σ1, hs, e⟩ := Option.map_eq_some_iff.mp e
    exact ps_eq (asg_tup hn o hd (fun a b c q => by subst q; exact ns hv.symm) hs) (congrArg some e)
theorem app_ok (o : OrcOK prog w n Base O) (hE : PE prog w n Base O k) {y nm : Str} {q apos pos p : Pos} {x : Expr} {fl : Fl} (e : appX (evE O k sc σ) σ y nm apos pos x = some (σ', fl)) : PS prog w n Base (exec (.Expr (.Call (.Attribute (.Name y q) nm apos) [x] [] pos) p)) sc σ σ' fl := by
  unfold appX at e
  cases hy : σ.lookup y with
  | none => rw [hy] at e; exact ns e
  | some bb => cases bb with
    | val _ => rw [hy] at e; exact ns e
    | own ds =>
      rw [hy] at e
      obtain ⟨d, hd, e⟩ := bind_inv e
      obtain ⟨⟨h1, h2, h3, h4⟩, e2⟩ := ite_inv e
      subst h1
      exact ps_eq (append_ok o hE hy hd h2 h3 h4) (congrArg some e2)
theorem if_ok (o : OrcOK prog w n Base O) (hT : PT prog w n Base O k) {t : Expr} {b els : List Stmt} {p : Pos} {fl : Fl} (blk : ∀ {b : List Stmt} {σ σ' : Vars} {fl : Fl}, blkD (exS O ap k sc) b σ = some (σ', fl) → PS prog w n Base (execs b) sc σ σ' fl) (e : exS O ap (k + 1) sc σ (.If t b els p) = some (σ', fl)) : PS prog w n Base (exec (.If t b els p)) sc σ σ' fl := by
  have e : (match evT O k sc σ t with
    | some true => blkD (exS O ap k sc) b σ
    | some false => blkD (exS O ap k sc) els σ
    | none => none) = some (σ', fl) := e
  cases ht : evT O k sc σ t with
  | none => rw [ht] at e; exact ns e
  | some c =>
    rw [ht] at e
    intro env V W0 X T A s Q E f am hq
    refine wpAny_If (hT sc σ _ _ ht env s.heap (V ++ W0) X f.eo f.cal f.vo f.al f.base f.xw A s _ _ (Kp.refl _) am fun c' h1 tk1 k1 r1 => ?_)
    subst r1
    have e : blkD (exS O ap k sc) (if c' = true then b else els) σ = some (σ', fl) := by cases c' <;> exact e
    have key := blk e env V W0 X T A { s with heap := h1, toks := tk1 } Q E (f.kp o k1) am fun fl' h2 tk2 k2 p2 => hq fl' h2 tk2 ((Kw.of k1).trans k2) (p2.up Gr.refl (Kw.of k1 (X := [])))
    cases c' <;> exact key
theorem ex_step (hn : 1 ≤ n) (o : OrcOK prog w n Base O) {st : Stmt} {fl : Fl} (blk : ∀ {b : List Stmt} {σ σ' : Vars} {fl : Fl}, blkD (exS O ap k sc) b σ = some (σ', fl) → PS prog w n Base (execs b) sc σ σ' fl) (e : exS O ap (k + 1) sc σ st = some (σ', fl)) : PS prog w n Base (exec st) sc σ σ' fl := by
  obtain ⟨hE, hT, hC⟩ := ev_all hn o k
  cases st <;> first | (exact ns e) | skip
  case Assign ts v p =>
    cases ts with
    | nil => exact ns e
    | cons t l => cases l with
      | cons _ _ => exact ns e
      | nil =>
        cases t <;> first | (exact ns e) | skip
        case Name x q => exact asgName_ok hn o e
        case Tuple ts kc q => exact asgTup_ok hn o e
  case Expr x p =>
    cases x <;> first | (exact ns e) | skip
    rename_i c args kws pos
    cases kws with
    | cons _ _ => exact ns e
    | nil => cases args with
      | nil => exact ns e
      | cons x l => cases l with
        | cons _ _ => exact ns e
        | nil =>
          cases c <;> first | (exact ns e) | skip
          rename_i ob nm apos
          cases ob <;> first | (exact ns e) | skip
          exact app_ok o hE e
  case If t b els p => exact if_ok o hT blk e
  case While t b els p =>
    cases els with
    | cons _ _ => exact ns e
    | nil => exact while_ok o hT (fun σ σ' fl e => blk e) e
  case For t i b els p =>
    have e : (if plainSrc i then ((evE O k sc σ i).bind iterD).bind fun ds => forD (setT sc t) (fun σ => blkD (exS O ap k sc) b σ) (fun σ => blkD (exS O ap k sc) els σ) ds σ else none) = some (σ', fl) := e
    by_cases hp : plainSrc i = true
    · rw [if_pos hp] at e
      obtain ⟨ds, hds, e⟩ := bind_inv e
      exact for_ok o hE hp hds (fun σ σ' fl e => blk e) (fun σ σ' fl e => blk e) e
    · rw [if_neg hp] at e; exact ns e
  case Return r p =>
    cases r with
    | none => exact ns e
    | some x =>
      obtain ⟨d, hd, e⟩ := Option.map_eq_some_iff.mp e
      exact ps_eq (ret_ok o hE hd) (congrArg some e)
  case Break p => exact ps_eq (fl1 := .brk) (σ1 := σ) (fun env V W0 X T A s Q E f am hq => wpAny_Break (hq .brk s.heap s.toks Kw.refl ⟨V, Gr.refl, f⟩)) e
  case Pass p => exact ps_eq (fl1 := .next) (σ1 := σ) (fun env V W0 X T A s Q E f am hq => wpAny_Pass (hq .next s.heap s.toks Kw.refl ⟨V, Gr.refl, f⟩)) e
theorem ex_ok (hn : 1 ≤ n) (o : OrcOK prog w n Base O) : ∀ (k : Nat) {sc : List (Str × NameKind)} {σ σ' : Vars} {st : Stmt} {fl : Fl}, exS O ap k sc σ st = some (σ', fl) → PS prog w n Base (exec st) sc σ σ' fl
  | 0, _, _, _, _, _, e => ns e
  | k + 1, _, _, _, _, _, e => ex_step hn o (fun e => blk_ok (fun _ _ _ _ e => ex_ok hn o k e) e) e
theorem blk_all (hn : 1 ≤ n) (o : OrcOK prog w n Base O) (k : Nat) {b : List Stmt} {σ σ' : Vars} {fl : Fl} (e : blkD (exS O ap k sc) b σ = some (σ', fl)) : PS prog w n Base (execs b) sc σ σ' fl := blk_ok (fun σ st σ' fl e => ex_ok hn o k e) e
end
end
section
noncomputable def BaseAt (h₀ : Heap) (h : Heap) (W : List Addr) : Prop := Kp h₀ h ∧ ∀ a ∈ W, h₀.get? a = none
theorem BaseAt.up {h₀ h h' : Heap} {W W' : List Addr} (b : BaseAt h₀ h W) (k : Kk W h h') (n : ∀ a ∈ W', a ∈ W ∨ h.get? a = none) : BaseAt h₀ h' W' := ⟨fun a o e => k a o (fun m => by first | exact dead2 (b.2 a m) e | exact dead2 e (b.2 a m) | (rw [b.2 a m] at e; cases e)) (b.1 a o e), fun a m => by
  rcases n a m with q | q
  · exact b.2 a q
  · cases z : h₀.get? a with
    | none => rfl
    | some o => first | exact dead2 (b.1 a o z) q | exact dead2 q (b.1 a o z) | (rw [b.1 a o z] at q; cases q)⟩
theorem BaseAt.sub {h₀ h : Heap} {W : List Addr} (b : BaseAt h₀ h W) : Sub (h₀.get? ·) (fz h W) := fun a o e => by
  have e' : h₀.get? a = some o := e
  refine fz_some.mpr ⟨fun m => ?_, b.1 a o e'⟩
  rw [b.2 a m] at e'
  first | with_reducible exact ns e' | cases e'

structure FdOK (fd : FuncData) (body : List Stmt) : Prop where
  body : fd.body = .stmts body
  clo : fd.closure = []
  glob : fd.globals = mainGlobals
  blt : fd.builtins = builtinsNs
  kind : fd.scope.kind = .function
  co : fd.scope.isCoroutine = false
  gen : fd.scope.isGenerator = false
  nd : nodupS (fd.scope.names.map (·.1)) = true
  noFree : fd.scope.names.all (fun p => p.2 != .free) = true
structure FnAt (h : Heap) (a : Addr) (fd : FuncData) : Prop where
  obj : ∃ o, h.get? a = some o ∧ o.data = .func fd
  code : h.CodeRec fd.code fd.qualname
  lim : h.NoLimit

theorem bindL_skip {kf : Str → Option NameKind} {x : Str} : ∀ {l : List (Str × Value)} {m : Str → Option Value}, (l.map (·.1)).contains x = false → bindL kf l m x = m x
  | [], m, _ => rfl
  | (y, v) :: r, m, h => by
    rw [List.map_cons, List.contains_cons, Bool.or_eq_false_iff] at h
    unfold bindL
    rw [bindL_skip h.2]
    split
    · have : x ≠ y := fun q => by rw [q] at h; simp at h
      simp [this]
    · rfl
theorem bindC_skip {kf : Str → Option NameKind} {x : Str} : ∀ {l : List (Str × Value)} {m : Str → Option Value}, (l.map (·.1)).contains x = false → bindC kf l m x = m x
  | [], m, _ => rfl
  | (y, v) :: r, m, h => by
    rw [List.map_cons, List.contains_cons, Bool.or_eq_false_iff] at h
    unfold bindC
    rw [bindC_skip h.2]
    split
    · rfl
    · have : x ≠ y := fun q => by rw [q] at h; simp at h
      simp [this]
theorem bindL_get {kf : Str → Option NameKind} {x : Str} {v : Value} (hk : kf x = some .local) : ∀ {l : List (Str × Value)} {m : Str → Option Value}, nodupS (l.map (·.1)) = true → l.lookup x = some v → bindL kf l m x = some v
  | [], m, _, e => by simp at e
  | (y, u) :: r, m, hd, e => by
    rw [List.map_cons] at hd
    simp only [nodupS, Bool.and_eq_true, Bool.not_eq_true'] at hd
    unfold bindL
    rw [List.lookup_cons] at e
    cases q : x == y with
    | true =>
      rw [q] at e
      first | with_reducible exact ns e | cases e
      have := beq_iff_eq.mp q
      subst this
      rw [bindL_skip hd.1, if_pos hk]; simp
    | false => rw [q] at e; exact bindL_get hk hd.2 e
theorem bindC_get {kf : Str → Option NameKind} {x : Str} {v : Value} (hk : kf x ≠ some .local) : ∀ {l : List (Str × Value)} {m : Str → Option Value}, nodupS (l.map (·.1)) = true → l.lookup x = some v → bindC kf l m x = some v
  | [], m, _, e => by simp at e
  | (y, u) :: r, m, hd, e => by
    rw [List.map_cons] at hd
    simp only [nodupS, Bool.and_eq_true, Bool.not_eq_true'] at hd
    unfold bindC
    rw [List.lookup_cons] at e
    cases q : x == y with
    | true =>
      rw [q] at e
      first | with_reducible exact ns e | cases e
      have := beq_iff_eq.mp q
      subst this
      rw [bindC_skip hd.1, if_neg hk]; simp
    | false => rw [q] at e; exact bindC_get hk hd.2 e
theorem zip_look {g : Gh} {x : Str} : ∀ {xs : List Str} {ds : List D} {us : List Value} {b : B}, RepL g ds us → (xs.zip (ds.map B.val)).lookup x = some b → ∃ d v, b = .val d ∧ (xs.zip us).lookup x = some v ∧ Rep g d v ∧ x ∈ xs
  | [], _, _, _, _, e => by simp at e
  | y :: xs, [], _, _, _, e => by simp at e
  | y :: xs, d :: ds, us, b, r, e => by
    obtain ⟨u, us', rfl, r1, r2⟩ := r
    rw [List.map_cons, List.zip_cons_cons, List.lookup_cons] at e
    rw [List.zip_cons_cons, List.lookup_cons]
    cases q : x == y with
    | true => first | exact dead2 (q) e | exact dead2 e (q) | (rw [q] at e; cases e); exact ⟨d, u, rfl, rfl, r1, by rw [beq_iff_eq.mp q]; exact List.mem_cons_self⟩
    | false =>
      rw [q] at e
      obtain ⟨d', v, a, b, c, m⟩ := zip_look r2 e
      exact ⟨d', v, a, b, c, List.mem_cons_of_mem _ m⟩
theorem zip_names : ∀ {xs : List Str} {us : List Value}, us.length = xs.length → (xs.zip us).map (·.1) = xs
  | [], _, _ => rfl
  | x :: xs, [], e => by simp at e
  | x :: xs, u :: us, e => by rw [List.zip_cons_cons, List.map_cons, zip_names (by simpa using e)]

section
variable {prog : Program} {w : World} {n : Nat} {O : Orc} {h₀ h : Heap} {W : List Addr}
theorem call_gen (o : OrcOK prog w n (BaseAt h₀) O) {a : Addr} {fd : FuncData} {body : List Stmt} {xs : List Str} {ds : List D} {us : List Value} {args : Args} {σ' : Vars} {fl : Fl} {d : D} (ok : FdOK fd body) (hF : FnAt h₀ a fd)
    (hbind : ∀ s : Shared, Kp h₀ s.heap → BindsTo s fd args (xs.zip us)) (hx : xs.length = ds.length) (hnd : nodupS xs = true) (hk : xs.all (tgtOk fd.scope.names) = true)
    (hb : PS prog w n (BaseAt h₀) (execs body) fd.scope.names (xs.zip (ds.map B.val)) σ' fl) (hd : fl = .ret d ∨ (fl = .next ∧ d = .none)) (b : BaseAt h₀ h W) (al : Al W h) (rl : RepL (fz h W) ds us) :
    Gv prog w (n + 1) W (call (.ref a) args.pos args.kw) d h := by
  intro A s Q E hks am hq
  obtain ⟨ob, hob, hdat⟩ := hF.obj
  have kS : Kp h₀ s.heap := b.1.trans hks
  have rlS : RepL (fz s.heap W) ds us := RepL.mono (fz_mono hks) rl
  have hlen : us.length = xs.length := by rw [rlS.length, hx]
  have hnames := zip_names (xs := xs) (us := us) hlen
  have htg : ∀ x ∈ xs, fd.scope.names.lookup x = some .local ∨ fd.scope.names.lookup x = some .cell := fun x m => tgt_2 (List.all_eq_true.mp hk x m)
  have hcn := fun x => cells_of_names x (names := fd.scope.names) (s.heap.objs.size + 1) ok.nd
  refine wpAny_call (codeAny_call_function am.room (kS _ _ hob) hdat ok.co ok.gen ok.body (hF.code.keeps kS) (hbind s kS _ _ _ _ ?_))
  rw [ok.clo]
  refine wpAny_newFunctionEnv_cells ok.kind (fun x m => ?_) (fun env he s₁ C => ?_)
  · have mx : x.1 ∈ xs := by rw [← hnames]; exact List.mem_map.mpr ⟨x, m, rfl⟩
    rcases htg x.1 mx with q | q
    · exact .inl q
    · obtain ⟨c, e⟩ := (hcn x.1).1 q
      exact .inr ⟨q, by rw [e]; rfl⟩
  · have hE := he.symm
    refine ⟨hF.lim.keeps (fun c oc e => C.toInCall.keep c oc (kS c oc e)), codeAny_func ?_⟩
    obtain ⟨h1, tk1, rfl⟩ := C.toInCall.same
    have eloc : env.locals = s.heap.objs.size := by rw [← hE]; rfl
    have ecells : env.cells = cellsFrom (s.heap.objs.size + 1) fd.scope.names [] := by rw [← hE]; rfl
    have escope : env.scope = fd.scope := by rw [← hE]; rfl
    have eglob : env.globals = mainGlobals := by rw [← hE]; exact ok.glob
    have eblt : env.builtins = builtinsNs := by rw [← hE]; exact ok.blt
    have ekind : ∀ x, env.kindOf x = fd.scope.names.lookup x := fun x => by unfold Env.kindOf; rw [escope]
    have k1 : Kp s.heap h1 := C.toInCall.keep
    have nofree : ∀ x, fd.scope.names.lookup x ≠ some .free := fun x q => by
      have := List.all_eq_true.mp ok.noFree _ (mem_of_look q)
      simp at this
    have hcell : ∀ x, fd.scope.names.lookup x = some .cell → ∃ c, env.cells.lookup x = some c := fun x q => by rw [ecells]; exact (hcn x).1 q
    have hT : ∀ c ∈ env.locals :: fd.scope.names.filterMap (fun p => env.cells.lookup p.1), s.heap.get? c = none := fun c m => by
      rcases List.mem_cons.mp m with rfl | m
      · rw [eloc]; exact size_none _
      · obtain ⟨p, _, e⟩ := List.mem_filterMap.mp m
        have := C.above p.1 c (mem_of_look e)
        rw [eloc] at this
        exact ge_none (Nat.le_of_lt this)
    have eo : EnvOK env fd.scope.names := ⟨by rw [escope]; exact ok.kind, eglob, eblt, fun x q => (ekind x).trans q, fun x q => (ekind x).trans q, fun x q => (ekind x).trans q, fun x q => absurd q (nofree x), fun x q => by
      rcases q with q | q
      · exact hcell x q
      · exact absurd q (nofree x), fun y c e => Nat.ne_of_gt (C.above y c (mem_of_look e)), fun x y c e e' => name_of_addr C.apart (mem_of_look e) (mem_of_look e')⟩
    have cal : CellsAl h1 env := fun y c e => let ⟨oc, z, _⟩ := C.cell y c e; ⟨oc, z⟩
    have fra : Fra h1 env fd.scope.names (env.locals :: fd.scope.names.filterMap (fun p => env.cells.lookup p.1)) := ⟨⟨_, C.toInCall.ns⟩, List.mem_cons_self, fun x q => by
      obtain ⟨c, e⟩ := hcell x q
      exact ⟨c, _, e, List.mem_cons_of_mem _ (List.mem_filterMap.mpr ⟨_, mem_of_look q, e⟩), C.cell x c e⟩, fun c m => by
      rcases List.mem_cons.mp m with rfl | m
      · exact .inl ⟨_, C.toInCall.ns⟩
      · obtain ⟨p, _, e⟩ := List.mem_filterMap.mp m
        exact .inr ⟨_, C.cell p.1 c e⟩⟩
    have alS := al.mono hks
    have hTn : ∀ c ∈ env.locals :: fd.scope.names.filterMap (fun p => env.cells.lookup p.1), c ∉ W := fun c m q => by
      obtain ⟨oc, e⟩ := alS c q
      first | exact dead2 (hT c m) e | exact dead2 e (hT c m) | (rw [hT c m] at e; cases e)
    have hsub : Sub (fz s.heap W) (fz h1 ((env.locals :: fd.scope.names.filterMap (fun p => env.cells.lookup p.1)) ++ W)) := fz_gr ⟨fun c m => List.mem_append_right _ m, fun c m => by
      rcases List.mem_append.mp m with m | m
      · exact .inr (hT c m)
      · exact .inl m⟩ k1
    have fs : FS (BaseAt h₀) h1 (env.locals :: fd.scope.names.filterMap (fun p => env.cells.lookup p.1)) W [] env fd.scope.names (env.locals :: fd.scope.names.filterMap (fun p => env.cells.lookup p.1)) (xs.zip (ds.map B.val)) := {
      eo := eo, cal := cal, fra := fra, tv := fun c m => m, tx := fun c _ => by simp, xw := fun c m => by cases m
      vw := hTn
      al := fun c m => by
        rcases List.mem_append.mp m with m | m
        · rcases fra.kinds c m with ⟨m', oc, es, ep, e, _⟩ | ⟨v', oc, e, _⟩
          · exact ⟨oc, e⟩
          · exact ⟨oc, e⟩
        · exact (alS.mono k1) c m
      vo := fun x bb e => by
        obtain ⟨dd, v, rfl, hv, rv, mx⟩ := zip_look rlS e
        refine ⟨tgt_1 (List.all_eq_true.mp hk x mx), v, ?_, Rep.mono hsub rv⟩
        have hnd' : nodupS ((xs.zip us).map (·.1)) = true := by rw [hnames]; exact hnd
        rcases htg x mx with q | q
        · exact .inl ⟨(ekind x).trans q, by simp, _, C.toInCall.ns, bindL_get ((ekind x).trans q) hnd' hv⟩
        · obtain ⟨c, ec⟩ := hcell x q
          refine .inr ⟨.inl ((ekind x).trans q), c, ec, by simp, ?_⟩
          have := C.cell x c ec
          rw [bindC_get (by rw [ekind x, q]; simp) hnd' hv] at this
          exact this
      ownV := fun x es c e => by
        obtain ⟨dd, v, q, _⟩ := zip_look rlS e
        first | with_reducible exact ns q | cases q
      apart := fun x y es es' c e => by
        obtain ⟨dd, v, q, _⟩ := zip_look rlS e
        first | with_reducible exact ns q | cases q
      base := (b.up (fun c o _ e => hks c o e) fun c m => .inl m).up (fun c o _ e => k1 c o e) fun c m => by
        rcases List.mem_append.mp m with m | m
        · exact .inr (hT c m)
        · exact .inl m }
    refine hb env _ W [] _ _ _ _ _ fs (am.deeper env) fun f h2 tk2 k2 p2 => ?_
    have kp : Kp s.heap h2 := fun c oc e => k2.keep c oc (fun m => by first | exact dead2 (hT c m) e | exact dead2 e (hT c m) | (rw [hT c m] at e; cases e)) (k1 c oc e)
    rcases hd with rfl | ⟨rfl, rfl⟩
    · cases f <;> first | exact p2.elim | skip
      exact hq _ h2 tk2 kp p2
    · cases f <;> first | exact p2.elim | skip
      exact hq _ h2 tk2 kp rfl

theorem call_ok (o : OrcOK prog w n (BaseAt h₀) O) {a : Addr} {fd : FuncData} {body : List Stmt} {xs : List Str} {ds exD : List D} {us ex : List Value} {σ' : Vars} {fl : Fl} {d : D} (ok : FdOK fd body) (hF : FnAt h₀ a fd)
    (hbind : bindArgs fd ⟨us, []⟩ = pure (xs.zip (us ++ ex))) (hex : ∀ g, RepL g exD ex) (hx : xs.length = ds.length + exD.length) (hnd : nodupS xs = true) (hk : xs.all (tgtOk fd.scope.names) = true)
    (hb : PS prog w n (BaseAt h₀) (execs body) fd.scope.names (xs.zip ((ds ++ exD).map B.val)) σ' fl) (hd : fl = .ret d ∨ (fl = .next ∧ d = .none)) (b : BaseAt h₀ h W) (al : Al W h) (rl : RepL (fz h W) ds us) :
    Gv prog w (n + 1) W (call (.ref a) us) d h :=
  call_gen (args := ⟨us, []⟩) o ok hF (fun s _ => BindsTo.of_eq hbind) (by rw [hx, List.length_append]) hnd hk hb hd b al (RepL.append rl (hex _))
end
end
section
section
variable {O : Orc} {ap : List Str} {k : Nat} {sc : List (Str × NameKind)} {σ σ' σ1 : Vars} {p : Pos}
theorem r_none {a} : evE O (k + 1) sc σ (.Constant .none a p) = some .none := rfl
theorem r_bool {a b} : evE O (k + 1) sc σ (.Constant (.bool b) a p) = some (.bool b) := rfl
theorem r_int {a i} : evE O (k + 1) sc σ (.Constant (.int i) a p) = some (.int i) := rfl
theorem r_str {a x} {l : List Nat} (h : x.cps.toList = l) : evE O (k + 1) sc σ (.Constant (.str x) a p) = some (.str l) := by rw [← h]; rfl
noncomputable def kindV : Option NameKind → Bool
  | some .local | some .cell | some .free => true
  | _ => false
theorem bnd {α β : Type} {o : Option α} {f : α → Option β} {a : α} {r : Option β} (h : o = some a) (h2 : f a = r) : o.bind f = r := by rw [h]; exact h2
theorem r_var {x d} (h : kindV (sc.lookup x) = true) (h2 : σ.lookup x = some (.val d)) : evE O (k + 1) sc σ (.Name x p) = some d := by
  show nameE O sc σ x = _
  unfold nameE
  generalize sc.lookup x = z at h
  cases z with
  | none => first | with_reducible exact ns h | cases h
  | some z => cases z <;> first | (cases h; done) | (show varD (σ.lookup x) = _; rw [h2]; rfl)
theorem r_glob {x d} (h : sc.lookup x = some .globalImplicit) (h2 : O.glob x = some d) : evE O (k + 1) sc σ (.Name x p) = some d := by
  show nameE O sc σ x = _
  exact bnd h h2
theorem r_bin {l op r a b d} (h1 : evE O k sc σ l = some a) (h2 : evE O k sc σ r = some b) (h3 : binD op a b = some d) : evE O (k + 1) sc σ (.BinOp l op r p) = some d := by
  show (evE O k sc σ l).bind (fun a => (evE O k sc σ r).bind fun b => binD op a b) = _
  exact bnd h1 (bnd h2 h3)
theorem r_neg {x i} (h : evE O k sc σ x = some (.int i)) : evE O (k + 1) sc σ (.UnaryOp .USub x p) = some (.int (-i)) := by
  show (evE O k sc σ x).bind (fun d => (asInt d).bind fun i => some (D.int (-i))) = _
  exact bnd h rfl
theorem r_not {x d b} (h : evE O k sc σ x = some d) (h2 : truD d = some b) : evE O (k + 1) sc σ (.UnaryOp .Not x p) = some (.bool (!b)) := by
  show (evE O k sc σ x).bind (fun d => (truD d).bind fun b => some (D.bool (!b))) = _
  exact bnd h (bnd h2 rfl)
theorem r_and {a b d r c} (h : evE O k sc σ a = some d) (h2 : truD d = some c) (h3 : evE O k sc σ b = some r) : evE O (k + 1) sc σ (.BoolOp .And [a, b] p) = some (if c = true then r else d) := by
  show (evE O k sc σ a).bind (fun d => (truD d).bind fun c => if c = true then evE O k sc σ b else some d) = _
  refine bnd h (bnd h2 ?_)
  first | with_reducible exact ns c | cases c
  · rfl
  · exact h3
theorem r_or {a b d r c} (h : evE O k sc σ a = some d) (h2 : truD d = some c) (h3 : evE O k sc σ b = some r) : evE O (k + 1) sc σ (.BoolOp .Or [a, b] p) = some (if c = true then d else r) := by
  show (evE O k sc σ a).bind (fun d => (truD d).bind fun c => if c = true then some d else evE O k sc σ b) = _
  refine bnd h (bnd h2 ?_)
  first | with_reducible exact ns c | cases c
  · exact h3
  · rfl
theorem r_ife {t a b c x y} (h : evT O k sc σ t = some c) (h1 : evE O k sc σ a = some x) (h2 : evE O k sc σ b = some y) : evE O (k + 1) sc σ (.IfExp t a b p) = some (if c = true then x else y) := by
  show (evT O k sc σ t).bind (fun c => if c = true then evE O k sc σ a else evE O k sc σ b) = _
  refine bnd h ?_
  first | with_reducible exact ns c | cases c
  · exact h2
  · exact h1
theorem r_ifeT {t a b x} (h : evT O k sc σ t = some true) (h1 : evE O k sc σ a = some x) : evE O (k + 1) sc σ (.IfExp t a b p) = some x := by
  show (evT O k sc σ t).bind (fun c => if c = true then evE O k sc σ a else evE O k sc σ b) = _
  exact bnd h h1
theorem r_ifeF {t a b x} (h : evT O k sc σ t = some false) (h1 : evE O k sc σ b = some x) : evE O (k + 1) sc σ (.IfExp t a b p) = some x := by
  show (evT O k sc σ t).bind (fun c => if c = true then evE O k sc σ a else evE O k sc σ b) = _
  exact bnd h h1
theorem t_cmpO {l op r a b c} (hp : plainSrc r = true) (h1 : evE O k sc σ l = some a) (h2 : evE O k sc σ r = some b) (h3 : cmpO O op a b = some c) : evT O (k + 1) sc σ (.Compare l [op] [r] p) = some c := by
  show (if plainSrc r then (evE O k sc σ l).bind fun a => (evE O k sc σ r).bind fun b => cmpO O op a b else none) = _
  rw [if_pos hp]; exact bnd h1 (bnd h2 h3)
theorem t_cmp {l op r a b c} (hp : plainSrc r = true) (h1 : evE O k sc σ l = some a) (h2 : evE O k sc σ r = some b) (h3 : cmpD op a b = some c) : evT O (k + 1) sc σ (.Compare l [op] [r] p) = some c := t_cmpO hp h1 h2 (cmpO_of h3)
theorem r_cmpO {l op r a b c} (hp : plainSrc r = true) (h1 : evE O k sc σ l = some a) (h2 : evE O k sc σ r = some b) (h3 : cmpO O op a b = some c) : evE O (k + 1) sc σ (.Compare l [op] [r] p) = some (.bool c) := by
  show (evT O (k + 1) sc σ (.Compare l [op] [r] p)).bind (fun c => some (D.bool c)) = _
  exact bnd (t_cmpO hp h1 h2 h3) rfl
theorem r_cmp {l op r a b c} (hp : plainSrc r = true) (h1 : evE O k sc σ l = some a) (h2 : evE O k sc σ r = some b) (h3 : cmpD op a b = some c) : evE O (k + 1) sc σ (.Compare l [op] [r] p) = some (.bool c) := r_cmpO hp h1 h2 (cmpO_of h3)
theorem r_attr {e x v d} (hs : notSuper e = true) (h1 : evE O k sc σ e = some (.cst v)) (h2 : O.attr v x = some d) : evE O (k + 1) sc σ (.Attribute e x p) = some d := by
  show attrE O e (evE O k sc σ e) x = _
  unfold attrE
  rw [if_pos hs]; exact bnd h1 h2
theorem r_subO {v i d j r} (hi : isSlice i = false) (h1 : evE O k sc σ v = some d) (h2 : evE O k sc σ i = some j) (h3 : itemO O d j = some r) : evE O (k + 1) sc σ (.Subscript v i p) = some r := by
  show subE O (evE O k sc σ) v i = _
  unfold subE
  rw [if_neg (by rw [hi]; exact Bool.false_ne_true)]; exact bnd h1 (bnd h2 h3)
theorem r_sub {v i d j r} (hi : isSlice i = false) (h1 : evE O k sc σ v = some d) (h2 : evE O k sc σ i = some j) (h3 : itemD d j = some r) : evE O (k + 1) sc σ (.Subscript v i p) = some r := r_subO hi h1 h2 (itemO_of h3)
theorem r_slc {v lo hi q d a b r} (h1 : evE O k sc σ v = some d) (h2 : partD (evE O k sc σ) lo = some a) (h3 : partD (evE O k sc σ) hi = some b) (h4 : cutD d a b = some r) : evE O (k + 1) sc σ (.Subscript v (.Slice lo hi none q) p) = some r := by
  show (evE O k sc σ v).bind (fun d => (partD (evE O k sc σ) lo).bind fun a => (partD (evE O k sc σ) hi).bind fun b => cutD d a b) = _
  exact bnd h1 (bnd h2 (bnd h3 h4))
theorem r_part0 {f} : partD f none = some none := rfl
theorem r_part {f : Expr → Option D} {e i} (h : f e = some (.int i)) : partD f (some e) = some (some i) := by show (f e).bind partO = _; rw [h]; rfl
theorem r_nil {α : Type} {f : α → Option D} : allSome f [] = some [] := rfl
theorem r_cons {α : Type} {f : α → Option D} {a as d ds} (h : f a = some d) (h2 : allSome f as = some ds) : allSome f (a :: as) = some (d :: ds) := bnd h (bnd h2 rfl)
theorem r_lit {f : Expr → Option D} {mk : List D → D} {es ds} (hs : es.any starred = false) (h : allSome f es = some ds) (hz : ds.length ≤ 1048576) : litE f mk es = some (mk ds) := by
  unfold litE
  rw [if_neg (by rw [hs]; exact Bool.false_ne_true)]; exact bnd h (if_pos hz)
theorem r_list {es ds} (hs : es.any starred = false) (h : allSome (evE O k sc σ) es = some ds) (hz : ds.length ≤ 1048576) : evE O (k + 1) sc σ (.List es p) = some (.list ds) := by
  show litE _ _ _ = _
  exact r_lit hs h hz
theorem r_tuple {es ds c} (hs : es.any starred = false) (h : allSome (evE O k sc σ) es = some ds) (hz : ds.length ≤ 1048576) : evE O (k + 1) sc σ (.Tuple es c p) = some (.tuple ds) := by
  show litE _ _ _ = _
  exact r_lit hs h hz
theorem r_methG {o name q args d ds r} (hs : (args.any starred || !(decide (args.length < 30)) || !(q.endLine == p.line) || !(notSuper o)) = false) (h : evE O k sc σ o = some d) (h2 : allSome (evE O k sc σ) args = some ds) (h3 : methO O name d ds = some r) :
    evE O (k + 1) sc σ (.Call (.Attribute o name q) args [] p) = some r := by
  show (if (args.any starred || !(decide (args.length < 30)) || !(q.endLine == p.line) || !(notSuper o)) = true then none else (evE O k sc σ o).bind fun d => (allSome (evE O k sc σ) args).bind fun ds => methO O name d ds) = _
  rw [if_neg (by rw [hs]; exact Bool.false_ne_true)]; exact bnd h (bnd h2 h3)
theorem r_meth {o name q args d ds r} (hs : (args.any starred || !(decide (args.length < 30)) || !(q.endLine == p.line) || !(notSuper o)) = false) (h : evE O k sc σ o = some d) (h2 : allSome (evE O k sc σ) args = some ds) (h3 : callM name d ds = some r) :
    evE O (k + 1) sc σ (.Call (.Attribute o name q) args [] p) = some r := r_methG hs h h2 (methO_of h3)
theorem r_methO {o name q args v ds r} (hs : (args.any starred || !(decide (args.length < 30)) || !(q.endLine == p.line) || !(notSuper o)) = false) (h : evE O k sc σ o = some (.cst v)) (h2 : allSome (evE O k sc σ) args = some ds) (h3 : O.meth v name ds = some r) :
    evE O (k + 1) sc σ (.Call (.Attribute o name q) args [] p) = some r := r_methG hs h h2 h3
theorem r_call {f args d ds r} (hf : isAttr f = false) (hs : args.any starred = false) (h : evE O k sc σ f = some d) (h2 : allSome (evE O k sc σ) args = some ds) (h3 : applyD O d ds = some r) : evE O (k + 1) sc σ (.Call f args [] p) = some r := by
  show (if isAttr f = true then methE O (evE O k sc σ) f args p else if args.any starred then none else (evE O k sc σ f).bind fun d => (allSome (evE O k sc σ) args).bind fun ds => applyD O d ds) = _
  rw [if_neg (by rw [hf]; exact Bool.false_ne_true), if_neg (by rw [hs]; exact Bool.false_ne_true)]; exact bnd h (bnd h2 h3)
theorem r_comp {elt g gs scope ds es} (hc : (plainSrc g.iter && decide (g.is_async = 0) && scopeOk sc scope) = true) (h : peekD σ (evE O k sc σ) g.iter = some ds) (hz : ds.length ≤ 1048576)
    (h2 : evC O k scope.names (σ.filter fun p => scope.names.lookup p.1 == some .free) elt g gs ds = some es) (hz2 : es.length ≤ 1048576) : evE O (k + 1) sc σ (.ListComp elt (g :: gs) scope p) = some (.list es) := by
  show (if plainSrc g.iter && decide (g.is_async = 0) && scopeOk sc scope then (peekD σ (evE O k sc σ) g.iter).bind fun ds => (evC O k scope.names (σ.filter fun p => scope.names.lookup p.1 == some .free) elt g gs ds).bind fun es => if ds.length ≤ 1048576 ∧ es.length ≤ 1048576 then some (D.list es) else none else none) = _
  rw [if_pos hc]; exact bnd h (bnd h2 (if_pos ⟨hz, hz2⟩))
noncomputable def isName (e : Expr) : Bool := Nat.beq e.ctorIdx 23
theorem r_peekV {f : Expr → Option D} {x q d ds d0} (h0 : σ.lookup x = some (.val d0)) (h : f (.Name x q) = some d) (h2 : iterD d = some ds) : peekD σ f (.Name x q) = some ds := by
  show peekB (σ.lookup x) _ = _
  rw [h0]
  show (f (.Name x q)).bind _ = _
  rw [h]; exact h2
theorem r_peek {f : Expr → Option D} {e d ds} (hn : isName e = false) (h : f e = some d) (h2 : iterD d = some ds) : peekD σ f e = some ds := by
  have : peekD σ f e = (f e).bind iterD := by cases e <;> first | rfl | cases hn
  rw [this, h]; exact h2
theorem r_clause {elt x q it ifs as gs ds es} (hc : ((σ.lookup x).isNone && okName x && (sc.lookup x == some .local || sc.lookup x == some .cell)) = true)
    (h : catD (fun d => oneD (evT O k sc ((x, .val d) :: σ)) (evE O k sc ((x, .val d) :: σ)) (evC O k sc ((x, .val d) :: σ) elt) elt ifs gs) ds = some es) : evC O (k + 1) sc σ elt ⟨.Name x q, it, ifs, as⟩ gs ds = some es := by
  exact (if_pos hc).trans h
theorem r_one {fT fE fC elt ifs c d} (h : ifsD fT ifs = some c) (h2 : fE elt = some d) : oneD fT fE fC elt ifs [] = some (if c = true then [d] else []) := by
  unfold oneD
  refine bnd h ?_
  cases c
  · rfl
  · exact bnd h2 rfl
theorem r_ifs0 {f} : ifsD f [] = some true := rfl
theorem r_ifs1 {f : Expr → Option Bool} {e c} (h : f e = some c) : ifsD f [e] = some c := bnd h (by cases c <;> rfl)
theorem t_not {x c} (h : evT O k sc σ x = some c) : evT O (k + 1) sc σ (.UnaryOp .Not x p) = some (!c) := by
  show (evT O k sc σ x).bind (fun b => some (!b)) = _
  exact bnd h rfl
theorem t_bool {op vs c} (h : allT (evT O k sc σ) op vs = some c) : evT O (k + 1) sc σ (.BoolOp op vs p) = some c := h
theorem t_val {e d c} (hn : isTst e = false) (h : evE O k sc σ e = some d) (h2 : truD d = some c) : evT O (k + 1) sc σ e = some c := by
  have : evT O (k + 1) sc σ e = (evE O k sc σ e).bind truD := by cases e <;> first | rfl | cases hn
  rw [this, h]; exact h2
theorem t_and0 {f} : allT f .And [] = some true := rfl
theorem t_or0 {f} : allT f .Or [] = some false := rfl
theorem t_and {f : Expr → Option Bool} {x r c c'} (h : f x = some c) (h2 : allT f .And r = some c') : allT f .And (x :: r) = some (c && c') := bnd h (by cases c; rfl; exact h2)
theorem t_or {f : Expr → Option Bool} {x r c c'} (h : f x = some c) (h2 : allT f .Or r = some c') : allT f .Or (x :: r) = some (c || c') := bnd h (by cases c; exact h2; rfl)
theorem t_orT {f : Expr → Option Bool} {x r} (h : f x = some true) : allT f .Or (x :: r) = some true := bnd h rfl
theorem s_asg {x q v d} (hx : tgtOk sc x = true) (hv : (isEmptyL v && ap.contains x) = false) (h : evE O k sc σ v = some d) : exS O ap (k + 1) sc σ (.Assign [.Name x q] v p) = some (setV σ x (.val d), .next) := by
  show nameX (evE O k sc σ) ap sc σ x v = _
  unfold nameX oneB; rw [if_pos hx, hv, h]; rfl
theorem s_own {x q pl} (hx : tgtOk sc x = true) (hv : ap.contains x = true) : exS O ap (k + 1) sc σ (.Assign [.Name x q] (.List [] pl) p) = some (setV σ x (.own []), .next) := by
  show (if tgtOk sc x then (if (true && ap.contains x) = true then some (B.own []) else (evE O k sc σ (.List [] pl)).map .val).map fun b => (setV σ x b, Fl.next) else none) = _
  rw [if_pos hx, hv]; rfl
theorem s_disp {ts a b vs c d xs bs} (h1 : namesT ts = some xs) (h2 : manyB (evE O k sc σ) ap xs vs = some bs)
    (h3 : (xs.all (tgtOk sc) && (xs.all (fun x => sc.lookup x == some .local) && (nodupS xs && (!(vs.any starred) && (!(vs.all (constantsAlone 8)) && (decide ((bs.filter isOwnB).length ≤ 1) && decide (bs.length ≤ 1000))))))) = true) :
    exS O ap (k + 1) sc σ (.Assign [.Tuple ts a b] (.Tuple vs c d) p) = some (setAll σ xs bs, .next) := by
  show dispX (evE O k sc σ) ap sc σ ts vs = _
  unfold dispX; rw [h1]
  show (manyB (evE O k sc σ) ap xs vs).bind _ = _
  rw [h2]; exact if_pos h3
theorem m_nil {f : Expr → Option D} : manyB f ap [] [] = some [] := rfl
theorem m_val {f : Expr → Option D} {x xs e es d bs} (hv : (isEmptyL e && ap.contains x) = false) (h : f e = some d) (h2 : manyB f ap xs es = some bs) : manyB f ap (x :: xs) (e :: es) = some (.val d :: bs) := by
  show (oneB f ap x e).bind _ = _
  refine bnd (a := .val d) ?_ (bnd h2 rfl)
  unfold oneB; rw [hv, h]; rfl
theorem s_app {x q nm q2 e p2 ds d} (hx : σ.lookup x = some (.own ds)) (hn : nm = Str.ofString "append" ∧ starred e = false ∧ (q2.endLine == p2.line) = true) (h : evE O k sc σ e = some d) (hz : ds.length < 1048576) :
    exS O ap (k + 1) sc σ (.Expr (.Call (.Attribute (.Name x q) nm q2) [e] [] p2) p) = some (setV σ x (.own (ds ++ [d])), .next) := by
  show appX (evE O k sc σ) σ x nm q2 p2 e = _
  unfold appX; rw [hx]
  show (evE O k sc σ e).bind _ = _
  rw [h]; exact if_pos ⟨hn.1, hn.2.1, hn.2.2, hz⟩
theorem s_ifT {t b o r} (h : evT O k sc σ t = some true) (h2 : blkD (exS O ap k sc) b σ = r) : exS O ap (k + 1) sc σ (.If t b o p) = r := by
  show (match evT O k sc σ t with
    | some true => blkD (exS O ap k sc) b σ
    | some false => blkD (exS O ap k sc) o σ
    | none => none) = r
  rw [h]; exact h2
theorem s_ifF {t b o r} (h : evT O k sc σ t = some false) (h2 : blkD (exS O ap k sc) o σ = r) : exS O ap (k + 1) sc σ (.If t b o p) = r := by
  show (match evT O k sc σ t with
    | some true => blkD (exS O ap k sc) b σ
    | some false => blkD (exS O ap k sc) o σ
    | none => none) = r
  rw [h]; exact h2
theorem s_for {t i b o d ds r} (hp : plainSrc i = true) (h : evE O k sc σ i = some d) (hi : iterD d = some ds) (h2 : forD (setT sc t) (fun σ => blkD (exS O ap k sc) b σ) (fun σ => blkD (exS O ap k sc) o σ) ds σ = r) : exS O ap (k + 1) sc σ (.For t i b o p) = r := by
  show (if plainSrc i then ((evE O k sc σ i).bind iterD).bind fun ds => forD (setT sc t) (fun σ => blkD (exS O ap k sc) b σ) (fun σ => blkD (exS O ap k sc) o σ) ds σ else none) = r
  rw [if_pos hp, h]
  show (iterD d).bind _ = r
  rw [hi]; exact h2
theorem s_while {t b r} (h : whileD (fun σ => evT O k sc σ t) (fun σ => blkD (exS O ap k sc) b σ) k σ = r) : exS O ap (k + 1) sc σ (.While t b [] p) = r := h
theorem s_ret {e d} (h : evE O k sc (frzAll σ) e = some d) : exS O ap (k + 1) sc σ (.Return (some e) p) = some (σ, .ret d) := by
  show (evE O k sc (frzAll σ) e).map _ = _
  rw [h]; rfl
theorem s_brk : exS O ap (k + 1) sc σ (.Break p) = some (σ, .brk) := rfl
theorem b_nil {f : Vars → Stmt → Option (Vars × Fl)} : blkD f [] σ = some (σ, .next) := rfl
theorem b_next {f : Vars → Stmt → Option (Vars × Fl)} {st b r} (h : f σ st = some (σ1, .next)) (h2 : blkD f b σ1 = r) : blkD f (st :: b) σ = r := by
  show (f σ st).bind _ = r
  rw [h]; exact h2
theorem b_ret {f : Vars → Stmt → Option (Vars × Fl)} {st b d} (h : f σ st = some (σ1, .ret d)) : blkD f (st :: b) σ = some (σ1, .ret d) := by
  show (f σ st).bind _ = _
  rw [h]; rfl
theorem b_brk {f : Vars → Stmt → Option (Vars × Fl)} {st b} (h : f σ st = some (σ1, .brk)) : blkD f (st :: b) σ = some (σ1, .brk) := by
  show (f σ st).bind _ = _
  rw [h]; rfl
theorem f_nil {t : Vars → D → Option Vars} {b els r} (h : els σ = r) : forD t b els [] σ = r := h
theorem f_next {t : Vars → D → Option Vars} {b els d ds r σ2} (h : t σ d = some σ1) (h2 : b σ1 = some (σ2, .next)) (h3 : forD t b els ds σ2 = r) : forD t b els (d :: ds) σ = r := by
  show (t σ d).bind _ = r
  rw [h]
  show (b σ1).bind _ = r
  rw [h2]; exact h3
theorem f_brk {t : Vars → D → Option Vars} {b els d ds σ2} (h : t σ d = some σ1) (h2 : b σ1 = some (σ2, .brk)) : forD t b els (d :: ds) σ = some (σ2, .next) := by
  show (t σ d).bind _ = _
  rw [h]
  show (b σ1).bind _ = _
  rw [h2]; rfl
theorem f_ret {t : Vars → D → Option Vars} {b els d ds σ2 x} (h : t σ d = some σ1) (h2 : b σ1 = some (σ2, .ret x)) : forD t b els (d :: ds) σ = some (σ2, .ret x) := by
  show (t σ d).bind _ = _
  rw [h]
  show (b σ1).bind _ = _
  rw [h2]; rfl
end
end
section
noncomputable def fdD (o : Obj) : Option FuncData := match o.data with
  | .func fd => some fd
  | _ => none
theorem fdD_inv {o : Obj} {fd : FuncData} (h : fdD o = some fd) : o.data = .func fd := by
  obtain ⟨_, _, d, _⟩ := o
  cases d <;> first | exact ns h | skip
  exact congrArg _ (Option.some.inj h)
noncomputable def fdO (K : Frag) (a : Addr) : Option FuncData := (K.lookup a).bind fdD
noncomputable def fdIn (K : Frag) (a : Addr) : FuncData := (fdO K a).getD default
noncomputable def bodyIn (K : Frag) (a : Addr) : List Stmt := match (fdIn K a).body with
  | .stmts b => b
  | _ => []
noncomputable def scIn (K : Frag) (a : Addr) : List (Str × NameKind) := (fdIn K a).scope.names
noncomputable def stAt (b : List Stmt) (i : Nat) : Stmt := b.getD i (.Pass ⟨0, 0, 0, 0⟩)
noncomputable def forTg : Stmt → Expr
  | .For t _ _ _ _ => t
  | _ => .Constant .none 0 ⟨0, 0, 0, 0⟩
noncomputable def forB : Stmt → List Stmt
  | .For _ _ b _ _ => b
  | .While _ b _ _ => b
  | .If _ b _ _ => b
  | _ => []
noncomputable def forO : Stmt → List Stmt
  | .For _ _ _ b _ => b
  | .If _ _ b _ => b
  | _ => []
noncomputable def isFd (K : Frag) (a : Addr) : Bool := (fdO K a).isSome
theorem isFd_inv {K : Frag} {a : Addr} (h : isFd K a = true) : ∃ o, K.lookup a = some o ∧ o.data = .func (fdIn K a) := by
  obtain ⟨fd, e⟩ := Option.isSome_iff_exists.mp h
  have e1 : fdIn K a = fd := congrArg (·.getD default) e
  obtain ⟨o, ho, hd⟩ := Option.bind_eq_some_iff.mp e
  exact ⟨o, ho, (fdD_inv hd).trans (congrArg _ e1.symm)⟩

structure GlobOK (K : Frag) (x : Str) (d : D) : Prop where
  ok : okName x = true
  val : (∃ v, nsIn K mainGlobals x = some (some v) ∧ ∀ g : Gh, (∀ a o, K.lookup a = some o → g a = some o) → Rep g d v) ∨ (∃ v, nsIn K mainGlobals x = some none ∧ bootBuiltins x = some v ∧ x ≠ "__name__" ∧ ∀ g : Gh, Rep g d v)

section
variable {prog : Program} {w : World} {n : Nat} {O : Orc} {h₀ h : Heap} {W : List Addr} {K : Frag} {p : Program} {loose : List Str} {mg mb : Str → Option Value}
theorem glob_ok (X : K.In h₀) (T : TopRead p loose mg mb h₀) {x : Str} {d : D} (g : GlobOK K x d) (b : BaseAt h₀ h W) (env : Env) (eg : env.globals = mainGlobals) (eb : env.builtins = builtinsNs) : Gv prog w n W (loadGlobal env x) d h := by
  intro A s Q E hk am hq
  have k : Kp h₀ s.heap := b.1.trans hk
  have nm : s.heap.Ns env.globals mg := by rw [eg]; exact T.g.keeps k
  have nb : s.heap.Ns env.builtins mb := by rw [eb]; exact T.b.keeps k
  rcases g.val with ⟨v, e, r⟩ | ⟨v, e, e2, e3, r⟩
  · refine loadGlobal_global nm (mg_of X T.g e) (hq v s.heap s.toks (Kp.refl _) (r _ fun a o q => ?_))
    exact fz_mono hk _ _ (b.sub a o (X a o q))
  · exact loadGlobal_builtin nm (mg_none_of X T.g e) nb ((T.builtins x e3).trans e2) (hq v s.heap s.toks (Kp.refl _) (r _))
theorem orc_gen (X : K.In h₀) (T : TopRead p loose mg mb h₀) (hg : ∀ x d, O.glob x = some d → GlobOK K x d) (hf : ∀ f ds d, O.call f ds = some d → ∃ a, f = .ref a ∧ isFd K a = true)
    (hc : ∀ {h W f ds d vs}, BaseAt h₀ h W → Al W h → O.call f ds = some d → RepL (fz h W) ds vs → Gv prog w n W (PySem.call f vs) d h)
    (ha : ∀ {h W v x d}, BaseAt h₀ h W → O.attr v x = some d → Gv prog w n W (getAttr v x true) d h)
    (hm : ∀ {h W v x ds d}, BaseAt h₀ h W → Al W h → O.meth v x ds = some d → ∃ f first o fd, h.get? f = some o ∧ o.data = .func fd ∧ (∀ pl, Gx prog w n W (getMethod v x pl) (fun _ z => z = (.ref f, first)) h) ∧
      ∀ vs h', Kp h h' → RepL (fz h' W) ds vs → Gv prog w n W (PySem.call (.ref f) (first ++ vs)) d h')
    (hi : ∀ {h W v u j d}, BaseAt h₀ h W → O.item v j = some d → Rep (fz h W) j u → ∀ value slice, Gv prog w n W (subscriptTail value slice v u) d h)
    (hh : ∀ {h W v u j b}, BaseAt h₀ h W → O.has v j = some b → Rep (fz h W) j u → Gv prog w n W (compareOp .In u v) (.bool b) h ∧ Gv prog w n W (compareOp .NotIn u v) (.bool !b) h) : OrcOK prog w n (BaseAt h₀) O where
  up := fun b k g => b.up k g
  name := fun {h W x d} b e => ⟨(hg x d e).ok, fun env eg eb => glob_ok X T (hg x d e) b env eg eb⟩
  fn := fun {h W f ds d} b e => by
    obtain ⟨a, rfl, hfd⟩ := hf f ds d e
    obtain ⟨o, hl, hd⟩ := isFd_inv hfd
    exact ⟨a, o, _, rfl, b.1 _ _ (X a _ hl), hd⟩
  call := fun b al e r => hc b al e r
  attr := ha
  meth := hm
  item := hi
  has := hh
theorem orc_ok (X : K.In h₀) (T : TopRead p loose mg mb h₀) (hg : ∀ x d, O.glob x = some d → GlobOK K x d) (hf : ∀ f ds d, O.call f ds = some d → ∃ a, f = .ref a ∧ isFd K a = true)
    (hc : ∀ {h W f ds d vs}, BaseAt h₀ h W → Al W h → O.call f ds = some d → RepL (fz h W) ds vs → Gv prog w n W (PySem.call f vs) d h)
    (ha : ∀ v x, O.attr v x = none) (hm : ∀ v x ds, O.meth v x ds = none) (hi : ∀ v j, O.item v j = none) (hh : ∀ v j, O.has v j = none) : OrcOK prog w n (BaseAt h₀) O :=
  orc_gen X T hg hf hc (fun {_ _ v x _} _ e => dead2 (ha v x) e) (fun {_ _ v x ds _} _ _ e => dead2 (hm v x ds) e) (fun {_ _ v _ j _} _ e => dead2 (hi v j) e) (fun {_ _ v _ j _} _ e => dead2 (hh v j) e)
theorem fn_at (X : K.In h₀) (lim : h₀.NoLimit) {a : Addr} (hf : isFd K a = true) {c : Addr} {o : Obj} {vs : Array Value} {t : Tok} (hc : (fdIn K a).code = .ref c) (hl : K.lookup c = some o) (hd : o.data = .fields vs) (hv : vs[1]? = some (.str (fdIn K a).qualname t)) : FnAt h₀ a (fdIn K a) := by
  refine ⟨?_, ⟨c, o, vs, t, hc, X c o hl, hd, hv⟩, lim⟩
  obtain ⟨o, hl, hd⟩ := isFd_inv hf
  exact ⟨o, X a _ hl, hd⟩

noncomputable def Ct (prog : Program) (w : World) (n : Nat) (h₀ : Heap) (f : Value) (ds : List D) (d : D) : Prop := ∀ {h W vs}, BaseAt h₀ h W → Al W h → RepL (fz h W) ds vs → Gv prog w n W (PySem.call f vs) d h
theorem Ct.more {f : Value} {ds : List D} {d : D} {m : Nat} (c : Ct prog w n h₀ f ds d) (k : n ≤ m) : Ct prog w m h₀ f ds d := fun b al r => (c b al r).more k
noncomputable def Rets (O : Orc) (ap : List Str) (k : Nat) (K : Frag) (a : Addr) (σ : Vars) (d : D) : Prop := ∃ σ', blkD (exS O ap k (scIn K a)) (bodyIn K a) σ = some (σ', .ret d)
theorem ct_of (hn : 1 ≤ n) (o : OrcOK prog w n (BaseAt h₀) O) {a : Addr} {xs : List Str} {ds : List D} {d : D} {ap : List Str} {k : Nat} (ok : FdOK (fdIn K a) (bodyIn K a)) (hF : FnAt h₀ a (fdIn K a)) (hbind : ∀ us : List Value, us.length = ds.length → bindArgs (fdIn K a) ⟨us, []⟩ = pure (xs.zip us))
    (hx : xs.length = ds.length) (hnd : nodupS xs = true) (hk : xs.all (tgtOk (scIn K a)) = true) (r : Rets O ap k K a (xs.zip (ds.map .val)) d) : Ct prog w (n + 1) h₀ (.ref a) ds d := fun {h W vs} b al rl => by
  obtain ⟨σ', e⟩ := r
  exact call_ok (ex := []) (exD := []) o ok hF (by rw [List.append_nil]; exact hbind vs rl.length) (fun _ => rfl) hx hnd hk (blk_all hn o k (by rw [List.append_nil]; exact e)) (.inl rfl) b al rl
theorem us1 {q : List Value → Prop} (h : ∀ v, q [v]) : ∀ us : List Value, us.length = 1 → q us
  | [v], _ => h v
  | [], e => by simp at e
  | _ :: _ :: _, e => by simp at e
theorem us2 {q : List Value → Prop} (h : ∀ v u, q [v, u]) : ∀ us : List Value, us.length = 2 → q us
  | [v, u], _ => h v u
  | [], e => by simp at e
  | [_], e => by simp at e
  | _ :: _ :: _ :: _, e => by simp at e
theorem us3 {q : List Value → Prop} (h : ∀ v u t, q [v, u, t]) : ∀ us : List Value, us.length = 3 → q us
  | [v, u, t], _ => h v u t
  | [], e => by simp at e
  | [_], e => by simp at e
  | [_, _], e => by simp at e
  | _ :: _ :: _ :: _ :: _, e => by simp at e
end
end
section
theorem cat_fm {α : Type} {f : D → Option (List D)} {emb : α → D} {p : α → Bool} {q : α → D} : ∀ {xs : List α}, (∀ x ∈ xs, f (emb x) = some (if p x = true then [q x] else [])) → catD f (xs.map emb) = some ((xs.filter p).map q)
  | [], _ => rfl
  | x :: xs, h => by
    rw [List.map_cons]
    refine bnd (h x List.mem_cons_self) (bnd (cat_fm fun y m => h y (List.mem_cons_of_mem _ m)) ?_)
    rw [List.filter_cons]
    cases p x <;> rfl
theorem cat_m {α : Type} {f : D → Option (List D)} {emb : α → D} {q : α → D} : ∀ {xs : List α}, (∀ x ∈ xs, f (emb x) = some [q x]) → catD f (xs.map emb) = some (xs.map q)
  | [], _ => rfl
  | x :: xs, h => by
    rw [List.map_cons]
    exact bnd (h x List.mem_cons_self) (bnd (cat_m fun y m => h y (List.mem_cons_of_mem _ m)) rfl)
theorem f_foldI {α β : Type} {t : Vars → D → Option Vars} {b els : Vars → Option (Vars × Fl)} {emb : α → D} {S : β → Vars} {step : β → α → β} (I : β → Nat → Prop) {r} : ∀ {xs : List α} {y : β}, I y xs.length → (∀ y, ∀ x ∈ xs, ∀ n, I y (n + 1) → I (step y x) n ∧ ∃ σ1, t (S y) (emb x) = some σ1 ∧ b σ1 = some (S (step y x), .next)) →
    els (S (xs.foldl step y)) = r → forD t b els (xs.map emb) (S y) = r
  | [], y, _, _, h => h
  | x :: xs, y, i, hs, h => by
    obtain ⟨i', σ1, h1, h2⟩ := hs y x (by (first | exact List.mem_cons_self | exact List.mem_cons_of_mem _ List.mem_cons_self | decide | simp)) _ i
    rw [List.map_cons]
    exact f_next h1 h2 (f_foldI I i' (fun y z m n => hs y z (by simp [m]) n) h)
theorem b_end {f : Vars → Stmt → Option (Vars × Fl)} {σ σ' : Vars} (h : σ = σ') : blkD f [] σ = some (σ', .next) := by rw [h]; rfl
theorem clip_nat (m d n : Nat) : clip (some (m : Int)) d n = min m n := by
  show (max 0 (min (if (m : Int) < 0 then (m : Int) + n else m) (n : Int))).toNat = _
  rw [if_neg (Int.not_lt.mpr (Int.natCast_nonneg m)), Int.max_eq_right (Int.le_min.mpr ⟨Int.natCast_nonneg m, Int.natCast_nonneg n⟩)]
  rcases Nat.le_total m n with h | h
  · rw [Int.min_eq_left (Int.ofNat_le.mpr h), Nat.min_eq_left h]; rfl
  · rw [Int.min_eq_right (Int.ofNat_le.mpr h), Nat.min_eq_right h]; rfl
theorem slice_to {α : Type} (xs : List α) (m : Nat) : sliceD xs none (some (m : Int)) = xs.take m := by
  unfold sliceD
  rw [clip_nat]
  show (xs.take _).drop 0 = _
  rw [List.drop_zero, List.take_eq_take_iff]; (first | lia | omega)
theorem slice_from {α : Type} (xs : List α) (m : Nat) : sliceD xs (some (m : Int)) none = xs.drop m := by
  unfold sliceD
  rw [clip_nat]
  show (xs.take xs.length).drop _ = _
  rw [List.take_length]
  by_cases h : m ≤ xs.length
  · rw [Nat.min_eq_left h]
  · rw [Nat.min_eq_right (by (first | lia | omega)), List.drop_length, List.drop_eq_nil_of_le (by (first | lia | omega))]
theorem it_range {a b : Int} (h1 : -1000000 ≤ a) (h2 : a ≤ 1000000) (h3 : b ≤ 1000000) (h4 : -1000000 ≤ b) : iterD (.range a b 1) = some ((List.range (b - a).toNat).map fun (i : Nat) => D.int (a + i)) := by
  refine (if_pos ⟨by decide, by decide, h1, h2, h3, h4⟩).trans ?_
  unfold rangeL Builtin.Range.rangeSize
  rw [if_pos (by decide)]
  have e : (if a < b then (b - a - 1) / 1 + 1 else 0).toNat = (b - a).toNat := by
    split
    · simp only [Int.ediv_one]; (first | lia | omega)
    · (first | lia | omega)
  rw [e]
  congr 2
  funext i
  simp
theorem it_range0 {b : Int} (h3 : b ≤ 1000000) (h4 : -1000000 ≤ b) : iterD (.range 0 b 1) = some ((List.range b.toNat).map fun (i : Nat) => D.int i) := by
  rw [it_range (by decide) (by decide) h3 h4]
  simp
theorem it_rangeN {m : Nat} (h3 : m ≤ 1000000) : iterD (.range 0 (m : Int) 1) = some ((List.range m).map fun (i : Nat) => D.int i) := by
  rw [it_range0 (by (first | lia | omega)) (by (first | lia | omega))]; simp
theorem ints_map : ∀ xs : List Int, intsD (xs.map .int) = some xs
  | [] => rfl
  | x :: xs => by show (intsD (xs.map .int)).map (x :: ·) = _; rw [ints_map xs]; rfl
theorem strs_map : ∀ xs : List (List Nat), strsD (xs.map .str) = some xs
  | [] => rfl
  | x :: xs => by show (strsD (xs.map .str)).map (x :: ·) = _; rw [strs_map xs]; rfl
theorem ix_nat {i n : Nat} (h : i < n) : ix (i : Int) n = some i := by
  unfold ix
  rw [if_pos (by (first | lia | omega)), if_pos (by (first | lia | omega))]; simp
theorem item_map {α : Type} {q : α → D} {xs : List α} {i : Nat} {x : α} (hz : xs.length ≤ 1048576) (h : xs[i]? = some x) : itemD (.list (xs.map q)) (.int i) = some (q x) := by
  obtain ⟨hi, rfl⟩ := List.getElem?_eq_some_iff.mp h
  show (if (xs.map q).length ≤ 1048576 then _ else none) = _
  rw [List.length_map]
  rw [if_pos hz, ix_nat hi]
  simp [hi]
theorem item_list {ds : List D} {i : Nat} {d : D} (hz : ds.length ≤ 1048576) (h : ds[i]? = some d) : itemD (.list ds) (.int i) = some d := by
  obtain ⟨hi, rfl⟩ := List.getElem?_eq_some_iff.mp h
  show (if _ then _ else none) = _
  rw [if_pos hz, ix_nat hi]
  simp [hi]
theorem call_len {O : Orc} {ds : List D} (hz : ds.length ≤ 1048576) : applyD O (.cst (.builtin "len")) [.list ds] = some (.int ds.length) := by
  show (if ds.length ≤ 1048576 then some (D.int ds.length) else none) = _
  rw [if_pos hz]
theorem call_sum {O : Orc} {xs : List Int} : applyD O (.cst (.builtin "sum")) [.list (xs.map .int)] = some (.int xs.sum) := by
  show (intsD (xs.map .int)).bind (fun xs => some (D.int xs.sum)) = _
  rw [ints_map]; rfl
theorem cut_list {ds : List D} {lo hi : Option Int} (hz : ds.length ≤ 1048576) : cutD (.list ds) lo hi = some (.list (sliceD ds lo hi)) := if_pos hz
theorem cut_str {x : List Nat} {lo hi : Option Int} (hz : x.length ≤ 1048576) : cutD (.str x) lo hi = some (.str (sliceD x lo hi)) := if_pos hz
theorem sum_list {ds es : List D} (hz : ds.length + es.length ≤ 1048576) : binD .Add (.list ds) (.list es) = some (.list (ds ++ es)) := if_pos hz
theorem and_nat (a b : Nat) : Builtin.bitAnd (a : Int) (b : Int) = ((a &&& b : Nat) : Int) := by
  unfold Builtin.bitAnd
  rw [decide_eq_true (Int.natCast_nonneg a), decide_eq_true (Int.natCast_nonneg b)]
  simp
theorem not_nat (a : Nat) : Builtin.bitNot (a : Int) = -(a : Int) - 1 := by unfold Builtin.bitNot; (first | lia | omega)
theorem or_nat (a b : Nat) : Builtin.bitOr (a : Int) (b : Int) = ((a ||| b : Nat) : Int) := by
  unfold Builtin.bitOr Builtin.bitAnd
  rw [decide_eq_false (by rw [not_nat]; (first | lia | omega)), decide_eq_false (by rw [not_nat]; (first | lia | omega))]
  first | dsimp only | simp only
  unfold Builtin.bitNot
  have e1 : ∀ n : Nat, (-(-(n : Int) - 1) - 1).toNat = n := fun n => by (first | lia | omega)
  simp only [e1]
  (first | lia | omega)
theorem item_bytes {x : List UInt8} {i : Nat} {c : UInt8} (hz : x.length ≤ 1048576) (h : x[i]? = some c) : itemD (.bytes x) (.int i) = some (.int c.toNat) := by
  show (if _ then _ else none) = _
  rw [if_pos ⟨hz, by (first | lia | omega)⟩]
  simp [h]
theorem w_stop {t : Vars → Option Bool} {b : Vars → Option (Vars × Fl)} {k : Nat} {σ : Vars} (h : t σ = some false) : whileD t b (k + 1) σ = some (σ, .next) := by show (t σ).bind _ = _; rw [h]; rfl
theorem w_go {t : Vars → Option Bool} {b : Vars → Option (Vars × Fl)} {k : Nat} {σ σ1 : Vars} {r} (h : t σ = some true) (h1 : b σ = some (σ1, .next)) (h2 : whileD t b k σ1 = r) : whileD t b (k + 1) σ = r := by
  show (t σ).bind _ = r
  rw [h]
  show (b σ).bind _ = r
  rw [h1]; exact h2
theorem fits_map : ∀ {l : List Nat}, (∀ x ∈ l, x < 256) → (l.map fun (n : Nat) => ((n : Nat) : Int)).all (fun i => decide (0 ≤ i ∧ i < 256)) = true
  | [], _ => rfl
  | a :: l, h => by
    rw [List.map_cons, List.all_cons, fits_map fun x m => h x (by simp [m]), Bool.and_true, decide_eq_true_eq]
    have := h a (by (first | exact List.mem_cons_self | exact List.mem_cons_of_mem _ List.mem_cons_self | decide | simp))
    (first | lia | omega)
theorem call_bytes {O : Orc} {l : List Nat} (hz : l.length ≤ 1048576) (h : ∀ x ∈ l, x < 256) : applyD O (.cst (.type "bytes")) [.list (l.map fun (n : Nat) => D.int (n : Int))] = some (.bytes (l.map Nat.toUInt8)) := by
  have e : (l.map fun (n : Nat) => D.int (n : Int)) = (l.map fun (n : Nat) => ((n : Nat) : Int)).map D.int := by rw [List.map_map]; rfl
  show (if (l.map fun (n : Nat) => D.int (n : Int)).length ≤ 1048576 then some (l.map fun (n : Nat) => D.int (n : Int)) else none).bind (fun ds => (intsD ds).bind fun xs => if xs.all (fun i => decide (0 ≤ i ∧ i < 256)) = true then some (D.bytes (xs.map fun i => i.toNat.toUInt8)) else none) = _
  rw [if_pos (by simpa using hz)]
  show (intsD (l.map fun (n : Nat) => D.int (n : Int))).bind (fun xs => if xs.all (fun i => decide (0 ≤ i ∧ i < 256)) = true then some (D.bytes (xs.map fun i => i.toNat.toUInt8)) else none) = _
  rw [e, ints_map]
  show (if (l.map fun (n : Nat) => ((n : Nat) : Int)).all (fun i => decide (0 ≤ i ∧ i < 256)) = true then some (D.bytes ((l.map fun (n : Nat) => ((n : Nat) : Int)).map fun i => i.toNat.toUInt8)) else none) = _
  rw [if_pos (fits_map h), List.map_map]
  rfl
theorem bin_shr {i j : Int} (h : 0 ≤ j) : binD .RShift (.int i) (.int j) = some (.int (i / 2 ^ j.toNat)) := if_pos h
theorem bin_mul {i j : Int} (h : i.natAbs < 2 ^ 64) : binD .Mult (.int i) (.int j) = some (.int (i * j)) := if_pos h
theorem bin_mod {i j : Int} (h : 0 < j) : binD .Mod (.int i) (.int j) = some (.int (i % j)) := if_pos h
theorem bin_div {i j : Int} (h : 0 < j ∧ j < 1073741824) : binD .FloorDiv (.int i) (.int j) = some (.int (i / j)) := if_pos h
theorem bin_pow {i j : Int} (h : 0 ≤ j ∧ j ≤ 1000 ∧ i.natAbs < 2 ^ 64) : binD .Pow (.int i) (.int j) = some (.int (i ^ j.toNat)) := if_pos h
theorem bin_lmul {ds : List D} {j : Int} (h : 0 ≤ j ∧ j ≤ 64 ∧ ds.length ≤ 1000) : binD .Mult (.list ds) (.int j) = some (.list (List.replicate j.toNat ds).flatten) := if_pos h
end
section
section
variable {prog : Program} {w : World} {n : Nat} {Base : Heap → List Addr → Prop} {O : Orc} {k : Nat} {h : Heap} {W : List Addr} {env : Env} {sc : List (Str × NameKind)} {σ : Vars}
theorem asg_gv (o : OrcOK prog w n Base O) {x : Str} {q p : Pos} {v : Expr} {d : D} (hx : tgtOk sc x = true) (hv : ∀ {env V W0 X T h}, FS Base h V W0 X env sc T σ → Gv prog w n (V ++ W0) (eval v env) d h) (hs : ∀ env, swapsWith v (some (.Name x q)) p.line env = pure false) : PS prog w n Base (exec (.Assign [.Name x q] v p)) sc σ (setV σ x (.val d)) .next := by
  intro env V W0 X T A s Q E f am hq
  refine wpAny_Assign_Name (hv f A s _ E (Kp.refl _) am fun u h1 tk1 k1 r1 => ?_) (hs env)
  have f1 := f.kp o k1
  refine store_ok f1.eo f1.fra (tgt_2 hx) f1.tx fun h2 tk2 k2 F2 hv2 ho2 => ?_
  exact hq .next h2 tk2 ((Kw.of k1).trans (k2.less f.tv)) ⟨V, Gr.refl, f1.set o k2 F2 (tgt_1 hx) hv2 ho2 (BRep.st (b := .val d) k2.keep f1.fra (fun a m => List.mem_append_left _ (f.tv a m)) r1) fun ds a q => by cases q⟩
theorem kw_gv {id x : Str} {p r pos : Pos} {e ve : Expr} {a : Addr} {de dv d : D} (hf : Gv prog w n W (eval (.Name id p) env) (.cst (.ref a)) h) (he : Gv prog w n W (eval e env) de h) (hs : starred e = false) (hv : Gv prog w n W (eval ve env) dv h)
    (hfn : ∃ o fd, h.get? a = some o ∧ o.data = .func fd) (hc : ∀ h' u v, Kp h h' → Rep (fz h' W) de u → Rep (fz h' W) dv v → Gv prog w n W (call (.ref a) [u] [(x, v)]) d h') :
    Gv prog w n W (eval (.Call (.Name id p) [e] [⟨some x, ve, r⟩] pos) env) d h := by
  intro A s Q E hk am hq
  obtain ⟨o, fd, ho, hd⟩ := hfn
  refine wpAny_Call_Name_kw (hf A s _ E hk am fun fv h1 tk1 k1 r1 => ?_)
  have r1' : fv = .ref a := r1
  subst r1'
  refine callWith_function_kw (o := o) (fd := fd) (evalArgs_kw2 rfl ?_ (star_cons hs))
  rw [star_cons hs]
  refine spliced_cons (he A _ _ E (hk.trans k1) am fun u h2 tk2 k2 r2 => spliced_nil ?_)
  refine kwAll_cons (hv A _ _ E ((hk.trans k1).trans k2) am fun v h3 tk3 k3 r3 => kwAll_nil ⟨⟨?_, hd⟩, ?_⟩)
  · exact k3 _ _ (k2 _ _ (k1 _ _ (hk _ _ ho)))
  · exact hc h3 u v (((hk.trans k1).trans k2).trans k3) (Rep.mono (fz_mono k3) r2) r3 A _ Q E (Kp.refl _) am fun z h4 tk4 k4 r4 => hq z h4 tk4 (((k1.trans k2).trans k3).trans k4) r4

structure Bi (h₀ : Heap) (K : Frag) (a : Addr) (args : Args) (binds : List (Str × Value)) : Prop where
  to : ∀ s : Shared, Kp h₀ s.heap → BindsTo s (fdIn K a) args binds
theorem ct_gen {h₀ : Heap} {K : Frag} (hn : 1 ≤ n) (o : OrcOK prog w n (BaseAt h₀) O) {a : Addr} {xs : List Str} {ds : List D} {us : List Value} {args : Args} {d : D} {ap : List Str} (ok : FdOK (fdIn K a) (bodyIn K a)) (hF : FnAt h₀ a (fdIn K a)) (hbind : Bi h₀ K a args (xs.zip us))
    (hx : xs.length = ds.length) (hnd : nodupS xs = true) (hk : xs.all (tgtOk (scIn K a)) = true) (r : Rets O ap k K a (xs.zip (ds.map .val)) d) (b : BaseAt h₀ h W) (al : Al W h) (rl : RepL (fz h W) ds us) : Gv prog w (n + 1) W (PySem.call (.ref a) args.pos args.kw) d h := by
  obtain ⟨σ', e⟩ := r
  exact call_gen o ok hF hbind.to hx hnd hk (blk_all hn o k e) (.inl rfl) b al rl

theorem ct_ps {h₀ : Heap} {K : Frag} (o : OrcOK prog w n (BaseAt h₀) O) {a : Addr} {xs : List Str} {ds : List D} {us : List Value} {args : Args} {d : D} {σ' : Vars} (ok : FdOK (fdIn K a) (bodyIn K a)) (hF : FnAt h₀ a (fdIn K a)) (hbind : Bi h₀ K a args (xs.zip us))
    (hx : xs.length = ds.length) (hnd : nodupS xs = true) (hk : xs.all (tgtOk (scIn K a)) = true) (r : PS prog w n (BaseAt h₀) (execs (bodyIn K a)) (scIn K a) (xs.zip (ds.map .val)) σ' (.ret d)) (b : BaseAt h₀ h W) (al : Al W h) (rl : RepL (fz h W) ds us) : Gv prog w (n + 1) W (PySem.call (.ref a) args.pos args.kw) d h :=
  call_gen o ok hF hbind.to hx hnd hk r (.inl rfl) b al rl
end
end
section

end
section
noncomputable def enL (ds : List D) : List D := (List.range ds.length).map fun (i : Nat) => D.tuple [.int (i : Int), ds.getD i .none]
section
variable {prog : Program} {w : World} {n : Nat} {Base : Heap → List Addr → Prop} {O : Orc} {k : Nat} {h h' : Heap} {V W0 X T : List Addr} {env : Env} {sc : List (Str × NameKind)} {σ σ' : Vars}
theorem for_enum (o : OrcOK prog w n Base O) (hE : PE prog w n Base O k) {ts : List Expr} {kc : Nat} {tp : Pos} {fx : Str} {p1 p2 p : Pos} {src : Expr} {b els : List Stmt} {ds : List D} {fb fe : Vars → Option (Vars × Fl)} {fl : Fl}
    (hs : starred src = false) (hsc : sc.lookup fx = some .globalImplicit) (hgl : O.glob fx = some (.cst (.type "enumerate"))) (hi : evE O k sc σ src = some (.tuple ds))
    (hb : ∀ σ σ' fl, fb σ = some (σ', fl) → PS prog w n Base (execs b) sc σ σ' fl) (he : ∀ σ σ' fl, fe σ = some (σ', fl) → PS prog w n Base (execs els) sc σ σ' fl) (hf : forD (setT sc (.Tuple ts kc tp)) fb fe (enL ds) σ = some (σ', fl)) :
    PS prog w n Base (exec (.For (.Tuple ts kc tp) (.Call (.Name fx p1) [src] [] p2) b els p)) sc σ σ' fl := by
  intro env V W0 X T A s Q E f am hq
  have hs' : [src].any starred = false := by simp [hs]
  have hal : allSome (evE O k sc σ) [src] = some [.tuple ds] := by simp [allSome, hi]
  have hsrc : ∀ e ∈ [src], ∀ d h', Kp s.heap h' → evE O k sc σ e = some d → Gv prog w n (V ++ W0) (eval e env) d h' := fun e _ d h' kk q => (hE sc σ e d q env s.heap (V ++ W0) X f.eo f.cal f.vo f.al f.base f.xw).up kk
  refine wpAny_For (PyProof.Rows.Call_ (name_glob (W := V ++ W0) (h := s.heap) o f.base f.eo hsc hgl A s _ E (Kp.refl _) am fun fv h0 tk0 k0 r0 => ?_)) (fun x => rfl)
  have r0' : fv = .type "enumerate" := r0
  subst r0'
  refine PyProof.Rows.callWith_type (star_plain hs') (evargs_ok (h := s.heap) (n := n) (W := V ++ W0) hs' hsrc hal k0 am fun us hA tkA kA rA => ?_)
  obtain ⟨v, _, rfl, rv, rfl⟩ := rA
  obtain ⟨l, vs, rfl, qv, rl⟩ := rv
  obtain ⟨hT, hlW⟩ := tuple_of qv
  have hTo := hT
  obtain ⟨lo, hlo, -⟩ := hTo
  refine call_en hT fun h1 hen hit hsz k1 => ?_
  have kS : Kp s.heap hA := k0.trans kA
  have k01 : Kp s.heap h1 := kS.trans k1
  generalize hei : hA.objs.size = it at hen hit
  have hitn : hA.get? it = none := by rw [← hei]; exact size_none _
  have hen' : hA.get? (it + 1) = none := by rw [← hei]; exact ge_none (Nat.le_succ _)
  have hel : it + 1 ≠ it := Nat.succ_ne_self _
  have hli : l ≠ it := fun q => by first | exact dead2 (hitn) (q ▸ hlo) | (rw [q, hitn] at hlo; cases hlo)
  have hle : l ≠ it + 1 := fun q => by first | exact dead2 (hen') (q ▸ hlo) | (rw [q, hen'] at hlo; cases hlo)
  have DR := dr_tuple (prog := prog) (w := w) (A := A.in1) am.hd it l hli vs.toArray
  have WT := WalksT.enumerateD DR (it + 1) hel (by simp; exact Ne.symm hle) (by (first | exact List.mem_cons_self | exact List.mem_cons_of_mem _ List.mem_cons_self | decide | simp))
  have hlen : vs.toArray.size = ds.length := by simp [rl.length]
  rw [hlen] at WT
  have st0 : (∃ old, IsEnum h1 (it + 1) it ((0 : Nat) : Int) old) ∧ h1.IsTupleIter it l 0 ∧ h1.IsTuple l vs.toArray := ⟨⟨_, hen⟩, hit, hT.at fun ob e => k1 _ ob e⟩
  refine WT.self 0 _ _ _ st0 ?_
  have hJn : ∀ a ∈ [it + 1, it], hA.get? a = none := fun a m => by
    rcases List.mem_cons.mp m with rfl | m
    · exact hen'
    · rw [List.mem_singleton.mp m]; exact hitn
  have alive : ∀ {i : Nat} {h : Heap}, (((∃ old, IsEnum h (it + 1) it ((i : Nat) : Int) old) ∧ h.IsTupleIter it l i ∧ h.IsTuple l vs.toArray)) → ∀ a ∈ [it + 1, it], ∃ ob, h.get? a = some ob := fun {i h} st a m => by
    obtain ⟨⟨x, he1⟩, ⟨o1, e1, _⟩, _⟩ := st
    rcases List.mem_cons.mp m with rfl | m
    · exact ⟨_, he1⟩
    · rw [List.mem_singleton.mp m]; exact ⟨o1, e1⟩
  have hel2 : (enL ds).length = ds.length := by simp [enL]
  refine loop_d (s := s) o am (J := [it + 1, it]) (ds := enL ds) f kS k1 hJn (alive st0) (fun a m => ?_) WT.frame st0 (fun i d h' tk' V' hlt hd hst al sub K E1 E2 hK => ?_) (by rw [hel2]; exact WT.done) hb he hf hq
  · rcases List.mem_cons.mp m with rfl | m
    · exact .inl List.mem_cons_self
    · rcases List.mem_cons.mp m with rfl | m
      · exact .inl (List.mem_cons_of_mem _ List.mem_cons_self)
      · rw [List.mem_singleton.mp m]; exact .inr ⟨hlW, _, hlo⟩
  · have hlt : i < ds.length := by rw [← hel2]; exact hlt
    refine WT.item i _ _ _ hlt hst fun Tt vals h2 tk2 hP hge hTT hmid kk2 => ⟨_, rfl, WT.go ts kc tp i Tt _ _ _ hmid fun h3 st3 kk3 => ?_⟩
    have kJ : Kw [it + 1, it] h' h3 := ⟨fun b ob nb e => kk3 b ob nb (kk2 b ob nb e), fun a ⟨ob, e⟩ => by
      by_cases q : a ∈ [it + 1, it]
      · exact alive st3 a q
      · exact ⟨ob, kk3 a ob q (kk2 a ob q e)⟩⟩
    obtain ⟨tt, x, hx, rfl⟩ := hP
    obtain ⟨d', hdd, rd⟩ := rl.get (i := i) (v := x) (by simpa using hx)
    have hdi : (enL ds)[i]? = some (.tuple [.int (i : Int), d']) := by
      unfold enL; simp [hlt]
      exact (List.getElem?_eq_some_iff.mp hdd).2
    cases hdi.symm.trans hd
    have hTn : Tt ∉ V' ++ ([it + 1, it] ++ W0) := fun m => let ⟨ob, e⟩ := al Tt m; dead (ge_none hge) e
    exact hK _ h3 tk2 kJ st3 (rep_tuple (vs := [.int (i : Int) tt, x]) hTn (hTT.at fun ob e => kk3 _ ob (WT.apart i Tt _ hmid) e) ⟨_, _, rfl, ⟨tt, rfl⟩, _, _, rfl, Rep.mono (sub h3 kJ) rd, rfl⟩)
end
end
section
open Builtin Builtin.ObjectAttr
noncomputable def Ents : List DictEntry → List (Str × Value) → Prop
  | [], m => m = []
  | e :: es, m => ∃ x v r t, m = (x, v) :: r ∧ e.key = .str x t ∧ e.val = v ∧ Ents es r
inductive DObj (h : Heap) (d : Addr) (m : List (Str × Value)) : Prop
  | mk (es n) (get : h.get? d = some (dictOf es n)) (ents : Ents es m)
noncomputable def setKV : List (Str × Value) → Str → Value → List (Str × Value)
  | [], x, v => [(x, v)]
  | (y, u) :: r, x, v => if y == x then (y, v) :: r else (y, u) :: setKV r x v
theorem ents_len : ∀ {es : List DictEntry} {m : List (Str × Value)}, Ents es m → es.length = m.length
  | [], _, h => by cases h; rfl
  | e :: es, _, ⟨x, v, r, t, rfl, _, _, k⟩ => by simp [ents_len k]
theorem setKV_len (x : Str) (v : Value) : ∀ m : List (Str × Value), (setKV m x v).length ≤ m.length + 1
  | [] => Nat.le_refl _
  | (y, u) :: r => by
    show (if y == x then (y, v) :: r else (y, u) :: setKV r x v).length ≤ _
    split
    · exact Nat.le_succ _
    · exact Nat.succ_le_succ (setKV_len x v r)
theorem ents_noref : ∀ {es : List DictEntry} {m : List (Str × Value)}, Ents es m → es.any (·.refKey) = false
  | [], _, _ => rfl
  | e :: es, _, ⟨x, v, r, t, _, hk, _, k⟩ => by
    rw [List.any_cons, ents_noref k, Bool.or_false]
    unfold DictEntry.refKey; rw [hk]
theorem ents_get (name : Str) : ∀ {es : List DictEntry} {m : List (Str × Value)}, Ents es m → getL name es = some (m.lookup name)
  | [], _, h => by cases h; rfl
  | e :: es, _, ⟨x, v, r, t, rfl, hk, hv, k⟩ => by
    have ih := ents_get name k
    have nr := ents_noref k
    have nr0 : e.refKey = false := by unfold DictEntry.refKey; rw [hk]
    unfold getL at ih ⊢
    have hs : e.key.isStr name = (x == name) := by rw [hk]; rfl
    rw [List.find?_cons, hs, List.lookup_cons]
    by_cases q : x = name
    · subst q
      simp only [beq_self_eq_true]
      rw [hv]
    · have q1 : (x == name) = false := beq_eq_false_iff_ne.mpr q
      have q2 : (name == x) = false := beq_eq_false_iff_ne.mpr (Ne.symm q)
      rw [q1, q2]
      rw [List.any_cons, nr0, Bool.false_or]
      exact ih
theorem ents_put (name : Str) (hsh : Int) (tk : Tok) (v : Value) : ∀ {es : List DictEntry} {m : List (Str × Value)}, Ents es m → Ents (putL name hsh (.str name tk) v es) (setKV m name v)
  | [], _, h => by cases h; exact ⟨name, v, [], tk, rfl, rfl, rfl, rfl⟩
  | e :: es, _, ⟨x, u, r, t, rfl, hk, hv, k⟩ => by
    have hs : e.key.isStr name = (x == name) := by rw [hk]; rfl
    unfold putL
    show Ents _ (if x == name then (x, v) :: r else (x, u) :: setKV r name v)
    rw [hs]
    split
    · exact ⟨x, v, r, t, rfl, hk, rfl, k⟩
    · exact ⟨x, u, _, t, rfl, hk, hv, ents_put name hsh tk v k⟩
theorem DObj.at' {h h' : Heap} {d : Addr} {m : List (Str × Value)} (x : DObj h d m) (k : ∀ o, h.get? d = some o → h'.get? d = some o) : DObj h' d m := let ⟨es, n, e, r⟩ := x; ⟨es, n, k _ e, r⟩
theorem DObj.fun {h : Heap} {d : Addr} {m m' : List (Str × Value)} (x : DObj h d m) (y : DObj h d m') : m = m' := by
  obtain ⟨es, n, e, r⟩ := x
  obtain ⟨es', n', e', r'⟩ := y
  first | exact dead2 (e) e' | exact dead2 e' (e) | (rw [e] at e'; cases e')
  clear e
  induction es generalizing m m' with
  | nil => cases r; cases r'; rfl
  | cons a l ih =>
    obtain ⟨x, v, q, t, rfl, hk, hv, z⟩ := r
    obtain ⟨x', v', q', t', rfl, hk', hv', z'⟩ := r'
    first | exact dead2 (hk) hk' | exact dead2 hk' (hk) | (rw [hk] at hk'; cases hk')
    first | exact dead2 (hv) hv' | exact dead2 hv' (hv) | (rw [hv] at hv'; cases hv')
    rw [ih z z']
theorem dictOf_put (name : Str) (hsh : Int) (tk : Tok) (v : Value) {h : Heap} {d : Addr} {m : List (Str × Value)} (x : DObj h d m) : DObj (h.update d (Obj.putName name hsh (.str name tk) v)) d (setKV m name v) := by
  obtain ⟨es, n, e, r⟩ := x
  refine ⟨putL name hsh (.str name tk) v es, putN name es n, ?_, ents_put name hsh tk v r⟩
  rw [Heap.get?_update_self _ e (by rw [putName_dict]; rfl), putName_dict]

section
variable {prog : Program} {w : World} {A : Around} {E : Value → Shared → Prop} {s : Shared} {K : Frag} {x C dx : Addr} {name : Str} {v : Value} {m : List (Str × Value)}
theorem inst_at {h : Heap} {es : List DictEntry} {n : Nat} (hx : h.get? x = some (instObj C dx)) (hd : h.get? dx = some (dictOf es n)) : InstAt h x (instObj C dx) C (some (dictOf es n)) := ⟨hx, rfl, rfl, hd⟩
theorem get_inst {expr : Bool} {Q : Value → Shared → Prop} (X : K.In s.heap) (hx : s.heap.get? x = some (instObj C dx)) (hd : DObj s.heap dx m) (hg : plainGet K C name = true) (hh : hasDictIn K C = true) (ha : findIn K (.ref C) name = some none)
    (hl : m.lookup name = some v) (hv : handedIn v = true) (h : Q v { s with toks := s.toks + 1 }) : wpAny (model prog w) A (getAttr (.ref x) name expr) Q E s := by
  obtain ⟨es, n, e, r⟩ := hd
  exact get_value X (inst_at hx e) (plainGet_of hg).1 (findObj_own hh ha rfl (by rw [lookIn_dict, ents_get name r, hl])) hv h
theorem meth_inst {pl : Sem Bool} {f : Addr} {Q : Value × List Value → Shared → Prop} (X : K.In s.heap) (hx : s.heap.get? x = some (instObj C dx)) (hd : DObj s.heap dx m) (hg : plainGet K C name = true) (hf : findIn K (.ref C) name = some (some (.ref f))) (ht : isFn K (.ref f) = true)
    (hl : m.lookup name = none) (h : Q (.ref f, [.ref x]) s) : wpAny (model prog w) A (getMethod (.ref x) name pl) Q E s := by
  obtain ⟨es, n, e, r⟩ := hd
  exact method_fn X (inst_at hx e) (plainGet_of hg).1 (plainGet_of hg).2 hf (beq_iff_eq.mp ht) (by show (lookIn name (dictOf es n)).map _ = _; rw [lookIn_dict, ents_get name r, hl]; rfl) h
theorem store_dict {d : Addr} {Q : Fin → Shared → Prop} {tk : Tok} (hd : DObj s.heap d m) (hz : m.length < 1000) (h : ∀ h' tk', Heap.SameBut d s.heap h' → DObj h' d (setKV m name v) → Q (.done (.ret .none)) { s with heap := h', toks := tk' }) :
    wpAny (model prog w) A (storeInDict d (.str name tk) name v) Q E s := by
  have hd' := hd
  obtain ⟨es, n, e, r⟩ := hd
  unfold storeInDict newKeyGuard
  refine wpAny_bind (wpAny_pure (wpAny_bind ?_))
  unfold nsSet
  refine wpAny_bind (wpAny_bind (wpAny_askSetting (wpAny_pure (wpAny_bind (wpAny_mkText (wpAny_bind (wpAny_loadPart e ?_)))))))
  dsimp only
  have c : (!es.toArray.any (·.key.isStr name) && es.toArray.any (·.refKey)) = false := by
    rw [← Array.any_toList (p := fun x : DictEntry => x.refKey), ents_noref r, Bool.and_false]
  rw [aRefKeyMayBeTheName_at, c]
  refine wpAny_updatePart e ?_
  have hp := dictOf_put name (PyData.keyHash w.params name) s.toks v hd'
  have hp' := hp
  obtain ⟨es', n', e', r'⟩ := hp
  refine wpAny_bind (wpAny_lookBehind e' (pastItsLine_dict ?_) ?_)
  · rw [List.size_toArray, ents_len r', sizeLine_eq]
    have := setKV_len name v m
    (first | lia | omega)
  · exact wpAny_pure (h _ _ (Heap.SameBut.update _ _ _) hp')
theorem set_inst {Q : Unit → Shared → Prop} (X : K.In s.heap) (hx : s.heap.get? x = some (instObj C dx)) (hd : DObj s.heap dx m) (hs : findIn K (.ref C) "__setattr__" = some (some (.builtin "object.__setattr__"))) (hp : plainOver K C = true) (ht : takerIn K C name = some none)
    (hh : hasDictIn K C = true) (hz : m.length < 1000) (h : ∀ h' tk', Heap.SameBut dx s.heap h' → DObj h' dx (setKV m name v) → Q () { s with heap := h', toks := tk' }) : wpAny (model prog w) A (setAttr (.ref x) name v) Q E s := by
  have hd' := hd
  obtain ⟨es, n, e, r⟩ := hd
  refine set_plain X (inst_at hx e) hs ?_
  refine osa_open (s := { s with toks := s.toks + 1 }) X (inst_at hx e) hp ht fun b => ?_
  obtain ⟨cd, hc, hcd⟩ := any_some hh
  unfold storeInOwnDict
  refine wpAny_bind (wpAny_pure (wpAny_bind ?_))
  unfold ownDictForStores instanceDict
  refine wpAny_bind (wpAny_loadPart (show ({ s with toks := s.toks + 1 } : Shared).heap.get? x = _ from hx) ?_)
  dsimp only
  refine wpAny_bind (looks_clsIn X hc _ _ _ _ (fun _ _ e => e) ?_)
  rw [hcd]
  refine wpAny_pure (a := some dx) ?_
  dsimp only
  exact store_dict (s := { s with toks := s.toks + 1 }) hd' hz fun h' tk' hs' hd'' => h h' tk' hs' hd''
end
end
section
open Builtin Builtin.ObjectAttr
theorem lk_fn {name : Str} (h : fastLookup "function" name = some none) : typeLookup (.type "function") name = pure none := by rw [typeLookup_type, builtinLookup_eq_fast, h]
theorem slot_fn_ga : Slot "function" "__getattribute__" "object.__getattribute__" :=
  .of (owner := "object") (n := "__getattribute__") (by rw [typeLookup_type, builtinLookup_eq_fast]; kernel_rfl) (by decide +kernel) (by decide +kernel) (by decide +kernel)
    (by first | exact .inl (by decide +kernel) | exact .inr (by decide +kernel)) (by rw [isSubtype_type]; kernel_rfl)
theorem slot_fn_sa : Slot "function" "__setattr__" "object.__setattr__" :=
  .of (owner := "object") (n := "__setattr__") (by rw [typeLookup_type, builtinLookup_eq_fast]; kernel_rfl) (by decide +kernel) (by decide +kernel) (by decide +kernel)
    (by first | exact .inl (by decide +kernel) | exact .inr (by decide +kernel)) (by rw [isSubtype_type]; kernel_rfl)
theorem sub_fn_static : isSubtype (.type "function") (.type "staticmethod") = pure false := by rw [isSubtype_type]; kernel_rfl
theorem sub_fn_classm : isSubtype (.type "function") (.type "classmethod") = pure false := by rw [isSubtype_type]; kernel_rfl
theorem canon_oga : (Manifest.canonical "object.__getattribute__" != "object.__getattribute__") = false := by decide +kernel
theorem mro_fn : mroOf (.type "function") = pure [.type "function", .type "object"] := by kernel_rfl
theorem pass_fn (self : Value) : refuseLoop self "__setattr__" [.type "function", .type "object"] = pure () := by kernel_rfl
theorem fn_hasDict : typeHasDict (.type "function") = true := by decide +kernel
theorem fn_noFin : finalisedInACycleAlone "function" = false := by decide +kernel

noncomputable def fnObj (fd : FuncData) (d : Option Addr) : Obj := { cls := .type "function", dict := d, data := .func fd }
section
variable {prog : Program} {w : World} {A : Around} {E : Value → Shared → Prop} {h : Heap} {g : Array GenState} {dr : Drawn} {t : Nat} {os : OsState} {f df : Addr} {fd : FuncData} {name : Str} {v : Value} {m : List (Str × Value)}
theorem nsGet_d {M : Model} {Q : Option Value → Shared → Prop} (hd : DObj h df m) (hq : Q (m.lookup name) ⟨h, g, dr, t, os⟩) : wpAny M A (nsGet df name) Q E ⟨h, g, dr, t, os⟩ := by
  obtain ⟨es, n, e, r⟩ := hd
  refine wpAny_bind (wpAny_loadPart e ?_)
  rw [nsLook_of (o := dictOf es n) (r := m.lookup name) (by rw [lookIn_dict, ents_get name r])]
  exact wpAny_pure hq
theorem fn_entry {tk : Tok} {Q : Fin → Shared → Prop} (hf : h.get? f = some (fnObj fd (some df))) (hd : DObj h df m) (hn : fastLookup "function" name = some none) (hv : m.lookup name = some v)
    (hq : Q (.done (.ret v)) ⟨h, g, dr, t, os⟩) : wpAny (model prog w) A (Builtin.«object.__getattribute__» ⟨[.ref f, .str name tk], []⟩) Q E ⟨h, g, dr, t, os⟩ := by
  have hT : (⟨h, g, dr, t, os⟩ : Shared).TypeIs (.ref f) "function" := ⟨_, hf, rfl⟩
  have hnm := lk_fn hn
  have f1 := sub_fn_static
  have f2 := sub_fn_classm
  have hf' := hf
  unfold fnObj at hf'
  have fin : ∀ Q' : Option Value → Shared → Prop, Q' (some v) ⟨h, g, dr, t, os⟩ → ∀ A E, wpAny (model prog w) A (nsGet df name) Q' E ⟨h, g, dr, t, os⟩ := fun Q' q A E => nsGet_d hd (by rw [hv]; exact q)
  repeat (any_goals (first | assumption | (with_reducible show wpAny _ _ (nsGet _ _) _ _ _); (refine fin _ ?_ _ _) | with_reducible apply PySem.Flt.wpAny_loadPart_known | wp_step))
theorem get_fn {ex : Bool} {Q : Value → Shared → Prop} (hf : h.get? f = some (fnObj fd (some df))) (hd : DObj h df m) (hn : fastLookup "function" name = some none) (hv : m.lookup name = some v) (hh : handedIn v = true)
    (hq : Q v ⟨h, g, dr, t + 1, os⟩) : wpAny (model prog w) A (getAttr (.ref f) name ex) Q E ⟨h, g, dr, t, os⟩ := by
  have hT : (⟨h, g, dr, t, os⟩ : Shared).TypeIs (.ref f) "function" := ⟨_, hf, rfl⟩
  have hT1 : (⟨h, g, dr, t + 1, os⟩ : Shared).TypeIs (.ref f) "function" := ⟨_, hf, rfl⟩
  have f1 := slot_fn_ga.lookup
  have f4 := slot_fn_ga.bind (.ref f)
  have hho := handedOut_of hh
  first | with_reducible exact ns ex | cases ex
  all_goals (
    repeat (any_goals (first | assumption | (rw [if_neg (show ¬ (true && onTheHeap (Value.builtin "object.__getattribute__")) = true by decide)]) | wp_step))
    refine codeAny_call_builtin slot_fn_ga.plain F.entry_object_getattribute (slot_fn_ga.check _ _ _ _ _ _ _ _ hT1 (F.args_object_getattribute_2 _ _) (fn_entry hf hd hn hv ?_))
    repeat (any_goals (first | assumption | wp_step)))
end
end
section
open Builtin Builtin.ObjectAttr
theorem lk_fn_gattr : typeLookup (.type "function") "__getattr__" = pure none := by rw [typeLookup_type, builtinLookup_eq_fast]; kernel_rfl
section
variable {prog : Program} {w : World} {A : Around} {E : Value → Shared → Prop} {h : Heap} {g : Array GenState} {dr : Drawn} {t : Nat} {os : OsState} {f df : Addr} {fd : FuncData} {name : Str} {v : Value} {m : List (Str × Value)}
theorem meth_fn {pl : Sem Bool} {Q : Value × List Value → Shared → Prop} (hf : h.get? f = some (fnObj fd (some df))) (hd : DObj h df m) (hn : fastLookup "function" name = some none) (hv : m.lookup name = some v) (hh : handedIn v = true)
    (hq : Q (v, []) ⟨h, g, dr, t + 1, os⟩) : wpAny (model prog w) A (getMethod (.ref f) name pl) Q E ⟨h, g, dr, t, os⟩ := by
  have hT : (⟨h, g, dr, t, os⟩ : Shared).TypeIs (.ref f) "function" := ⟨_, hf, rfl⟩
  unfold getMethod
  refine wpAny_bind (wpAny_specialOf hT slot_fn_ga.lookup ?_)
  show wpAny _ A (if (Manifest.canonical "object.__getattribute__" != "object.__getattribute__") = true then _ else _) Q E _
  rw [canon_oga, if_neg (by decide)]
  refine wpAny_bind (wpAny_specialOf hT lk_fn_gattr ?_)
  refine wpAny_bind (wpAny_specialOf hT (lk_fn hn) ?_)
  exact wpAny_bind (get_fn hf hd hn hv hh (wpAny_pure hq))
theorem set_fn {Q : Unit → Shared → Prop} (hf : h.get? f = some (fnObj fd (some df))) (hd : DObj h df m) (hn : fastLookup "function" name = some none) (hz : m.length < 1000)
    (hq : ∀ h' tk', Heap.SameBut df h h' → DObj h' df (setKV m name v) → Q () ⟨h', g, dr, tk', os⟩) : wpAny (model prog w) A (setAttr (.ref f) name v) Q E ⟨h, g, dr, t, os⟩ := by
  have SF := PySem.F.store_object
  have hT : ∀ t, (⟨h, g, dr, t, os⟩ : Shared).TypeIs (.ref f) "function" := fun _ => ⟨_, hf, rfl⟩
  unfold setAttr callSpecial?
  refine wpAny_bind (wpAny_mkText (wpAny_bind (wpAny_bind (wpAny_specialOf (hT _) slot_fn_sa.lookup (wpAny_holding ?_)))))
  rw [slot_fn_sa.bind]
  refine wpAny_bind (wpAny_pure (wpAny_bind (wpAny_call ?_)))
  refine codeAny_call_builtin slot_fn_sa.plain SF.entry (slot_fn_sa.check _ _ _ _ _ _ _ _ (hT _) (SF.args _ _ _) ?_)
  show wpAny _ _ (Builtin.«object.__setattr__» ⟨[.ref f, .str name t, v], []⟩) _ _ _
  rw [osa_eq, refuse_eq]
  refine wpAny_bind (wpAny_bind (wpAny_typeOf (hT _) (wpAny_bind (wpAny_of_eq mro_fn ?_))))
  rw [pass_fn]
  refine wpAny_pure (wpAny_bind (wpAny_typeOf (hT _) (wpAny_bind (wpAny_of_eq (lk_fn hn) (wpAny_bind (wpAny_pure ?_))))))
  dsimp only
  unfold storeInOwnDict
  refine wpAny_bind (wpAny_pure (wpAny_bind ?_))
  unfold ownDictForStores instanceDict
  refine wpAny_bind (wpAny_loadPart hf ?_)
  dsimp only [fnObj]
  refine wpAny_pure (a := some df) ?_
  dsimp only
  exact store_dict hd hz fun h' tk' hs' hd' => wpAny_pure (wpAny_pure (hq h' tk' hs' hd'))
theorem set_fn0 {Q : Unit → Shared → Prop} (hf : h.get? f = some (fnObj fd none)) (hn : fastLookup "function" name = some none)
    (hq : ∀ h' tk' df, (∀ b o, b ≠ f → h.get? b = some o → h'.get? b = some o) → h.get? df = none → h'.get? f = some (fnObj fd (some df)) → DObj h' df [(name, v)] → Q () ⟨h', g, dr, tk', os⟩) : wpAny (model prog w) A (setAttr (.ref f) name v) Q E ⟨h, g, dr, t, os⟩ := by
  have SF := PySem.F.store_object
  have hT : ∀ t, (⟨h, g, dr, t, os⟩ : Shared).TypeIs (.ref f) "function" := fun _ => ⟨_, hf, rfl⟩
  unfold setAttr callSpecial?
  refine wpAny_bind (wpAny_mkText (wpAny_bind (wpAny_bind (wpAny_specialOf (hT _) slot_fn_sa.lookup (wpAny_holding ?_)))))
  rw [slot_fn_sa.bind]
  refine wpAny_bind (wpAny_pure (wpAny_bind (wpAny_call ?_)))
  refine codeAny_call_builtin slot_fn_sa.plain SF.entry (slot_fn_sa.check _ _ _ _ _ _ _ _ (hT _) (SF.args _ _ _) ?_)
  show wpAny _ _ (Builtin.«object.__setattr__» ⟨[.ref f, .str name t, v], []⟩) _ _ _
  rw [osa_eq, refuse_eq]
  refine wpAny_bind (wpAny_bind (wpAny_typeOf (hT _) (wpAny_bind (wpAny_of_eq mro_fn ?_))))
  rw [pass_fn]
  refine wpAny_pure (wpAny_bind (wpAny_typeOf (hT _) (wpAny_bind (wpAny_of_eq (lk_fn hn) (wpAny_bind (wpAny_pure ?_))))))
  dsimp only
  unfold storeInOwnDict
  refine wpAny_bind (wpAny_pure (wpAny_bind ?_))
  unfold ownDictForStores instanceDict
  refine wpAny_bind (wpAny_loadPart hf ?_)
  dsimp only [fnObj]
  rw [fn_hasDict]
  simp only [Bool.not_true, Bool.or_self, Bool.false_eq_true, if_false]
  refine wpAny_bind (wpAny_alloc (wpAny_bind ?_))
  refine wpAny_update (Heap.get?_push_of_some _ hf) ?_
  have nf : h.objs.size ≠ f := fun q => by first | exact dead2 (size_none) (q ▸ hf) | (rw [← q, size_none] at hf; cases hf)
  have ef : ((h.push emptyDict).update f fun o => { o with dict := some h.objs.size }).get? f = some (fnObj fd (some h.objs.size)) := Heap.get?_update_self _ (Heap.get?_push_of_some _ hf) rfl
  have ed : DObj ((h.push emptyDict).update f fun o => { o with dict := some h.objs.size }) h.objs.size [] := ⟨[], 0, (Heap.get?_update_ne _ _ _ _ nf).trans (Heap.get?_push_size _ rfl), rfl⟩
  have kp : ∀ b o, b ≠ f → h.get? b = some o → ((h.push emptyDict).update f fun o => { o with dict := some h.objs.size }).get? b = some o := fun b o n e => (Heap.get?_update_ne _ _ _ _ n).trans (Heap.get?_push_of_some _ e)
  unfold dictMade
  dsimp only
  rw [fn_noFin]
  simp only [Bool.false_eq_true, if_false]
  refine wpAny_pure (a := some h.objs.size) ?_
  dsimp only
  refine store_dict (name := name) (v := v) ed (by decide) fun h' tk' hs' hd' => wpAny_pure (wpAny_pure (hq h' tk' h.objs.size (fun b o n e => (hs'.2 b fun q => ?_).trans (kp b o n e)) (size_none _) ((hs'.2 f (Ne.symm nf)).trans ef) hd'))
  first | exact dead2 (size_none) (q ▸ e) | (rw [q, size_none] at e; cases e)
end
end
section
structure LamOK (fd : FuncData) (body : Expr) : Prop where
  body : fd.body = .expr body
  glob : fd.globals = mainGlobals
  blt : fd.builtins = builtinsNs
  kind : fd.scope.kind = .function
  co : fd.scope.isCoroutine = false
  gen : fd.scope.isGenerator = false
  noCell : fd.scope.names.all (fun p => p.2 != .cell) = true
section
variable {prog : Program} {w : World} {n : Nat} {O : Orc} {h₀ : Heap} {W : List Addr}
theorem call_enterC {a : Addr} {fd : FuncData} {body : List Stmt} {xs : List Str} {ds : List D} {us : List Value} {args : Args} {A : Around} {s : Shared} {R : Result → Shared → Prop} (ok : FdOK fd body) (hF : FnAt h₀ a fd)
    (hbind : ∀ s : Shared, Kp h₀ s.heap → BindsTo s fd args (xs.zip us)) (hx : xs.length = ds.length) (hnd : nodupS xs = true) (hk : xs.all (tgtOk fd.scope.names) = true)
    (b : BaseAt h₀ s.heap W) (al : Al W s.heap) (rl : RepL (fz s.heap W) ds us) (am : Amb A (n + 1))
    (hb : ∀ env T h1 tk1, env.code = fd.code → env.qual = fd.qualname ++ ".<locals>." → env.scope = fd.scope → Kp s.heap h1 → (∀ c ∈ T, s.heap.get? c = none) → FS (BaseAt h₀) h1 T W [] env fd.scope.names T (xs.zip (ds.map B.val)) → Amb (A.deeper env) n →
      ∀ E', wpAny (model prog w) (A.deeper env) (execs body env) (fun fl s' => R (.ok (.ret (match fl with | .ret v => v | _ => .none))) s') E' { s with heap := h1, toks := tk1 }) :
    codeAny (model prog w) A (.call (.ref a) args) R s := by
  obtain ⟨ob, hob, hdat⟩ := hF.obj
  have kS : Kp h₀ s.heap := b.1
  have rlS : RepL (fz s.heap W) ds us := rl
  have hlen : us.length = xs.length := by rw [rlS.length, hx]
  have hnames := zip_names (xs := xs) (us := us) hlen
  have htg : ∀ x ∈ xs, fd.scope.names.lookup x = some .local ∨ fd.scope.names.lookup x = some .cell := fun x m => tgt_2 (List.all_eq_true.mp hk x m)
  have hcn := fun x => cells_of_names x (names := fd.scope.names) (s.heap.objs.size + 1) ok.nd
  refine codeAny_call_function am.room (kS _ _ hob) hdat ok.co ok.gen ok.body (hF.code.keeps kS) (hbind s kS _ _ _ _ ?_)
  rw [ok.clo]
  refine wpAny_newFunctionEnv_cells ok.kind (fun x m => ?_) (fun env he s₁ C => ?_)
  · have mx : x.1 ∈ xs := by rw [← hnames]; exact List.mem_map.mpr ⟨x, m, rfl⟩
    rcases htg x.1 mx with q | q
    · exact .inl q
    · obtain ⟨c, e⟩ := (hcn x.1).1 q
      exact .inr ⟨q, by rw [e]; rfl⟩
  · have hE := he.symm
    refine ⟨hF.lim.keeps (fun c oc e => C.toInCall.keep c oc (kS c oc e)), codeAny_func ?_⟩
    obtain ⟨h1, tk1, rfl⟩ := C.toInCall.same
    have eloc : env.locals = s.heap.objs.size := by rw [← hE]; rfl
    have ecells : env.cells = cellsFrom (s.heap.objs.size + 1) fd.scope.names [] := by rw [← hE]; rfl
    have escope : env.scope = fd.scope := by rw [← hE]; rfl
    have eglob : env.globals = mainGlobals := by rw [← hE]; exact ok.glob
    have eblt : env.builtins = builtinsNs := by rw [← hE]; exact ok.blt
    have ekind : ∀ x, env.kindOf x = fd.scope.names.lookup x := fun x => by unfold Env.kindOf; rw [escope]
    have k1 : Kp s.heap h1 := C.toInCall.keep
    have nofree : ∀ x, fd.scope.names.lookup x ≠ some .free := fun x q => by
      have := List.all_eq_true.mp ok.noFree _ (mem_of_look q)
      simp at this
    have hcell : ∀ x, fd.scope.names.lookup x = some .cell → ∃ c, env.cells.lookup x = some c := fun x q => by rw [ecells]; exact (hcn x).1 q
    have hT : ∀ c ∈ env.locals :: fd.scope.names.filterMap (fun p => env.cells.lookup p.1), s.heap.get? c = none := fun c m => by
      rcases List.mem_cons.mp m with rfl | m
      · rw [eloc]; exact size_none _
      · obtain ⟨p, _, e⟩ := List.mem_filterMap.mp m
        have := C.above p.1 c (mem_of_look e)
        rw [eloc] at this
        exact ge_none (Nat.le_of_lt this)
    have eo : EnvOK env fd.scope.names := ⟨by rw [escope]; exact ok.kind, eglob, eblt, fun x q => (ekind x).trans q, fun x q => (ekind x).trans q, fun x q => (ekind x).trans q, fun x q => absurd q (nofree x), fun x q => by
      rcases q with q | q
      · exact hcell x q
      · exact absurd q (nofree x), fun y c e => Nat.ne_of_gt (C.above y c (mem_of_look e)), fun x y c e e' => name_of_addr C.apart (mem_of_look e) (mem_of_look e')⟩
    have cal : CellsAl h1 env := fun y c e => let ⟨oc, z, _⟩ := C.cell y c e; ⟨oc, z⟩
    have fra : Fra h1 env fd.scope.names (env.locals :: fd.scope.names.filterMap (fun p => env.cells.lookup p.1)) := ⟨⟨_, C.toInCall.ns⟩, List.mem_cons_self, fun x q => by
      obtain ⟨c, e⟩ := hcell x q
      exact ⟨c, _, e, List.mem_cons_of_mem _ (List.mem_filterMap.mpr ⟨_, mem_of_look q, e⟩), C.cell x c e⟩, fun c m => by
      rcases List.mem_cons.mp m with rfl | m
      · exact .inl ⟨_, C.toInCall.ns⟩
      · obtain ⟨p, _, e⟩ := List.mem_filterMap.mp m
        exact .inr ⟨_, C.cell p.1 c e⟩⟩
    have alS := al
    have hTn : ∀ c ∈ env.locals :: fd.scope.names.filterMap (fun p => env.cells.lookup p.1), c ∉ W := fun c m q => by
      obtain ⟨oc, e⟩ := alS c q
      first | exact dead2 (hT c m) e | exact dead2 e (hT c m) | (rw [hT c m] at e; cases e)
    have hsub : Sub (fz s.heap W) (fz h1 ((env.locals :: fd.scope.names.filterMap (fun p => env.cells.lookup p.1)) ++ W)) := fz_gr ⟨fun c m => List.mem_append_right _ m, fun c m => by
      rcases List.mem_append.mp m with m | m
      · exact .inr (hT c m)
      · exact .inl m⟩ k1
    have fs : FS (BaseAt h₀) h1 (env.locals :: fd.scope.names.filterMap (fun p => env.cells.lookup p.1)) W [] env fd.scope.names (env.locals :: fd.scope.names.filterMap (fun p => env.cells.lookup p.1)) (xs.zip (ds.map B.val)) := {
      eo := eo, cal := cal, fra := fra, tv := fun c m => m, tx := fun c _ => by simp, xw := fun c m => by cases m
      vw := hTn
      al := fun c m => by
        rcases List.mem_append.mp m with m | m
        · rcases fra.kinds c m with ⟨m', oc, es, ep, e, _⟩ | ⟨v', oc, e, _⟩
          · exact ⟨oc, e⟩
          · exact ⟨oc, e⟩
        · exact (alS.mono k1) c m
      vo := fun x bb e => by
        obtain ⟨dd, v, rfl, hv, rv, mx⟩ := zip_look rlS e
        refine ⟨tgt_1 (List.all_eq_true.mp hk x mx), v, ?_, Rep.mono hsub rv⟩
        have hnd' : nodupS ((xs.zip us).map (·.1)) = true := by rw [hnames]; exact hnd
        rcases htg x mx with q | q
        · exact .inl ⟨(ekind x).trans q, by simp, _, C.toInCall.ns, bindL_get ((ekind x).trans q) hnd' hv⟩
        · obtain ⟨c, ec⟩ := hcell x q
          refine .inr ⟨.inl ((ekind x).trans q), c, ec, by simp, ?_⟩
          have := C.cell x c ec
          rw [bindC_get (by rw [ekind x, q]; simp) hnd' hv] at this
          exact this
      ownV := fun x es c e => by
        obtain ⟨dd, v, q, _⟩ := zip_look rlS e
        first | with_reducible exact ns q | cases q
      apart := fun x y es es' c e => by
        obtain ⟨dd, v, q, _⟩ := zip_look rlS e
        first | with_reducible exact ns q | cases q
      base := b.up (fun c o _ e => k1 c o e) fun c m => by
        rcases List.mem_append.mp m with m | m
        · exact .inr (hT c m)
        · exact .inl m }
    exact hb env _ h1 tk1 (by rw [← hE]; rfl) (by rw [← hE]; rfl) escope k1 hT fs (am.deeper env) _
theorem call_enter {a : Addr} {fd : FuncData} {body : List Stmt} {xs : List Str} {ds : List D} {us : List Value} {args : Args} {A : Around} {s : Shared} {Q : Value → Shared → Prop} {E : Value → Shared → Prop} (ok : FdOK fd body) (hF : FnAt h₀ a fd)
    (hbind : ∀ s : Shared, Kp h₀ s.heap → BindsTo s fd args (xs.zip us)) (hx : xs.length = ds.length) (hnd : nodupS xs = true) (hk : xs.all (tgtOk fd.scope.names) = true)
    (b : BaseAt h₀ s.heap W) (al : Al W s.heap) (rl : RepL (fz s.heap W) ds us) (am : Amb A (n + 1))
    (hb : ∀ env T h1 tk1, env.code = fd.code → env.qual = fd.qualname ++ ".<locals>." → env.scope = fd.scope → Kp s.heap h1 → (∀ c ∈ T, s.heap.get? c = none) → FS (BaseAt h₀) h1 T W [] env fd.scope.names T (xs.zip (ds.map B.val)) → Amb (A.deeper env) n →
      ∀ E', wpAny (model prog w) (A.deeper env) (execs body env) (fun fl s' => Q (match fl with | .ret v => v | _ => .none) s') E' { s with heap := h1, toks := tk1 }) :
    wpAny (model prog w) A (call (.ref a) args.pos args.kw) Q E s :=
  wpAny_call (call_enterC ok hF hbind hx hnd hk b al rl am fun env T h1 tk1 e1 e2 e3 k hT f am' E' => hb env T h1 tk1 e1 e2 e3 k hT f am' E')

theorem lam_ok (hn : 1 ≤ n) (o : OrcOK prog w n (BaseAt h₀) O) {a : Addr} {fd : FuncData} {body : Expr} {x : Str} {d0 d : D} {u : Value} {fv : Vars} {k : Nat} {h : Heap} (ok : LamOK fd body) (hF : FnAt h₀ a fd)
    (hbind : ∀ s : Shared, Kp h₀ s.heap → BindsTo s fd ⟨[u], []⟩ [(x, u)]) (hx : okName x = true ∧ fd.scope.names.lookup x = some .local)
    (hfv : ∀ y bb, fv.lookup y = some bb → ∃ c d v, bb = .val d ∧ okName y = true ∧ fd.scope.names.lookup y = some .free ∧ fd.closure.lookup y = some c ∧ h.IsCell c (some v) ∧ Rep (fz h W) d v)
    (hcl : ∀ y, fd.scope.names.lookup y = some .free → ∃ c, fd.closure.lookup y = some c) (hca : ∀ y c, fd.closure.lookup y = some c → ∃ o, h.get? c = some o) (hcd : ∀ y z c, fd.closure.lookup y = some c → fd.closure.lookup z = some c → y = z)
    (he : evE O k fd.scope.names ((x, .val d0) :: fv) body = some d) (b : BaseAt h₀ h W) (al : Al W h) (r : Rep (fz h W) d0 u) : Gv prog w (n + 1) W (call (.ref a) [u]) d h := by
  intro A s Q E hks am hq
  obtain ⟨ob, hob, hdat⟩ := hF.obj
  have kS : Kp h₀ s.heap := b.1.trans hks
  have nc : ∀ p ∈ fd.scope.names, p.2 ≠ .cell := fun p m q => by
    have := List.all_eq_true.mp ok.noCell p m
    rw [q] at this; simp at this
  refine wpAny_call (kla_callFunE am.room (kS _ _ hob) hdat ok.co ok.gen ok.body (hF.code.keeps kS) (hbind s kS _ _ _ _ ?_))
  refine wpAny_newFunctionEnv nc (fun p m => by rw [List.mem_singleton.mp m]; exact hx.2) (fun h1 hns hsb => ⟨?_, kla_codeExpr ?_⟩) ok.kind
  · refine hF.lim.keeps fun c oc e => ?_
    refine (hsb.2 c fun q => ?_).trans (Heap.get?_push_of_some _ (kS _ _ e))
    have := kS _ _ e
    first | exact dead2 (size_none) (q ▸ this) | (rw [q, size_none] at this; cases this)
  · have k1 : Kp s.heap h1 := fun c oc e => (hsb.2 c fun q => by first | exact dead2 (size_none) (q ▸ e) | (rw [q, size_none] at e; cases e)).trans (Heap.get?_push_of_some _ e)
    generalize hE : newEnv fd.scope s.heap.objs.size fd.globals fd.closure (fd.qualname ++ ".<locals>.") (some a) fd.code none fd.builtins = env
    have eloc : env.locals = s.heap.objs.size := by rw [← hE]; rfl
    have ecells : env.cells = fd.closure := by rw [← hE]; rfl
    have escope : env.scope = fd.scope := by rw [← hE]; rfl
    have eglob : env.globals = mainGlobals := by rw [← hE]; exact ok.glob
    have eblt : env.builtins = builtinsNs := by rw [← hE]; exact ok.blt
    have ekind : ∀ x, env.kindOf x = fd.scope.names.lookup x := fun x => by unfold Env.kindOf; rw [escope]
    have nocell : ∀ x, fd.scope.names.lookup x ≠ some .cell := fun x q => nc _ (mem_of_look q) rfl
    have alS : Al W s.heap := al.mono hks
    have kh1 : Kp h h1 := hks.trans k1
    have cellAl : ∀ y c, env.cells.lookup y = some c → ∃ o, s.heap.get? c = some o := fun y c e => by
      rw [ecells] at e
      obtain ⟨oc, e'⟩ := hca y c e
      exact ⟨oc, hks _ _ e'⟩
    have eo : EnvOK env fd.scope.names := ⟨by rw [escope]; exact ok.kind, eglob, eblt, fun x q => (ekind x).trans q, fun x q => (ekind x).trans q, fun x q => absurd q (nocell x), fun x q => .inr ((ekind x).trans q), fun x q => by
      rcases q with q | q
      · exact absurd q (nocell x)
      · rw [ecells]; exact hcl x q, fun y c e q => absurd (cellAl y c e) (by rw [q, eloc, size_none]; simp), fun x y c e e' => by rw [ecells] at e e'; exact hcd x y c e e'⟩
    have gW : Gr h W (s.heap.objs.size :: W) := Gr.one (by
      cases q : h.get? s.heap.objs.size with
      | none => rfl
      | some oo => have := hks _ _ q; first | exact dead2 (size_none) this | exact dead2 this (size_none) | (rw [size_none] at this; cases this))
    have key : Gv prog w n (s.heap.objs.size :: W) (eval body env) d h1 := by
      refine (ev_all hn o k).1 fd.scope.names _ body d he env h1 (s.heap.objs.size :: W) [] eo (fun y c e => ?_) (fun y bb e => ?_) (fun c m => ?_) ?_ (fun c m => by cases m)
      · obtain ⟨oc, e'⟩ := cellAl y c e; exact ⟨oc, k1 _ _ e'⟩
      · rw [List.lookup_cons] at e
        cases q : y == x with
        | true =>
          first | exact dead2 (q) e | exact dead2 e (q) | (rw [q] at e; cases e)
          have := beq_iff_eq.mp q
          subst this
          refine ⟨hx.1, u, .inl ⟨(ekind y).trans hx.2, by simp, _, by rw [eloc]; exact hns, by simp [List.lookup_cons]⟩, Rep.mono (fz_gr gW kh1) r⟩
        | false =>
          rw [q] at e
          obtain ⟨c, dd, v, rfl, okn, hfr, hc, hcell, rv⟩ := hfv y bb e
          obtain ⟨oc, hoc, hod⟩ := hcell
          refine ⟨okn, v, .inr ⟨.inr ((ekind y).trans hfr), c, by rw [ecells]; exact hc, by simp, oc, kh1 _ _ hoc, hod⟩, Rep.mono (fz_gr gW kh1) rv⟩
      · rcases List.mem_cons.mp m with rfl | m
        · obtain ⟨oo, es, ep, e, _⟩ := hns
          exact ⟨oo, e⟩
        · exact (alS.mono k1) c m
      · exact b.up (fun c oc _ e => kh1 c oc e) gW.new
    refine key (A.deeper env) { s with heap := h1, toks := s.toks + 1 } _ _ (Kp.refl _) (am.deeper env) fun v h2 tk2 k2 r2 => ?_
    exact hq v h2 tk2 (k1.trans k2) (Rep.mono (fz_less fun c m => List.mem_cons_of_mem _ m) r2)
end
end
section
theorem fz_chg {h h' : Heap} {W : List Addr} {d : Addr} (k : Kk [d] h h') (hd : d ∈ W) : Sub (fz h W) (fz h' W) := fz_kw k fun a m => by rw [List.mem_singleton.mp m]; exact hd
theorem Holds.chg {h h' : Heap} {X : List Addr} {env : Env} {x : Str} {v : Value} {d : Addr} {T : List Addr} (k : Kk [d] h h') (lT : env.locals ∈ T) (hT : d ∉ T) (hnc : ∀ v, ¬ h.IsCell d v) (p : Holds h X env x v) : Holds h' X env x v := by
  rcases p with ⟨a, n, m, b, c⟩ | ⟨a, c, b, n, o, ho, e⟩
  · exact .inl ⟨a, n, m, b.at' fun o e => k _ o (fun q => hT (by rw [← List.mem_singleton.mp q]; exact lT)) e, c⟩
  · exact .inr ⟨a, c, b, n, o, k _ o (fun q => hnc _ (by rw [← List.mem_singleton.mp q]; exact ⟨o, ho, e⟩)) ho, e⟩
section
variable {prog : Program} {w : World} {n : Nat} {Base : Heap → List Addr → Prop} {O : Orc} {k : Nat} {h h' : Heap} {V W0 X T : List Addr} {env : Env} {sc : List (Str × NameKind)} {σ σ' : Vars}
theorem FS.touch (o : OrcOK prog w n Base O) (f : FS Base h V W0 X env sc T σ) {d : Addr} (k : Kk [d] h h') (lv : ∃ ob, h'.get? d = some ob) (hd : d ∈ V ++ W0) (hT : d ∉ T) (hnc : ∀ v, ¬ h.IsCell d v)
    (ho : ∀ x ds, σ.lookup x = some (.own ds) → ¬ Holds h X env x (.ref d)) : FS Base h' V W0 X env sc T σ := by
  have kw : Kw [d] h h' := ⟨k, fun b ⟨ob, e⟩ => by
    by_cases q : b = d
    · exact q ▸ lv
    · exact ⟨ob, k b ob (by simpa using q) e⟩⟩
  have hold : ∀ {x v}, Holds h X env x v → Holds h' X env x v := fun p => p.chg k f.fra.inT hT hnc
  exact {
    eo := f.eo, cal := f.cal.kw kw
    fra := f.fra.kw k fun a m q => hT (by rw [← List.mem_singleton.mp q]; exact m)
    tv := f.tv, tx := f.tx, xw := f.xw, vw := f.vw, al := f.al.kw kw
    vo := fun x b e => by
      obtain ⟨ok, v, hv, r⟩ := f.vo x b e
      refine ⟨ok, v, hold hv, ?_⟩
      cases b with
      | val dd => exact Rep.mono (fz_chg k hd) r
      | own ds =>
        obtain ⟨a, vs, m, rfl, g, ma, nx, rl⟩ := r
        exact ⟨a, vs, m, rfl, k _ _ (fun q => ho x ds e (by rw [← List.mem_singleton.mp q]; exact hv)) g, ma, nx, RepL.mono (fz_chg k hd) rl⟩
    ownV := fun x ds a q hv => by
      obtain ⟨ok, v, hv', r⟩ := f.vo x _ q
      have := (hold hv').one hv
      subst this
      exact f.ownV x ds a q hv'
    apart := fun x y ds es a q q' hx hy => by
      obtain ⟨_, v, hv, _⟩ := f.vo x _ q
      obtain ⟨_, u, hu, _⟩ := f.vo y _ q'
      have e1 := (hold hv).one hx
      have e2 := (hold hu).one hy
      subst e1; subst e2
      exact f.apart x y ds es a q q' hv hu
    base := o.up f.base (fun b ob nb e => k b ob (fun q => nb (by rw [List.mem_singleton.mp q]; exact hd)) e) fun a m => .inl m }
theorem DObj.noCell {h : Heap} {d : Addr} {m : List (Str × Value)} (x : DObj h d m) : ∀ v, ¬ h.IsCell d v := fun v ⟨o, e, q⟩ => by
  obtain ⟨es, n, e', _⟩ := x
  first | exact dead2 (e) e' | exact dead2 e' (e) | (rw [e] at e'; cases e'); cases q
theorem asg_attr (o : OrcOK prog w n Base O) {A : Around} {s : Shared} {Q : Flow → Shared → Prop} {E : Value → Shared → Prop} {y nm : Str} {p1 p2 p : Pos} {value : Expr} {x : Addr} {dv : D} (f : FS Base s.heap V W0 X env sc T σ) (am : Amb A n)
    (hy : σ.lookup y = some (.val (.cst (.ref x)))) (hv : Gv prog w n (V ++ W0) (eval value env) dv s.heap) (hs : swapsWith value (some (.Attribute (.Name y p1) nm p2)) p.line env = pure false)
    (hq : ∀ v h1 tk1, Kp s.heap h1 → Rep (fz h1 (V ++ W0)) dv v → FS Base h1 V W0 X env sc T σ → wpAny (model prog w) A (setAttr (.ref x) nm v) (fun _ => Q .next) E { s with heap := h1, toks := tk1 }) : wpAny (model prog w) A (exec (.Assign [.Attribute (.Name y p1) nm p2] value p) env) Q E s := by
  refine plainObj_wpAny_Assign_Attribute (hv A s _ E (Kp.refl _) am fun v h1 tk1 k1 r1 => ?_) hs
  have f1 := f.kp o k1
  refine name_val (h := h1) (W := V ++ W0) f1.eo.kind f1.vo hy A _ _ E (Kp.refl _) am fun u h2 tk2 k2 r2 => ?_
  first | with_reducible exact ns r2 | cases r2
  exact hq v h2 tk2 (k1.trans k2) (Rep.mono (fz_mono k2) r1) (f1.kp o k2)
noncomputable def lobj0 : Obj := { cls := .type "list", dict := none, data := .seq #[] 0, slots := #[] }
theorem asg_attrL (o : OrcOK prog w n Base O) {A : Around} {s : Shared} {Q : Flow → Shared → Prop} {E : Value → Shared → Prop} {y nm : Str} {p1 p2 p pl : Pos} {x : Addr} (f : FS Base s.heap V W0 X env sc T σ) (am : Amb A n)
    (hy : σ.lookup y = some (.val (.cst (.ref x)))) (hs : swapsWith (.List [] pl) (some (.Attribute (.Name y p1) nm p2)) p.line env = pure false)
    (hq : ∀ l h1 tk1, Kp s.heap h1 → s.heap.get? l = none → h1.get? l = some lobj0 → FS Base h1 V W0 X env sc T σ → wpAny (model prog w) A (setAttr (.ref x) nm (.ref l)) (fun _ => Q .next) E { s with heap := h1, toks := tk1 }) : wpAny (model prog w) A (exec (.Assign [.Attribute (.Name y p1) nm p2] (.List [] pl) p) env) Q E s := by
  refine plainObj_wpAny_Assign_Attribute (eval_empty ?_) hs
  have k1 : Kp s.heap (s.heap.push lobj0) := Kp.push _ _
  have f1 := f.kp o k1
  refine name_val (h := s.heap.push lobj0) (W := V ++ W0) f1.eo.kind f1.vo hy A { s with heap := s.heap.push lobj0 } _ E (Kp.refl _) am fun u h2 tk2 k2 r2 => ?_
  first | with_reducible exact ns r2 | cases r2
  exact hq s.heap.objs.size h2 tk2 (k1.trans k2) (size_none _) (k2 _ _ (Heap.get?_push_size _ rfl)) (f1.kp o k2)
end
end
section
section
variable {prog : Program} {w : World} {n : Nat} {Base : Heap → List Addr → Prop} {O : Orc} {k : Nat} {h h' : Heap} {V W0 X T : List Addr} {env : Env} {sc : List (Str × NameKind)} {σ σ' : Vars}
noncomputable def BodyX (prog : Program) (w : World) (n : Nat) (Base : Heap → List Addr → Prop) (env : Env) (sc : List (Str × NameKind)) (T M : List Addr) (t : Expr) (b : List Stmt) (ds : List D) {S : Type} (st : S → Vars) (J : Nat → S → Heap → List Addr → Prop) (Rt : Value → Heap → List Addr → Prop) : Prop :=
  ∀ (i : Nat) (d : D) (y : S) (σ1 : Vars) (V W0 X : List Addr) (A : Around) (s : Shared) (Q : Flow → Shared → Prop) (E : Value → Shared → Prop), ds[i]? = some d → setT sc t (st y) d = some σ1 → FS Base s.heap V W0 X env sc T σ1 → (∀ a ∈ M, a ∈ W0) → J i y s.heap (V ++ W0) → Amb A n →
    (∀ y' h' tk' V', Kw (M ++ V) s.heap h' → Gr s.heap V V' → FS Base h' V' W0 X env sc T (st y') → J (i + 1) y' h' (V' ++ W0) → Q .next { s with heap := h', toks := tk' }) →
    (∀ v h' tk', Kw (M ++ V) s.heap h' → Rt v h' W0 → Q (.ret v) { s with heap := h', toks := tk' }) → wpAny (model prog w) A (execs b env) Q E s
theorem for_x (o : OrcOK prog w n Base O) (hE : PE prog w n Base O k) {t i : Expr} {b : List Stmt} {p : Pos} {ds : List D} {M : List Addr} {S : Type} {st : S → Vars} {J : Nat → S → Heap → List Addr → Prop} {Rt : Value → Heap → List Addr → Prop} {y0 : S} (hp : plainSrc i = true) (hi : (evE O k sc (st y0) i).bind iterD = some ds)
    {A : Around} {s : Shared} {Q : Flow → Shared → Prop} {E : Value → Shared → Prop} (f : FS Base s.heap V W0 X env sc T (st y0)) (am : Amb A n) (hM : ∀ a ∈ M, a ∈ W0)
    (ht : ∀ (i : Nat) (d : D) (y : S), ds[i]? = some d → ∃ σ1, setT sc t (st y) d = some σ1)
    (stab : ∀ i y h h' W W', Sub (fz h W) (fz h' W') → (∀ a ∈ M, ∀ o, h.get? a = some o → h'.get? a = some o) → J i y h W → J i y h' W')
    (rstab : ∀ v h W W', (∀ a ∈ W, a ∈ W') → Rt v h W' → Rt v h W)
    (hb : BodyX prog w n Base env sc T M t b ds st J Rt) (hJ : J 0 y0 s.heap (V ++ W0))
    (hnext : ∀ y h' tk' V', Kw (M ++ V) s.heap h' → Gr s.heap V V' → FS Base h' V' W0 X env sc T (st y) → J ds.length y h' (V' ++ W0) → Q .next { s with heap := h', toks := tk' })
    (hret : ∀ v h' tk', Kw (M ++ V) s.heap h' → Rt v h' W0 → Q (.ret v) { s with heap := h', toks := tk' }) : wpAny (model prog w) A (exec (.For t i b [] p) env) Q E s := by
  obtain ⟨di, hdi, hit⟩ := bind_inv hi
  refine wpAny_For (hE sc (st y0) i di hdi env s.heap (V ++ W0) X f.eo f.cal f.vo f.al f.base f.xw A s _ E (Kp.refl _) am fun v h0 tk0 k0 r0 => ?_) (fun x => folded_ok hp)
  refine iter_ok r0 hit (Kp.refl _) fun I h1 k1 it => ?_
  refine walk_in it am fun L fp St hJn hJl hfp frame hst item done => loop_g (s := s) o am (JB := fun _ => False) (Rt := Rt) f k0 k1 hJn hJl hM hfp frame hst (fun i d h' tk' V' a1 a2 a3 a4 a5 => item t s i d h' tk' _ a1 a2 a3 a4 a5) done stab rstab (fun i d y _ _ hd _ => ht i d y hd)
    (fun i d y σ1 V' h3 tk3 Q' E' hd hσ1 f3 j nx _ rt => hb i d y σ1 V' (L ++ W0) (L ++ X) A { s with heap := h3, toks := tk3 } Q' E' hd hσ1 f3 (fun a m => List.mem_append_right _ (hM a m)) j am nx rt) hJ
    (fun y h' tk' V' kS g f2 j => codeAny_block (wpAny_execs_nil (hnext y h' tk' V' kS g f2 j))) (fun _ _ _ _ _ _ _ z => z.elim) hret
end
end
section
noncomputable abbrev S' (x : String) : Str := Str.ofString x
inductive InitB : List Stmt → Prop
  | mk (p1 p2 p3 p4 q1 q2 q3 q4 r1 r2 r3 r4 c3 t1 t2 t3 t4 c4) : InitB [.Assign [.Attribute (.Name (S' "self") p1) (S' "useragents") p2] (.List [] p3) p4, .Assign [.Attribute (.Name (S' "self") q1) (S' "rulelines") q2] (.List [] q3) q4,
    .Assign [.Attribute (.Name (S' "self") r1) (S' "delay") r2] (.Constant .none c3 r3) r4, .Assign [.Attribute (.Name (S' "self") t1) (S' "req_rate") t2] (.Constant .none c4 t3) t4]
structure EntK (K : Frag) (C fI : Addr) : Prop where
  makes : makesIn K C = true
  init : findIn K (.ref C) "__init__" = some (some (.ref fI))
  initT : typeIn K (.ref fI) = some (.type "function")
  pg : ∀ nm, plainGet K C nm = true
  hd : hasDictIn K C = true
  po : plainOver K C = true
  sa : findIn K (.ref C) "__setattr__" = some (some (.builtin "object.__setattr__"))
  a1 : findIn K (.ref C) (S' "useragents") = some none
  a2 : findIn K (.ref C) (S' "rulelines") = some none
  a3 : findIn K (.ref C) (S' "delay") = some none
  a4 : findIn K (.ref C) (S' "req_rate") = some none
  body : InitB (bodyIn K fI)
theorem taker_of {K : Frag} {C : Addr} {nm : Str} (h : findIn K (.ref C) nm = some none) : takerIn K C nm = some none := by unfold takerIn; rw [h]; rfl
section
variable {prog : Program} {w : World} {n : Nat} {O : Orc} {h₀ : Heap} {W : List Addr} {K : Frag} {C fI : Addr}
theorem Amb.call {A : Around} {n : Nat} (h : Amb A (n + 1)) (C : Addr) (vals : List Value) : Amb (A.under (.builtin "type.__call__" ⟨.ref C :: vals, []⟩)) n :=
  ⟨h.hd, by rw [depth_under_make]; have := h.dp; omega, by rw [units_under_make]; have := h.un; omega⟩
theorem entry_new (F : EntK K C fI) (X : K.In h₀) (hn : 1 ≤ n) (o : OrcOK prog w n (BaseAt h₀) O) (hfd : FdOK (fdIn K fI) (bodyIn K fI)) (hfn : FnAt h₀ fI (fdIn K fI)) (hbi : ∀ us : List Value, us.length = 1 → bindArgs (fdIn K fI) ⟨us, []⟩ = pure ([S' "self"].zip us))
    (hsc : [S' "self"].all (tgtOk (scIn K fI)) = true) {A : Around} {s : Shared} {Q : Value → Shared → Prop} {E : Value → Shared → Prop} (b : BaseAt h₀ s.heap W) (al : Al W s.heap) (am : Amb A (n + 2))
    (hq : ∀ x dx l1 l2 h' tk', Kp s.heap h' → (∀ a ∈ [x, dx, l1, l2], s.heap.get? a = none) → [x, dx, l1, l2].Nodup → h'.get? x = some (instObj C dx) → DObj h' dx [(S' "useragents", .ref l1), (S' "rulelines", .ref l2), (S' "delay", .none), (S' "req_rate", .none)] →
      h'.get? l1 = some lobj0 → h'.get? l2 = some lobj0 → Q (.ref x) { s with heap := h', toks := tk' }) : wpAny (model prog w) A (call (.ref C) []) Q E s := by
  refine wpAny_call ?_
  have X1 := X.keeps b.1
  obtain ⟨hh, g, d, t, os⟩ := s
  dsimp only at X1 b al hq ⊢
  refine make_core (makes_of X1 F.makes) (looks_findIn X1 F.init) (fun self => bind_fn X1 self F.initT) (.inl rfl) ?_
  generalize hxe : hh.objs.size + 1 = x
  generalize hde : hh.objs.size = dx at hxe
  have kp2 : Kp hh ((hh.push emptyDict).push (instObj C dx)) := (Kp.push _ _).trans (Kp.push _ _)
  have hx2 : ((hh.push emptyDict).push (instObj C dx)).get? x = some (instObj C dx) := by rw [← hxe, ← hde]; have := Heap.get?_push_size (hh.push emptyDict) (o := instObj C hh.objs.size) rfl; rwa [Heap.size_push] at this
  have hd2 : ((hh.push emptyDict).push (instObj C dx)).get? dx = some emptyDict := by rw [← hde]; exact Heap.get?_push_of_some _ (Heap.get?_push_size _ rfl)
  have hxn : hh.get? x = none := ge_none (by (first | lia | omega))
  have hdn : hh.get? dx = none := by rw [← hde]; exact size_none _
  generalize hH : (hh.push emptyDict).push (instObj C dx) = H2 at kp2 hx2 hd2
  have b2 : BaseAt h₀ H2 (dx :: W) := b.up (fun c o _ e => kp2 c o e) fun c m => by
    rcases List.mem_cons.mp m with rfl | m
    · exact .inr hdn
    · exact .inl m
  have al2 : Al (dx :: W) H2 := fun c m => by
    rcases List.mem_cons.mp m with rfl | m
    · exact ⟨_, hd2⟩
    · exact (al.mono kp2) c m
  refine call_enterC (n := n) (W := dx :: W) (xs := [S' "self"]) (ds := [.cst (.ref x)]) (us := [.ref x]) (args := ⟨[.ref x], []⟩) hfd hfn (fun s _ => BindsTo.of_eq (hbi [.ref x] rfl)) rfl rfl hsc b2 al2 ⟨_, _, rfl, rfl, rfl⟩ (Amb.call am C []) ?_
  intro env T h1 tk1 hec heq hes k1 hT f amD E'
  generalize hσ0 : (([S' "self"].zip (List.map B.val [D.cst (.ref x)])) : Vars) = σ0 at f
  generalize hsc0 : (fdIn K fI).scope.names = sc0 at f
  have hB := F.body
  generalize bodyIn K fI = bd at hB ⊢
  cases hB with
  | mk p1 p2 p3 p4 q1 q2 q3 q4 r1 r2 r3 r4 c3 t1 t2 t3 t4 c4 =>
  have hself : σ0.lookup (S' "self") = some (.val (.cst (.ref x))) := by rw [← hσ0]; rfl
  have noown : ∀ (y : Str) (ds : List D), σ0.lookup y = some (.own ds) → ∀ {P : Prop}, P := fun y ds e => by
    rw [← hσ0] at e
    obtain ⟨d, _, e⟩ := List.mem_map.mp (List.of_mem_zip (PySem.mem_of_lookup e)).2
    cases e
  have hda : ∀ {hA : Heap} {m : List (Str × Value)}, BaseAt h₀ hA (T ++ dx :: W) → DObj hA dx m → dx ∈ T ++ dx :: W ∧ (∀ v, ¬ hA.IsCell dx v) := fun _ hm => ⟨List.mem_append_right _ List.mem_cons_self, hm.noCell⟩
  have dT : dx ∉ T := fun m => by have := hT dx m; first | exact dead2 (hd2) this | exact dead2 this (hd2) | (rw [hd2] at this; cases this)
  have step : ∀ {hA hB : Heap}, FS (BaseAt h₀) hA T (dx :: W) [] env sc0 T σ0 → ∀ {m m' : List (Str × Value)}, DObj hA dx m → Heap.SameBut dx hA hB → DObj hB dx m' → FS (BaseAt h₀) hB T (dx :: W) [] env sc0 T σ0 ∧ (∀ a o, a ≠ dx → hA.get? a = some o → hB.get? a = some o) :=
    fun {hA hB} f {m m'} hm hs hm' => ⟨f.touch o (fun a ob na e => (hs.2 a (fun q => na (by rw [q]; exact List.mem_singleton.mpr rfl))).trans e) (let ⟨es, n, e, _⟩ := hm'; ⟨_, e⟩) (List.mem_append_right _ List.mem_cons_self) dT hm.noCell fun y ds e => noown y ds e, fun a ob na e => (hs.2 a na).trans e⟩
  have xd : x ≠ dx := by (first | lia | omega)
  have hx3 : h1.get? x = some (instObj C dx) := k1 _ _ hx2
  have hd3 : DObj h1 dx [] := ⟨[], 0, k1 _ _ hd2, rfl⟩
  have XX : ∀ {hA : Heap}, FS (BaseAt h₀) hA T (dx :: W) [] env sc0 T σ0 → K.In hA := fun f => X.keeps f.base.1
  -- the first
  refine wpAny_execs_cons (asg_attrL o f amD hself rfl fun l1 h2 tk2 k2 hl1 gl1 f2 => ?_)
  have hd4 := hd3.at' (fun ob e => k2 _ _ e)
  refine set_inst (s := ⟨h2, g, d, tk2, os⟩) (XX f2) (k2 _ _ hx3) hd4 F.sa F.po (taker_of F.a1) F.hd (by decide) fun h3 tk3 s3 hd5 => ?_
  obtain ⟨f3, k3⟩ := step f2 hd4 s3 hd5
  have z1 : (setKV [] (S' "useragents") (Value.ref l1)).length < 1000 := by have := setKV_len (S' "useragents") (.ref l1) []; simp only [List.length_nil] at this; (first | lia | omega)
  -- the second
  refine wpAny_execs_cons (asg_attrL (s := ⟨h3, g, d, tk3, os⟩) o f3 amD hself rfl fun l2 h4 tk4 k4 hl2 gl2 f4 => ?_)
  have hd6 := hd5.at' (fun ob e => k4 _ _ e)
  have hx4 : h4.get? x = some (instObj C dx) := k4 _ _ (k3 _ _ xd (k2 _ _ hx3))
  refine set_inst (s := ⟨h4, g, d, tk4, os⟩) (XX f4) hx4 hd6 F.sa F.po (taker_of F.a2) F.hd z1 fun h5 tk5 s5 hd7 => ?_
  obtain ⟨f5, k5⟩ := step f4 hd6 s5 hd7
  have z2 : (setKV (setKV [] (S' "useragents") (Value.ref l1)) (S' "rulelines") (Value.ref l2)).length < 1000 := by have := setKV_len (S' "useragents") (.ref l1) []; have := setKV_len (S' "rulelines") (.ref l2) (setKV [] (S' "useragents") (Value.ref l1)); simp only [List.length_nil] at *; (first | lia | omega)
  have z3 : (setKV (setKV (setKV [] (S' "useragents") (Value.ref l1)) (S' "rulelines") (Value.ref l2)) (S' "delay") Value.none).length < 1000 := by have := setKV_len (S' "useragents") (.ref l1) []; have := setKV_len (S' "rulelines") (.ref l2) (setKV [] (S' "useragents") (Value.ref l1)); have := setKV_len (S' "delay") .none (setKV (setKV [] (S' "useragents") (Value.ref l1)) (S' "rulelines") (Value.ref l2)); simp only [List.length_nil] at *; (first | lia | omega)
  -- the third
  refine wpAny_execs_cons (asg_attr (s := ⟨h5, g, d, tk5, os⟩) (dv := .none) o f5 amD hself (g_none _ _ _) rfl fun v3 h6 tk6 k6 r6 f6 => ?_)
  first | with_reducible exact ns r6 | cases r6
  have hd8 := hd7.at' (fun ob e => k6 _ _ e)
  have hx6 : h6.get? x = some (instObj C dx) := k6 _ _ (k5 _ _ xd hx4)
  refine set_inst (s := ⟨h6, g, d, tk6, os⟩) (XX f6) hx6 hd8 F.sa F.po (taker_of F.a3) F.hd z2 fun h7 tk7 s7 hd9 => ?_
  obtain ⟨f7, k7⟩ := step f6 hd8 s7 hd9
  -- the fourth
  refine wpAny_execs_cons (asg_attr (s := ⟨h7, g, d, tk7, os⟩) (dv := .none) o f7 amD hself (g_none _ _ _) rfl fun v4 h8 tk8 k8 r8 f8 => ?_)
  first | with_reducible exact ns r8 | cases r8
  have hd10 := hd9.at' (fun ob e => k8 _ _ e)
  have hx8 : h8.get? x = some (instObj C dx) := k8 _ _ (k7 _ _ xd hx6)
  refine set_inst (s := ⟨h8, g, d, tk8, os⟩) (XX f8) hx8 hd10 F.sa F.po (taker_of F.a4) F.hd z3 fun h9 tk9 s9 hd11 => ?_
  obtain ⟨f9, k9⟩ := step f8 hd10 s9 hd11
  refine wpAny_execs_nil ⟨rfl, ?_⟩
  have back : ∀ {a : Addr}, h1.get? a = none → hh.get? a = none := fun {a} e => by
    cases q : hh.get? a with
    | none => rfl
    | some ob => first | exact dead2 (k1 _ _ (kp2 _ _ q)) e | exact dead2 e (k1 _ _ (kp2 _ _ q)) | (rw [k1 _ _ (kp2 _ _ q)] at e; cases e)
  have up1 : ∀ {a : Addr} {ob : Obj}, a ≠ dx → h3.get? a = some ob → h9.get? a = some ob := fun {a ob} na e => k9 _ _ na (k8 _ _ (k7 _ _ na (k6 _ _ (k5 _ _ na (k4 _ _ e)))))
  have up0 : ∀ {a : Addr} {ob : Obj}, a ≠ dx → h1.get? a = some ob → h3.get? a = some ob := fun {a ob} na e => k3 _ _ na (k2 _ _ e)
  have l1d : l1 ≠ dx := fun q => by first | exact dead2 (k1 _ _ hd2) (q ▸ hl1) | (rw [q, k1 _ _ hd2] at hl1; cases hl1)
  have l1x : l1 ≠ x := fun q => by first | exact dead2 (hx3) (q ▸ hl1) | (rw [q, hx3] at hl1; cases hl1)
  have e2 : h3.get? l2 = none := hl2
  have l2d : l2 ≠ dx := fun q => by
    obtain ⟨es, nn, e, _⟩ := hd5
    first | exact dead2 (e) (q ▸ e2) | (rw [q, e] at e2; cases e2)
  have l2x : l2 ≠ x := fun q => by first | exact dead2 (up0 xd hx3) (q ▸ e2) | (rw [q, up0 xd hx3] at e2; cases e2)
  have l12 : l1 ≠ l2 := fun q => by first | exact dead2 (k3 _ _ l1d gl1) (q ▸ e2) | (rw [← q, k3 _ _ l1d gl1] at e2; cases e2)
  have bk2 : hh.get? l2 = none := by
    cases q : hh.get? l2 with
    | none => rfl
    | some ob => first | exact dead2 (up0 l2d (k1 _ _ (kp2 _ _ q))) e2 | exact dead2 e2 (up0 l2d (k1 _ _ (kp2 _ _ q))) | (rw [up0 l2d (k1 _ _ (kp2 _ _ q))] at e2; cases e2)
  refine hq x dx l1 l2 h9 tk9 (fun a ob e => ?_) (fun a m => ?_) ?_ (k9 _ _ xd hx8) hd11 (up1 l1d (k3 _ _ l1d gl1)) (k9 _ _ l2d (k8 _ _ (k7 _ _ l2d (k6 _ _ (k5 _ _ l2d gl2)))))
  · have na : a ≠ dx := fun q => by first | exact dead2 (hdn) (q ▸ e) | (rw [q, hdn] at e; cases e)
    exact up1 na (up0 na (k1 _ _ (kp2 _ _ e)))
  · simp only [List.mem_cons, List.not_mem_nil, or_false] at m
    rcases m with rfl | rfl | rfl | rfl
    · exact hxn
    · exact hdn
    · exact back hl1
    · exact bk2
  · simp only [List.nodup_cons, List.mem_cons, List.not_mem_nil, or_false, not_or, not_false_eq_true, List.nodup_nil, and_true]
    exact ⟨⟨xd, Ne.symm l1x, Ne.symm l2x⟩, ⟨Ne.symm l1d, Ne.symm l2d⟩, l12⟩
end
end
section
noncomputable def Tab (h : Heap) (W : List Addr) (P : Addr) (qual : Str) (pos : Pos) : Prop :=
  h.get? P = some (tabObj #[]) ∨ ∃ c', c' ∉ W ∧ h.get? P = some (tabObj #[rawInt pos.line, rawInt pos.col, .ref c']) ∧ h.CodeRec (.ref c') qual
theorem CodeRec_up {h h' : Heap} {W W' : List Addr} {c' : Addr} {qual : Str} (s : Sub (fz h W) (fz h' W')) (n : c' ∉ W) (r : h.CodeRec (.ref c') qual) : c' ∉ W' ∧ h'.CodeRec (.ref c') qual := by
  obtain ⟨c2, o, vs, t, e, ho, hd, hv⟩ := r
  first | with_reducible exact ns e | cases e
  obtain ⟨a, b⟩ := fz_some.mp (s _ _ (fz_some.mpr ⟨n, ho⟩))
  exact ⟨a, _, o, vs, t, rfl, b, hd, hv⟩
theorem Tab.up {h h' : Heap} {W W' : List Addr} {P : Addr} {qual : Str} {pos : Pos} (s : Sub (fz h W) (fz h' W')) (k : ∀ o, h.get? P = some o → h'.get? P = some o) (x : Tab h W P qual pos) : Tab h' W' P qual pos := by
  rcases x with x | ⟨c', n, e, r⟩
  · exact .inl (k _ x)
  · obtain ⟨a, b⟩ := CodeRec_up s n r
    exact .inr ⟨c', a, k _ e, b⟩
theorem Tab.live {h : Heap} {W : List Addr} {P : Addr} {qual : Str} {pos : Pos} (x : Tab h W P qual pos) : ∃ o, h.get? P = some o := by
  rcases x with x | ⟨c', _, e, _⟩
  · exact ⟨_, x⟩
  · exact ⟨_, e⟩
theorem Tab.noCell {h : Heap} {W : List Addr} {P : Addr} {qual : Str} {pos : Pos} (x : Tab h W P qual pos) : ∀ v, ¬ h.IsCell P v := fun v ⟨o, e, q⟩ => by
  rcases x with x | ⟨c', _, e', _⟩
  · first | exact dead2 (x) e | exact dead2 e (x) | (rw [x] at e; cases e); cases q
  · first | exact dead2 (e') e | exact dead2 e (e') | (rw [e'] at e; cases e); cases q
inductive Bm (h : Heap) (mg : Str → Option Value) : Prop
  | mk (bm ob) (a : mg "__builtins__" = some (.ref bm)) (b : bm ≠ builtinsNs) (c : h.get? bm = some ob) (d : ob.cls = .type "module") (e : ob.dict = some builtinsNs) (f : ob.data = .plain)
section
variable {prog : Program} {w : World} {A : Around} {E : Value → Shared → Prop} {s : Shared} {name qual : Str} {params : Arguments} {body : Expr} {scope : Scope} {env : Env} {c P : Addr} {pos : Pos} {firstLine : Nat} {mg : Str → Option Value}
  {clos : List (Str × Addr)} {Q : Value → Shared → Prop} {h₀ : Heap} {W : List Addr}
theorem lam_made (hcl : closureFor scope env = pure clos) (hge : env.globals = mainGlobals) (hg : h₀.Ns mainGlobals mg) (hcode : env.code = .ref c) (C : CodeHd h₀ c P) (bm : Bm h₀ mg) (b : BaseAt h₀ s.heap W) (al : Al W s.heap) (hPW : P ∈ W) (hT : Tab s.heap W P qual pos)
    (hq : ∀ f c' ctv hA h' tk', Kk [P] s.heap hA → (∃ o, hA.get? P = some o) → hA.get? f = none → Kp hA h' → h'.get? f = some (fnObj (kla_fn name qual params body scope clos ((mg "__name__").getD .none) (.ref c') ctv) none) → c' ∉ W → h'.CodeRec (.ref c') qual → Tab h' W P qual pos →
      Q (.ref f) { s with heap := h', toks := tk' }) : wpAny (model prog w) A (makeFunction name qual params (.expr body) scope env [] [] [] pos firstLine) Q E s := by
  have P0 : h₀.get? P = none := b.2 P hPW
  obtain ⟨bmA, ob, b1, b2, b3, b4, b5, b6⟩ := bm
  have hgP : mainGlobals ≠ P := fun q => by
    obtain ⟨o, es, ep, e, hd, _⟩ := hg
    first | exact dead2 (P0) (q ▸ e) | (rw [q, P0] at e; cases e)
  have hbP : bmA ≠ P := fun q => by first | exact dead2 (P0) (q ▸ b3) | (rw [q, P0] at b3; cases b3)
  have hbG : bmA ≠ mainGlobals := fun q => by
    obtain ⟨o, es, ep, e, hd, _⟩ := hg
    first | exact dead2 (e) (q ▸ b3) | (rw [q, e] at b3; cases b3); first | exact dead2 (hd) b6 | exact dead2 b6 (hd) | (rw [hd] at b6; cases b6)
  have hb : s.heap.BuiltinsAt mg P := ⟨bmA, ob, b1, b2, hbG, hbP, b.1 _ _ b3, b4, b5, b6⟩
  rcases hT with hT | ⟨c', nc, hT, hr⟩
  · refine kla_makeFunction (ps := #[]) (mg := mg) hcl hge (hg.keeps b.1) hcode (C.keeps b.1) hT trivial rfl hgP hb fun c' ctv h' tk hx hge hlt hrec htb => ?_
    have nc : c' ∉ W := fun m => by
      obtain ⟨o, e⟩ := al c' m
      exact absurd (Heap.lt_size e) (Nat.not_lt.mpr hge)
    have kp : Kp h' (h'.push (kla_obj name qual params body scope clos ((mg "__name__").getD .none) c' ctv)) := Kp.push _ _
    have hrec' : (h'.push (kla_obj name qual params body scope clos ((mg "__name__").getD .none) c' ctv)).CodeRec (.ref c') qual := by
      obtain ⟨c2, o, vs, t, e, ho, hd, hv⟩ := hrec
      first | with_reducible exact ns e | cases e
      exact ⟨_, o, vs, t, rfl, kp _ _ ho, hd, hv⟩
    exact hq h'.objs.size c' ctv h' _ tk (fun a o na e => hx a o (by simpa using na) e) ⟨_, htb⟩ (size_none _) kp (Heap.get?_push_size _ rfl) nc hrec' (.inr ⟨c', nc, kp _ _ (by simpa using htb), hrec'⟩)
  · refine kla_makeFunctionHit (ps := #[rawInt pos.line, rawInt pos.col, .ref c']) (cv := .ref c') (mg := mg) hcl hge (hg.keeps b.1) hcode (C.keeps b.1) hT (by simp [TriplesOk, rawInt]) (by simp [codeAmong, rawInt]) hb fun ctv h' tk hx hsz => ?_
    have kp : Kp s.heap (h'.push (kla_obj name qual params body scope clos ((mg "__name__").getD .none) c' ctv)) := fun a o e => Kp.push _ _ _ _ (hx a o e)
    have hr' : (h'.push (kla_obj name qual params body scope clos ((mg "__name__").getD .none) c' ctv)).CodeRec (.ref c') qual := by
      obtain ⟨c2, o, vs, t, e, ho, hd, hv⟩ := hr
      first | with_reducible exact ns e | cases e
      exact ⟨_, o, vs, t, rfl, kp _ _ ho, hd, hv⟩
    exact hq h'.objs.size c' ctv h' _ tk (fun a o na e => hx _ _ e) ⟨_, hx _ _ hT⟩ (size_none _) (Kp.push _ _) (Heap.get?_push_size _ rfl) nc hr' (.inr ⟨c', nc, kp _ _ hT, hr'⟩)
end
end
section
section
variable {prog : Program} {w : World} {n : Nat} {Base : Heap → List Addr → Prop} {O : Orc} {k : Nat} {h h' : Heap} {V W0 X T : List Addr} {env : Env} {sc : List (Str × NameKind)} {σ σ' : Vars}
theorem FS.touchG (o : OrcOK prog w n Base O) (f : FS Base h V W0 X env sc T σ) {V' : List Addr} (g : Gr h V V') {d : Addr} (k : Kk [d] h h') (lv : ∀ a ∈ V', ∃ ob, h'.get? a = some ob) (hd : d ∈ V ++ W0) (ld : ∃ ob, h'.get? d = some ob) (hT : d ∉ T) (hnc : ∀ v, ¬ h.IsCell d v)
    (ho : ∀ x ds, σ.lookup x = some (.own ds) → ¬ Holds h X env x (.ref d)) : FS Base h' V' W0 X env sc T σ := by
  have kw : Kw [d] h h' := ⟨k, fun b ⟨ob, e⟩ => by
    by_cases q : b = d
    · exact q ▸ ld
    · exact ⟨ob, k b ob (by simpa using q) e⟩⟩
  have hold : ∀ {x v}, Holds h X env x v → Holds h' X env x v := fun p => p.chg k f.fra.inT hT hnc
  have gW : Gr h (V ++ W0) (V' ++ W0) := ⟨fun a m => by
    rcases List.mem_append.mp m with m | m
    · exact List.mem_append_left _ (g.sub a m)
    · exact List.mem_append_right _ m, fun a m => by
    rcases List.mem_append.mp m with m | m
    · rcases g.new a m with q | q
      · exact .inl (List.mem_append_left _ q)
      · exact .inr q
    · exact .inl (List.mem_append_right _ m)⟩
  have sub : Sub (fz h (V ++ W0)) (fz h' (V' ++ W0)) := fun a ob q => by
    obtain ⟨na, e⟩ := fz_some.mp q
    refine fz_some.mpr ⟨fun z => ?_, k _ _ (fun z => na (by rw [List.mem_singleton.mp z]; exact hd)) e⟩
    rcases gW.new a z with z | z
    · exact na z
    · first | exact dead2 (z) e | exact dead2 e (z) | (rw [z] at e; cases e)
  exact {
    eo := f.eo, cal := f.cal.kw kw
    fra := f.fra.kw k fun a m q => hT (by rw [← List.mem_singleton.mp q]; exact m)
    tv := fun a m => g.sub a (f.tv a m), tx := f.tx, xw := fun a m => gW.sub a (f.xw a m)
    vw := fun a m q => by
      rcases g.new a m with z | z
      · exact f.vw a z q
      · obtain ⟨ob, e⟩ := f.al a (List.mem_append_right _ q)
        first | exact dead2 (z) e | exact dead2 e (z) | (rw [z] at e; cases e)
    al := fun a m => by
      rcases List.mem_append.mp m with m | m
      · exact lv a m
      · exact (f.al.kw kw) a (List.mem_append_right _ m)
    vo := fun x b e => by
      obtain ⟨ok, v, hv, r⟩ := f.vo x b e
      refine ⟨ok, v, hold hv, ?_⟩
      cases b with
      | val dd => exact Rep.mono sub r
      | own ds =>
        obtain ⟨a, vs, m, rfl, g', ma, nx, rl⟩ := r
        exact ⟨a, vs, m, rfl, k _ _ (fun q => ho x ds e (by rw [← List.mem_singleton.mp q]; exact hv)) g', gW.sub a ma, nx, RepL.mono sub rl⟩
    ownV := fun x ds a q hv => by
      obtain ⟨ok, v, hv', r⟩ := f.vo x _ q
      have := (hold hv').one hv
      subst this
      exact g.sub a (f.ownV x ds a q hv')
    apart := fun x y ds es a q q' hx hy => by
      obtain ⟨_, v, hv, _⟩ := f.vo x _ q
      obtain ⟨_, u, hu, _⟩ := f.vo y _ q'
      have e1 := (hold hv).one hx
      have e2 := (hold hu).one hy
      subst e1; subst e2
      exact f.apart x y ds es a q q' hv hu
    base := o.up f.base (fun b ob nb e => k b ob (fun q => nb (by rw [List.mem_singleton.mp q]; exact hd)) e) gW.new }
theorem notOwn (f : FS Base h V W0 X env sc T σ) {d : Addr} (hc : ∀ o, h.get? d = some o → ∀ vs m, o.data ≠ .seq vs m) : ∀ x ds, σ.lookup x = some (.own ds) → ¬ Holds h X env x (.ref d) := fun x ds e hv => by
  obtain ⟨ok, v, hv', r⟩ := f.vo x _ e
  have := hv'.one hv
  subst this
  obtain ⟨a, vs, m, q, g, _⟩ := r
  first | with_reducible exact ns q | cases q
  exact hc _ g _ _ rfl
theorem fn_noCell {h : Heap} {f : Addr} {fd : FuncData} {d : Option Addr} (e : h.get? f = some (fnObj fd d)) : ∀ v, ¬ h.IsCell f v := fun v ⟨o, e', q⟩ => by first | exact dead2 (e) e' | exact dead2 e' (e) | (rw [e] at e'; cases e'); cases q
theorem fn_noSeq {h : Heap} {f : Addr} {fd : FuncData} {d : Option Addr} (e : h.get? f = some (fnObj fd d)) : ∀ o, h.get? f = some o → ∀ vs m, o.data ≠ .seq vs m := fun o e' vs m q => by first | exact dead2 (e) e' | exact dead2 e' (e) | (rw [e] at e'; cases e'); cases q
theorem dobj_noSeq {h : Heap} {f : Addr} {m : List (Str × Value)} (e : DObj h f m) : ∀ o, h.get? f = some o → ∀ vs m, o.data ≠ .seq vs m := fun o e' vs m q => by
  obtain ⟨es, n, e, _⟩ := e
  first | exact dead2 (e) e' | exact dead2 e' (e) | (rw [e] at e'; cases e'); cases q
theorem tab_noSeq {W : List Addr} {P : Addr} {qual : Str} {pos : Pos} (x : Tab h W P qual pos) : ∀ o, h.get? P = some o → ∀ vs m, o.data ≠ .seq vs m := fun o e' vs m q => by
  rcases x with x | ⟨c', _, x, _⟩
  · first | exact dead2 (x) e' | exact dead2 e' (x) | (rw [x] at e'; cases e'); cases q
  · first | exact dead2 (x) e' | exact dead2 e' (x) | (rw [x] at e'; cases e'); cases q
theorem fn_set0 (o : OrcOK prog w n Base O) {A : Around} {s : Shared} {Q : Unit → Shared → Prop} {E : Value → Shared → Prop} {fa : Addr} {fd : FuncData} {nm : Str} {v : Value} (f : FS Base s.heap V W0 X env sc T σ) (hf : s.heap.get? fa = some (fnObj fd none)) (hfV : fa ∈ V) (hfT : fa ∉ T)
    (hn : fastLookup "function" nm = some none)
    (hq : ∀ h' tk' df, FS Base h' (df :: V) W0 X env sc T σ → (∀ b ob, b ≠ fa → s.heap.get? b = some ob → h'.get? b = some ob) → s.heap.get? df = none → h'.get? fa = some (fnObj fd (some df)) → DObj h' df [(nm, v)] → Q () { s with heap := h', toks := tk' }) :
    wpAny (model prog w) A (setAttr (.ref fa) nm v) Q E s := by
  obtain ⟨hh, g, dr, t, os⟩ := s
  dsimp only at f hf hq
  refine set_fn0 hf hn fun h' tk' df kk hdn hf' hd' => hq h' tk' df ?_ kk hdn hf' hd'
  refine f.touchG o (Gr.one hdn) (d := fa) (fun a ob na e => kk a ob (by simpa using na) e) (fun a m => ?_) (List.mem_append_left _ hfV) ⟨_, hf'⟩ hfT (fn_noCell hf) (notOwn f (fn_noSeq hf))
  rcases List.mem_cons.mp m with rfl | m
  · obtain ⟨es, nn, e, _⟩ := hd'; exact ⟨_, e⟩
  · by_cases q : a = fa
    · exact ⟨_, q ▸ hf'⟩
    · obtain ⟨ob, e⟩ := f.al a (List.mem_append_left _ m)
      exact ⟨ob, kk _ _ q e⟩
theorem fn_set1 (o : OrcOK prog w n Base O) {A : Around} {s : Shared} {Q : Unit → Shared → Prop} {E : Value → Shared → Prop} {fa df : Addr} {fd : FuncData} {nm : Str} {v : Value} {m : List (Str × Value)} (f : FS Base s.heap V W0 X env sc T σ) (hf : s.heap.get? fa = some (fnObj fd (some df))) (hd : DObj s.heap df m) (hfV : df ∈ V ++ W0) (hfT : df ∉ T) (hz : m.length < 1000)
    (hn : fastLookup "function" nm = some none)
    (hq : ∀ h' tk', FS Base h' V W0 X env sc T σ → (∀ b ob, b ≠ df → s.heap.get? b = some ob → h'.get? b = some ob) → DObj h' df (setKV m nm v) → Q () { s with heap := h', toks := tk' }) :
    wpAny (model prog w) A (setAttr (.ref fa) nm v) Q E s := by
  obtain ⟨hh, g, dr, t, os⟩ := s
  dsimp only at f hf hd hq
  refine set_fn hf hd hn hz fun h' tk' hs hd' => hq h' tk' ?_ (fun b ob nb e => (hs.2 b nb).trans e) hd'
  exact f.touch o (d := df) (fun a ob na e => (hs.2 a (by simpa using na)).trans e) (let ⟨es, nn, e, _⟩ := hd'; ⟨_, e⟩) hfV hfT hd.noCell (notOwn f (dobj_noSeq hd))
end
section
variable {prog : Program} {w : World} {n : Nat} {O : Orc} {h₀ : Heap} {h : Heap} {V W0 X T : List Addr} {env : Env} {sc : List (Str × NameKind)} {σ : Vars}
theorem lam_eval (o : OrcOK prog w n (BaseAt h₀) O) {A : Around} {s : Shared} {Q : Value → Shared → Prop} {E : Value → Shared → Prop} {params : Arguments} {body : Expr} {scope : Scope} {pos : Pos} {c P : Addr} {mg : Str → Option Value} {clos : List (Str × Addr)} (f : FS (BaseAt h₀) s.heap V W0 X env sc T σ)
    (hdef : defaultsOf params env = ([], [])) (hcl : closureFor scope env = pure clos) (hg : h₀.Ns mainGlobals mg) (hcode : env.code = .ref c) (C : CodeHd h₀ c P) (bm : Bm h₀ mg) (hP : P ∈ V ++ W0) (hPT : P ∉ T) (hT : Tab s.heap (V ++ W0) P (env.qual ++ "<lambda>") pos)
    (hq : ∀ fa c' ctv h' tk', FS (BaseAt h₀) h' (fa :: V) W0 X env sc T σ → Kk [P] s.heap h' → s.heap.get? fa = none → h'.get? fa = some (fnObj (kla_fn "<lambda>" (env.qual ++ "<lambda>") params body scope clos ((mg "__name__").getD .none) (.ref c') ctv) none) → c' ∉ fa :: V ++ W0 → h'.CodeRec (.ref c') (env.qual ++ "<lambda>") →
      Tab h' (fa :: V ++ W0) P (env.qual ++ "<lambda>") pos → Q (.ref fa) { s with heap := h', toks := tk' }) : wpAny (model prog w) A (eval (.Lambda params body scope pos) env) Q E s := by
  refine kla_eval hdef (lam_made hcl f.eo.globals hg hcode C bm f.base f.al hP hT fun fa c' ctv hA h' tk' kA lA nA kp hf nc hr hT' => ?_)
  have fn : s.heap.get? fa = none := by
    cases q : s.heap.get? fa with
    | none => rfl
    | some ob =>
      have np : fa ∉ [P] := fun z => by
        obtain ⟨o', e⟩ := lA
        rw [← List.mem_singleton.mp z, nA] at e; cases e
      first | exact dead2 (kA _ _ np q) nA | exact dead2 nA (kA _ _ np q) | (rw [kA _ _ np q] at nA; cases nA)
  have kk : Kk [P] s.heap h' := fun a ob na e => kp _ _ (kA a ob na e)
  have lP : ∃ ob, h'.get? P = some ob := let ⟨ob, e⟩ := lA; ⟨ob, kp _ _ e⟩
  have f1 := f.touchG o (Gr.one fn) kk (fun a m => by
    rcases List.mem_cons.mp m with rfl | m
    · exact ⟨_, hf⟩
    · by_cases q : a = P
      · exact q ▸ lP
      · obtain ⟨ob, e⟩ := f.al a (List.mem_append_left _ m)
        exact ⟨ob, kk _ _ (by simpa using q) e⟩) hP lP hPT hT.noCell (notOwn f (tab_noSeq hT))
  have nc' : c' ∉ fa :: V ++ W0 := fun m => by
    rcases List.mem_cons.mp m with rfl | m
    · obtain ⟨c2, oo, vs, t, e, ho, hd, _⟩ := hr
      first | with_reducible exact ns e | cases e
      first | exact dead2 (hf) ho | exact dead2 ho (hf) | (rw [hf] at ho; cases ho); cases hd
    · exact nc m
  refine hq fa c' ctv h' tk' f1 kk fn hf nc' hr ?_
  rcases hT' with z | ⟨c2, n2, e2, r2⟩
  · exact .inl z
  · refine .inr ⟨c2, fun m => ?_, e2, r2⟩
    rcases List.mem_cons.mp m with rfl | m
    · obtain ⟨c3, oo, vs, t, e, ho, hd, _⟩ := r2
      first | with_reducible exact ns e | cases e
      first | exact dead2 (hf) ho | exact dead2 ho (hf) | (rw [hf] at ho; cases ho); cases hd
    · exact n2 m
end
end
section
noncomputable def lamQ (K : Frag) (a : Addr) : Str := (fdIn K a).qualname ++ ".<locals>." ++ "<lambda>"
theorem clos_nil {scope : Scope} {env : Env} (h : scope.names = []) : closureFor scope env = pure [] := by
  rw [clos_is (by rw [h]; intro p m; cases m), h]; rfl
theorem fl_at : fastLookup "function" (S' "applies_to") = some none := by decide +kernel
theorem fl_al : fastLookup "function" (S' "allowance") = some none := by decide +kernel
section
variable {prog : Program} {w : World} {n : Nat} {O : Orc} {h₀ : Heap} {W : List Addr} {K : Frag} {mg : Str → Option Value}
end
end
section
inductive LamX (g : Gh) (f : Addr) (qual : Str) (pr : Arguments) (bd : Expr) (sc : Scope) (pm : Value) (clos : List (Str × Addr)) : Prop
  | mk (c' ctv c o vs t) (a : g f = some (fnObj (kla_fn "<lambda>" qual pr bd sc clos pm (.ref c') ctv) none)) (b : c = c') (d : g c = some o) (e : o.data = .fields vs) (v : vs[1]? = some (.str qual t))
structure LamG (g : Gh) (f : Addr) (qual : Str) (pr : Arguments) (bd : Expr) (sc : Scope) (pm : Value) (clos : List (Str × Addr)) : Prop where
  fn : LamX g f qual pr bd sc pm clos
theorem LamG.up {g g' : Gh} {f : Addr} {qual : Str} {pr : Arguments} {bd : Expr} {sc : Scope} {pm : Value} {clos : List (Str × Addr)} (s : Sub g g') (x : LamG g f qual pr bd sc pm clos) : LamG g' f qual pr bd sc pm clos :=
  let ⟨c', ctv, c, o, vs, t, a, b, d, e, v⟩ := x.fn; ⟨⟨c', ctv, c, o, vs, t, s _ _ a, b, s _ _ d, e, v⟩⟩
inductive CellG (g : Gh) (c : Addr) (d : D) : Prop
  | mk (o v) (get : g c = some o) (dat : o.data = .cell (some v)) (rep : Rep g d v)
theorem CellG.up {g g' : Gh} {c : Addr} {d : D} (s : Sub g g') (x : CellG g c d) : CellG g' c d := let ⟨o, v, a, b, r⟩ := x; ⟨o, v, s _ _ a, b, Rep.mono s r⟩
structure LacksK (K : Frag) (aL cL : Addr) (lp : Pos) (pr : Arguments) (bd : Expr) (sc : Scope) : Prop where
  body : ∃ p, bodyIn K aL = [.Return (some (.Lambda pr bd sc lp)) p]
  names : sc.names = [(S' "name", .local), (S' "far", .free), (S' "kept", .free)]
  dft : ∀ env, defaultsOf pr env = ([], [])
  code : (fdIn K aL).code = .ref cL
  k1 : (scIn K aL).lookup (S' "kept") = some .cell
  k2 : (scIn K aL).lookup (S' "far") = some .cell
  hk : [S' "kept", S' "far"].all (tgtOk (scIn K aL)) = true
section
variable {prog : Program} {w : World} {n : Nat} {O : Orc} {h₀ : Heap} {W : List Addr} {K : Frag} {mg : Str → Option Value}
theorem lacks_made {aL cL PL : Addr} {lp : Pos} {pr : Arguments} {bd : Expr} {sc : Scope} (R : LacksK K aL cL lp pr bd sc) (o : OrcOK prog w n (BaseAt h₀) O) (hfd : FdOK (fdIn K aL) (bodyIn K aL)) (hfn : FnAt h₀ aL (fdIn K aL)) (hbi : ∀ us : List Value, us.length = 2 → bindArgs (fdIn K aL) ⟨us, []⟩ = pure ([S' "kept", S' "far"].zip us))
    (hg : h₀.Ns mainGlobals mg) (C : CodeHd h₀ cL PL) (bm : Bm h₀ mg) {A : Around} {s : Shared} {Q : Value → Shared → Prop} {E : Value → Shared → Prop} (b : BaseAt h₀ s.heap W) (al : Al W s.heap) (hP : PL ∈ W) (hT : Tab s.heap W PL (lamQ K aL) lp) {k v : Value} {dk dv : D} (rk : Rep (fz s.heap W) dk k) (rv : Rep (fz s.heap W) dv v) (am : Amb A (n + 1))
    (hq : ∀ f c1 c2 h' tk', Kk [PL] s.heap h' → s.heap.get? f = none → LamG (fz h' W) f (lamQ K aL) pr bd sc ((mg "__name__").getD .none) [(S' "kept", c1), (S' "far", c2)] → CellG (fz h' W) c1 dk → CellG (fz h' W) c2 dv → c1 ≠ c2 → Tab h' W PL (lamQ K aL) lp → Q (.ref f) { s with heap := h', toks := tk' }) :
    wpAny (model prog w) A (call (.ref aL) [k, v]) Q E s := by
  obtain ⟨p, hB⟩ := R.body
  refine call_enter (n := n) (xs := [S' "kept", S' "far"]) (ds := [dk, dv]) (us := [k, v]) (args := ⟨[k, v], []⟩) hfd hfn (fun s _ => BindsTo.of_eq (hbi [k, v] rfl)) rfl rfl R.hk b al ⟨_, _, rfl, rk, _, _, rfl, rv, rfl⟩ am ?_
  intro env T h1 tk1 hec heq hes k1 hTn f amD E'
  rw [hB]
  have eq : env.qual ++ "<lambda>" = lamQ K aL := by rw [heq]; rfl
  have sub1 : Sub (fz s.heap W) (fz h1 (T ++ W)) := fz_gr ⟨fun a m => List.mem_append_right _ m, fun a m => by
    rcases List.mem_append.mp m with m | m
    · exact .inr (hTn a m)
    · exact .inl m⟩ k1
  have hT1 : Tab h1 (T ++ W) PL (env.qual ++ "<lambda>") lp := by rw [eq]; exact hT.up sub1 fun o e => k1 _ _ e
  have PT : PL ∉ T := fun m => by
    obtain ⟨ob, e⟩ := al _ hP
    first | exact dead2 (hTn _ m) e | exact dead2 e (hTn _ m) | (rw [hTn _ m] at e; cases e)
  -- the cells
  have cell : ∀ (x : Str) (d : D), (scIn K aL).lookup x = some .cell → (([S' "kept", S' "far"].zip (List.map B.val [dk, dv])) : Vars).lookup x = some (.val d) → ∃ c v, env.cells.lookup x = some c ∧ c ∈ T ∧ h1.IsCell c (some v) ∧ Rep (fz h1 (T ++ W)) d v := fun x d hc hl => by
    obtain ⟨ok, v, hv, r⟩ := f.vo x _ hl
    obtain ⟨c, v0, e, mT, _⟩ := f.fra.own x hc
    rcases hv with ⟨a, _⟩ | ⟨_, c', e', _, hcell⟩
    · have := f.eo.cel x hc
      first | exact dead2 (a) this | exact dead2 this (a) | (rw [a] at this; cases this)
    · first | exact dead2 (e) e' | exact dead2 e' (e) | (rw [e] at e'; cases e')
      exact ⟨c, v, e, mT, hcell, r⟩
  obtain ⟨c1, v1, e1, m1, hc1, r1⟩ := cell (S' "kept") dk R.k1 rfl
  obtain ⟨c2, v2, e2, m2, hc2, r2⟩ := cell (S' "far") dv R.k2 rfl
  have c12 : c1 ≠ c2 := fun q => by
    have := f.eo.apart (S' "kept") (S' "far") c1 e1 (by rw [q]; exact e2)
    exact absurd this (by decide)
  have hcl : closureFor sc env = pure [(S' "kept", c1), (S' "far", c2)] := by
    rw [clos_is, R.names]
    · unfold clF
      simp only [show (NameKind.local == NameKind.free) = false from rfl, Bool.false_eq_true, if_false]
      unfold clF
      simp only [show (NameKind.free == NameKind.free) = true from rfl, if_true, e2, Option.getD_some]
      unfold clF
      simp only [show (NameKind.free == NameKind.free) = true from rfl, if_true, e1, Option.getD_some]
      rfl
    · rw [R.names]
      intro q m e
      simp only [List.mem_cons, List.not_mem_nil, or_false] at m
      rcases m with rfl | rfl | rfl
      · first | with_reducible exact ns e | cases e
      · exact ⟨_, e2⟩
      · exact ⟨_, e1⟩
  refine wpAny_execs_cons (wpAny_Return_some (lam_eval (s := { s with heap := h1, toks := tk1 }) o f (R.dft env) hcl hg (hec.trans R.code) C bm (List.mem_append_right _ hP) PT hT1 fun fa c' ctv h2 tk2 f2 kk2 nf2 hf2 nc2 hr2 hT2 => ?_))
  rw [eq] at hT2 hr2 hf2
  have back : ∀ {a : Addr}, h1.get? a = none → s.heap.get? a = none := fun {a} e => by
    cases q : s.heap.get? a with
    | none => rfl
    | some ob => first | exact dead2 (k1 _ _ q) e | exact dead2 e (k1 _ _ q) | (rw [k1 _ _ q] at e; cases e)
  have outW : ∀ {a : Addr}, s.heap.get? a = none → a ∉ W := fun {a} e m => by
    obtain ⟨ob, e'⟩ := al a m
    first | exact dead2 (e) e' | exact dead2 e' (e) | (rw [e] at e'; cases e')
  have lessW : Sub (fz h2 (fa :: T ++ W)) (fz h2 W) := fz_less fun a m => List.mem_append_right _ m
  have sub2 : Sub (fz h1 (T ++ W)) (fz h2 W) := fun a ob q => by
    obtain ⟨na, e⟩ := fz_some.mp q
    exact fz_some.mpr ⟨fun z => na (List.mem_append_right _ z), kk2 _ _ (fun z => na (by rw [List.mem_singleton.mp z]; exact List.mem_append_right _ hP)) e⟩
  have mkc : ∀ {c : Addr} {d : D} {v : Value}, c ∈ T → h1.IsCell c (some v) → Rep (fz h1 (T ++ W)) d v → CellG (fz h2 W) c d := fun {c d v} mT hc r => by
    obtain ⟨oc, ho, hd⟩ := hc
    refine ⟨oc, v, fz_some.mpr ⟨outW (hTn _ mT), kk2 _ _ (fun z => PT (by rw [← List.mem_singleton.mp z]; exact mT)) ho⟩, hd, Rep.mono sub2 r⟩
  refine hq fa c1 c2 h2 tk2 (fun a ob na e => kk2 _ _ na (k1 _ _ e)) (back nf2) ?_ (mkc m1 hc1 r1) (mkc m2 hc2 r2) c12 (hT2.up lessW fun ob e => e)
  obtain ⟨c3, oo, vs, t, e, ho, hd, hv⟩ := hr2
  first | with_reducible exact ns e | cases e
  refine ⟨⟨c', ctv, c', oo, vs, t, fz_some.mpr ⟨outW (back nf2), hf2⟩, rfl, fz_some.mpr ⟨fun z => nc2 (List.mem_append_right _ z), ho⟩, hd, hv⟩⟩
end
end
section
noncomputable def S (x : String) : Str := Str.ofString x
noncomputable def pairD (p : Nat × Nat) : D := .tuple [.int (p.1 : Int), .str [p.2]]
noncomputable def listing : List (List (Nat × Nat)) := [[(40960, 108), (49152, 115), (32768, 45), (24576, 98), (16384, 100), (8192, 99), (4096, 112)],
  [(256, 114)], [(128, 119)], [(2112, 115), (2048, 83), (64, 120)], [(32, 114)], [(16, 119)], [(1032, 115), (1024, 83), (8, 120)], [(4, 114)], [(2, 119)], [(513, 116), (512, 84), (1, 120)]]
noncomputable def tableD : D := .tuple (listing.map fun r => .tuple (r.map pairD))
theorem rep_tup {g : Gh} {a : Addr} {o : Obj} {vs : List Value} {n : Nat} {ds : List D} (h : g a = some o) (hc : o.cls = .type "tuple") (hd : o.data = .seq vs.toArray n) (r : RepL g ds vs) : Rep g (.tuple ds) (.ref a) := ⟨a, vs, rfl, ⟨o, n, h, hc, hd, fun z => by simp at z⟩, r⟩
theorem rl_cons {g : Gh} {d : D} {v : Value} {ds : List D} {vs : List Value} (h : Rep g d v) (t : RepL g ds vs) : RepL g (d :: ds) (v :: vs) := ⟨v, vs, rfl, h, t⟩
theorem rep_pair {g : Gh} {p c : Nat} {a : Addr} {o : Obj} {t u : Tok} {n : Nat} (h : g a = some o) (hc : o.cls = .type "tuple") (hd : o.data = .seq #[.int (p : Int) t, .str ⟨#[c]⟩ u] n) : Rep g (pairD (p, c)) (.ref a) :=
  rep_tup h hc (vs := [_, _]) hd (rl_cons ⟨_, rfl⟩ (rl_cons ⟨_, rfl⟩ rfl))
set_option maxRecDepth 100000 in
theorem table_ok (P : Params) : GlobOK (hd.heap_39 P) (Str.ofString "_filemode_table") tableD := by
  refine ⟨by decide, .inl ⟨.ref 140, by rfl, fun g hK => ?_⟩⟩
  refine rep_tup (hK _ _ rfl) rfl (vs := [_, _, _, _, _, _, _, _, _, _]) rfl ?_
  repeat' (first
    | exact rfl
    | exact rep_pair (hK _ _ rfl) rfl rfl
    | refine rep_tup (hK _ _ rfl) rfl (vs := [_]) rfl ?_
    | refine rep_tup (hK _ _ rfl) rfl (vs := [_, _, _]) rfl ?_
    | refine rep_tup (hK _ _ rfl) rfl (vs := [_, _, _, _, _, _, _]) rfl ?_
    | refine rl_cons ?_ ?_)
noncomputable def tabN : List Nat := (List.range 26).map (· + 65) ++ (List.range 26).map (· + 97) ++ (List.range 10).map (· + 48) ++ [43, 47]
noncomputable def globs : List (Str × D) := [
  (Str.ofString "_filemode_table", tableD), (Str.ofString "enumerate", .cst (.type "enumerate")),  (Str.ofString "_B64", .bytes (tabN.map Nat.toUInt8)),
  (Str.ofString "range", .cst (.type "range")), (Str.ofString "list", .cst (.type "list")), (Str.ofString "type", .cst (.type "type")), (Str.ofString "bytes", .cst (.type "bytes")),
  (Str.ofString "bool", .cst (.type "bool")), (Str.ofString "int", .cst (.type "int")), (Str.ofString "float", .cst (.type "float")), (Str.ofString "complex", .cst (.type "complex")), (Str.ofString "str", .cst (.type "str")), (Str.ofString "bytearray", .cst (.type "bytearray")),
  (Str.ofString "tuple", .cst (.type "tuple")), (Str.ofString "dict", .cst (.type "dict")), (Str.ofString "set", .cst (.type "set")), (Str.ofString "frozenset", .cst (.type "frozenset")),
  (Str.ofString "len", .cst (.builtin "len")), (Str.ofString "min", .cst (.builtin "min")), (Str.ofString "max", .cst (.builtin "max")), (Str.ofString "sum", .cst (.builtin "sum")), (Str.ofString "abs", .cst (.builtin "abs")), (Str.ofString "ord", .cst (.builtin "ord")), (Str.ofString "chr", .cst (.builtin "chr")),
  (Str.ofString "S_IMODE", .cst (.ref 100)), (Str.ofString "S_IFMT", .cst (.ref 107)), (Str.ofString "filemode", .cst (.ref 147)), (Str.ofString "_buffer", .cst (.ref 70)), (Str.ofString "_truth", .cst (.ref 77)), (Str.ofString "b2a_base64", .cst (.ref 85)), (Str.ofString "b64encode", .cst (.ref 93)),
  (Str.ofString "_law_modes", .cst (.ref 152)), (Str.ofString "_law_shown", .cst (.ref 159)), (Str.ofString "_law_told", .cst (.ref 166)), (Str.ofString "_law_written", .cst (.ref 171)), (Str.ofString "_law_reaches", .cst (.ref 178)),
  (Str.ofString "_law_record", .cst (.ref 185)), (Str.ofString "_law_named", .cst (.ref 190)), (Str.ofString "_law_ring", .cst (.ref 195)), (Str.ofString "_law_judged", .cst (.ref 200)), (Str.ofString "_law_wins", .cst (.ref 205)), (Str.ofString "_law_sure", .cst (.ref 210)), (Str.ofString "Entry", .cst (.ref 59))]
theorem g_bi {K : Frag} {x : Str} {b : String} (h1 : nsIn K mainGlobals x = some none) (h2 : bootBuiltins x = some (.builtin b)) (h3 : x ≠ "__name__") (h0 : okName x = true) : GlobOK K x (.cst (.builtin b)) := ⟨h0, .inr ⟨_, h1, h2, h3, fun _ => rfl⟩⟩
theorem g_ty {K : Frag} {x : Str} {b : String} (h1 : nsIn K mainGlobals x = some none) (h2 : bootBuiltins x = some (.type b)) (h3 : x ≠ "__name__") (h0 : okName x = true) : GlobOK K x (.cst (.type b)) := ⟨h0, .inr ⟨_, h1, h2, h3, fun _ => rfl⟩⟩
theorem g_fn {K : Frag} {x : Str} {a : Addr} (h1 : nsIn K mainGlobals x = some (some (.ref a))) (h0 : okName x = true) : GlobOK K x (.cst (.ref a)) := ⟨h0, .inl ⟨_, h1, fun _ _ => rfl⟩⟩
set_option maxRecDepth 100000 in
theorem globs_all (P : Params) : ∀ q ∈ globs, GlobOK (hd.heap_39 P) q.1 q.2 := by
  unfold globs
  repeat' (first
    | (refine List.forall_mem_cons.mpr ⟨?_, ?_⟩)
    | (exact fun q h => absurd h (by (first | exact List.mem_cons_self | exact List.mem_cons_of_mem _ List.mem_cons_self | decide | simp)))
    | (refine g_ty (by rfl) (by decide +kernel) (by decide) (by decide))
    | (refine g_bi (by rfl) (by decide +kernel) (by decide) (by decide))
    | (refine g_fn (by rfl) (by decide))
    | exact table_ok P
    | exact ⟨by decide, .inl ⟨_, by rfl, fun g _ => ⟨_, rfl⟩⟩⟩)
end
section
structure Wd (P : Params) (p : Program) (loose : List Str) (mg mb : Str → Option Value) (h₀ : Heap) : Prop where
  X : (hd.heap_39 P).In h₀
  T : TopRead p loose mg mb h₀
noncomputable def O0 : Orc := { glob := fun x => globs.lookup x, call := fun _ _ => none }
theorem mem_look {x : Str} {d : D} : ∀ {l : List (Str × D)}, l.lookup x = some d → (x, d) ∈ l := fun e => PySem.mem_of_lookup e
section
variable {prog : Program} {w : World} {P : Params} {p : Program} {loose : List Str} {mg mb : Str → Option Value} {h₀ : Heap}
theorem o0_ok (Z : Wd P p loose mg mb h₀) (n : Nat) : OrcOK prog w n (BaseAt h₀) O0 :=
  orc_ok Z.X Z.T (fun x d e => globs_all P (x, d) (mem_look e)) (fun f ds d e => by cases e) (fun b al e r => by cases e) (fun _ _ => rfl) (fun _ _ _ => rfl) (fun _ _ => rfl) (fun _ _ => rfl)
set_option maxRecDepth 100000 in
theorem fd100 (P : Params) : FdOK (fdIn (hd.heap_39 P) 100) (bodyIn (hd.heap_39 P) 100) := ⟨rfl, rfl, rfl, rfl, rfl, rfl, rfl, rfl, rfl⟩
set_option maxRecDepth 100000 in
theorem fn100 (Z : Wd P p loose mg mb h₀) : FnAt h₀ 100 (fdIn (hd.heap_39 P) 100) := fn_at Z.X Z.T.nolimit rfl rfl rfl rfl rfl
set_option maxRecDepth 100000 in
theorem bi100 (P : Params) : ∀ us : List Value, us.length = 1 → bindArgs (fdIn (hd.heap_39 P) 100) ⟨us, []⟩ = pure ([Str.ofString "mode"].zip us) := us1 fun v => by
  show bindArgs (fdIn (hd.heap_39 P) 100) ⟨[v], []⟩ = pure [(Str.ofString "mode", v)]
  have e1 : (fdIn (hd.heap_39 P) 100).params = ⟨[], [⟨_, _, _⟩], none, [], [], none, []⟩ := rfl
  have e2 : (fdIn (hd.heap_39 P) 100).defaults = .none := rfl
  generalize fdIn (hd.heap_39 P) 100 = fd at e1 e2
  unfold bindArgs
  rw [e1, e2]
  rfl
set_option maxRecDepth 100000 in
theorem cc100 {O : Orc} {n : Nat} (hn : 1 ≤ n) (Z : Wd P p loose mg mb h₀) (o : OrcOK prog w n (BaseAt h₀) O) {ds : List D} {d : D} {ap : List Str} {k : Nat} (hl : ds.length = 1) (r : Rets O ap k (hd.heap_39 P) 100 ([Str.ofString "mode"].zip (ds.map .val)) d) : Ct prog w (n + 1) h₀ (.ref 100) ds d :=
  ct_of hn o (fd100 P) (fn100 Z) (fun us e => bi100 P us (by (first | lia | omega))) (by rw [hl]; rfl) rfl rfl r

set_option maxRecDepth 100000 in
theorem fd107 (P : Params) : FdOK (fdIn (hd.heap_39 P) 107) (bodyIn (hd.heap_39 P) 107) := ⟨rfl, rfl, rfl, rfl, rfl, rfl, rfl, rfl, rfl⟩
set_option maxRecDepth 100000 in
theorem fn107 (Z : Wd P p loose mg mb h₀) : FnAt h₀ 107 (fdIn (hd.heap_39 P) 107) := fn_at Z.X Z.T.nolimit rfl rfl rfl rfl rfl
set_option maxRecDepth 100000 in
theorem bi107 (P : Params) : ∀ us : List Value, us.length = 1 → bindArgs (fdIn (hd.heap_39 P) 107) ⟨us, []⟩ = pure ([Str.ofString "mode"].zip us) := us1 fun v => by
  show bindArgs (fdIn (hd.heap_39 P) 107) ⟨[v], []⟩ = pure [(Str.ofString "mode", v)]
  have e1 : (fdIn (hd.heap_39 P) 107).params = ⟨[], [⟨_, _, _⟩], none, [], [], none, []⟩ := rfl
  have e2 : (fdIn (hd.heap_39 P) 107).defaults = .none := rfl
  generalize fdIn (hd.heap_39 P) 107 = fd at e1 e2
  unfold bindArgs
  rw [e1, e2]
  rfl
set_option maxRecDepth 100000 in
theorem cc107 {O : Orc} {n : Nat} (hn : 1 ≤ n) (Z : Wd P p loose mg mb h₀) (o : OrcOK prog w n (BaseAt h₀) O) {ds : List D} {d : D} {ap : List Str} {k : Nat} (hl : ds.length = 1) (r : Rets O ap k (hd.heap_39 P) 107 ([Str.ofString "mode"].zip (ds.map .val)) d) : Ct prog w (n + 1) h₀ (.ref 107) ds d :=
  ct_of hn o (fd107 P) (fn107 Z) (fun us e => bi107 P us (by (first | lia | omega))) (by rw [hl]; rfl) rfl rfl r

set_option maxRecDepth 100000 in
theorem fd70 (P : Params) : FdOK (fdIn (hd.heap_39 P) 70) (bodyIn (hd.heap_39 P) 70) := ⟨rfl, rfl, rfl, rfl, rfl, rfl, rfl, rfl, rfl⟩
set_option maxRecDepth 100000 in
theorem fn70 (Z : Wd P p loose mg mb h₀) : FnAt h₀ 70 (fdIn (hd.heap_39 P) 70) := fn_at Z.X Z.T.nolimit rfl rfl rfl rfl rfl
set_option maxRecDepth 100000 in
theorem bi70 (P : Params) : ∀ us : List Value, us.length = 1 → bindArgs (fdIn (hd.heap_39 P) 70) ⟨us, []⟩ = pure ([Str.ofString "data"].zip us) := us1 fun v => by
  show bindArgs (fdIn (hd.heap_39 P) 70) ⟨[v], []⟩ = pure [(Str.ofString "data", v)]
  have e1 : (fdIn (hd.heap_39 P) 70).params = ⟨[], [⟨_, _, _⟩], none, [], [], none, []⟩ := rfl
  have e2 : (fdIn (hd.heap_39 P) 70).defaults = .none := rfl
  generalize fdIn (hd.heap_39 P) 70 = fd at e1 e2
  unfold bindArgs
  rw [e1, e2]
  rfl
set_option maxRecDepth 100000 in
theorem cc70 {O : Orc} {n : Nat} (hn : 1 ≤ n) (Z : Wd P p loose mg mb h₀) (o : OrcOK prog w n (BaseAt h₀) O) {ds : List D} {d : D} {ap : List Str} {k : Nat} (hl : ds.length = 1) (r : Rets O ap k (hd.heap_39 P) 70 ([Str.ofString "data"].zip (ds.map .val)) d) : Ct prog w (n + 1) h₀ (.ref 70) ds d :=
  ct_of hn o (fd70 P) (fn70 Z) (fun us e => bi70 P us (by (first | lia | omega))) (by rw [hl]; rfl) rfl rfl r

set_option maxRecDepth 100000 in
theorem fd77 (P : Params) : FdOK (fdIn (hd.heap_39 P) 77) (bodyIn (hd.heap_39 P) 77) := ⟨rfl, rfl, rfl, rfl, rfl, rfl, rfl, rfl, rfl⟩
set_option maxRecDepth 100000 in
theorem fn77 (Z : Wd P p loose mg mb h₀) : FnAt h₀ 77 (fdIn (hd.heap_39 P) 77) := fn_at Z.X Z.T.nolimit rfl rfl rfl rfl rfl
set_option maxRecDepth 100000 in
theorem bi77 (P : Params) : ∀ us : List Value, us.length = 1 → bindArgs (fdIn (hd.heap_39 P) 77) ⟨us, []⟩ = pure ([Str.ofString "x"].zip us) := us1 fun v => by
  show bindArgs (fdIn (hd.heap_39 P) 77) ⟨[v], []⟩ = pure [(Str.ofString "x", v)]
  have e1 : (fdIn (hd.heap_39 P) 77).params = ⟨[], [⟨_, _, _⟩], none, [], [], none, []⟩ := rfl
  have e2 : (fdIn (hd.heap_39 P) 77).defaults = .none := rfl
  generalize fdIn (hd.heap_39 P) 77 = fd at e1 e2
  unfold bindArgs
  rw [e1, e2]
  rfl
set_option maxRecDepth 100000 in
theorem cc77 {O : Orc} {n : Nat} (hn : 1 ≤ n) (Z : Wd P p loose mg mb h₀) (o : OrcOK prog w n (BaseAt h₀) O) {ds : List D} {d : D} {ap : List Str} {k : Nat} (hl : ds.length = 1) (r : Rets O ap k (hd.heap_39 P) 77 ([Str.ofString "x"].zip (ds.map .val)) d) : Ct prog w (n + 1) h₀ (.ref 77) ds d :=
  ct_of hn o (fd77 P) (fn77 Z) (fun us e => bi77 P us (by (first | lia | omega))) (by rw [hl]; rfl) rfl rfl r

set_option maxRecDepth 100000 in
theorem fd152 (P : Params) : FdOK (fdIn (hd.heap_39 P) 152) (bodyIn (hd.heap_39 P) 152) := ⟨rfl, rfl, rfl, rfl, rfl, rfl, rfl, rfl, rfl⟩
set_option maxRecDepth 100000 in
theorem fn152 (Z : Wd P p loose mg mb h₀) : FnAt h₀ 152 (fdIn (hd.heap_39 P) 152) := fn_at Z.X Z.T.nolimit rfl rfl rfl rfl rfl
set_option maxRecDepth 100000 in
theorem bi152 (P : Params) : ∀ us : List Value, us.length = 1 → bindArgs (fdIn (hd.heap_39 P) 152) ⟨us, []⟩ = pure ([Str.ofString "drawn"].zip us) := us1 fun v => by
  show bindArgs (fdIn (hd.heap_39 P) 152) ⟨[v], []⟩ = pure [(Str.ofString "drawn", v)]
  have e1 : (fdIn (hd.heap_39 P) 152).params = ⟨[], [⟨_, _, _⟩], none, [], [], none, []⟩ := rfl
  have e2 : (fdIn (hd.heap_39 P) 152).defaults = .none := rfl
  generalize fdIn (hd.heap_39 P) 152 = fd at e1 e2
  unfold bindArgs
  rw [e1, e2]
  rfl
set_option maxRecDepth 100000 in
theorem cc152 {O : Orc} {n : Nat} (hn : 1 ≤ n) (Z : Wd P p loose mg mb h₀) (o : OrcOK prog w n (BaseAt h₀) O) {ds : List D} {d : D} {ap : List Str} {k : Nat} (hl : ds.length = 1) (r : Rets O ap k (hd.heap_39 P) 152 ([Str.ofString "drawn"].zip (ds.map .val)) d) : Ct prog w (n + 1) h₀ (.ref 152) ds d :=
  ct_of hn o (fd152 P) (fn152 Z) (fun us e => bi152 P us (by (first | lia | omega))) (by rw [hl]; rfl) rfl rfl r

set_option maxRecDepth 100000 in
theorem fd159 (P : Params) : FdOK (fdIn (hd.heap_39 P) 159) (bodyIn (hd.heap_39 P) 159) := ⟨rfl, rfl, rfl, rfl, rfl, rfl, rfl, rfl, rfl⟩
set_option maxRecDepth 100000 in
theorem fn159 (Z : Wd P p loose mg mb h₀) : FnAt h₀ 159 (fdIn (hd.heap_39 P) 159) := fn_at Z.X Z.T.nolimit rfl rfl rfl rfl rfl
set_option maxRecDepth 100000 in
theorem bi159 (P : Params) : ∀ us : List Value, us.length = 1 → bindArgs (fdIn (hd.heap_39 P) 159) ⟨us, []⟩ = pure ([Str.ofString "mode"].zip us) := us1 fun v => by
  show bindArgs (fdIn (hd.heap_39 P) 159) ⟨[v], []⟩ = pure [(Str.ofString "mode", v)]
  have e1 : (fdIn (hd.heap_39 P) 159).params = ⟨[], [⟨_, _, _⟩], none, [], [], none, []⟩ := rfl
  have e2 : (fdIn (hd.heap_39 P) 159).defaults = .none := rfl
  generalize fdIn (hd.heap_39 P) 159 = fd at e1 e2
  unfold bindArgs
  rw [e1, e2]
  rfl
set_option maxRecDepth 100000 in
theorem cc159 {O : Orc} {n : Nat} (hn : 1 ≤ n) (Z : Wd P p loose mg mb h₀) (o : OrcOK prog w n (BaseAt h₀) O) {ds : List D} {d : D} {ap : List Str} {k : Nat} (hl : ds.length = 1) (r : Rets O ap k (hd.heap_39 P) 159 ([Str.ofString "mode"].zip (ds.map .val)) d) : Ct prog w (n + 1) h₀ (.ref 159) ds d :=
  ct_of hn o (fd159 P) (fn159 Z) (fun us e => bi159 P us (by (first | lia | omega))) (by rw [hl]; rfl) rfl rfl r

set_option maxRecDepth 100000 in
theorem fd166 (P : Params) : FdOK (fdIn (hd.heap_39 P) 166) (bodyIn (hd.heap_39 P) 166) := ⟨rfl, rfl, rfl, rfl, rfl, rfl, rfl, rfl, rfl⟩
set_option maxRecDepth 100000 in
theorem fn166 (Z : Wd P p loose mg mb h₀) : FnAt h₀ 166 (fdIn (hd.heap_39 P) 166) := fn_at Z.X Z.T.nolimit rfl rfl rfl rfl rfl
set_option maxRecDepth 100000 in
theorem bi166 (P : Params) : ∀ us : List Value, us.length = 1 → bindArgs (fdIn (hd.heap_39 P) 166) ⟨us, []⟩ = pure ([Str.ofString "mode"].zip us) := us1 fun v => by
  show bindArgs (fdIn (hd.heap_39 P) 166) ⟨[v], []⟩ = pure [(Str.ofString "mode", v)]
  have e1 : (fdIn (hd.heap_39 P) 166).params = ⟨[], [⟨_, _, _⟩], none, [], [], none, []⟩ := rfl
  have e2 : (fdIn (hd.heap_39 P) 166).defaults = .none := rfl
  generalize fdIn (hd.heap_39 P) 166 = fd at e1 e2
  unfold bindArgs
  rw [e1, e2]
  rfl
set_option maxRecDepth 100000 in
theorem cc166 {O : Orc} {n : Nat} (hn : 1 ≤ n) (Z : Wd P p loose mg mb h₀) (o : OrcOK prog w n (BaseAt h₀) O) {ds : List D} {d : D} {ap : List Str} {k : Nat} (hl : ds.length = 1) (r : Rets O ap k (hd.heap_39 P) 166 ([Str.ofString "mode"].zip (ds.map .val)) d) : Ct prog w (n + 1) h₀ (.ref 166) ds d :=
  ct_of hn o (fd166 P) (fn166 Z) (fun us e => bi166 P us (by (first | lia | omega))) (by rw [hl]; rfl) rfl rfl r

set_option maxRecDepth 100000 in
theorem fd171 (P : Params) : FdOK (fdIn (hd.heap_39 P) 171) (bodyIn (hd.heap_39 P) 171) := ⟨rfl, rfl, rfl, rfl, rfl, rfl, rfl, rfl, rfl⟩
set_option maxRecDepth 100000 in
theorem fn171 (Z : Wd P p loose mg mb h₀) : FnAt h₀ 171 (fdIn (hd.heap_39 P) 171) := fn_at Z.X Z.T.nolimit rfl rfl rfl rfl rfl
set_option maxRecDepth 100000 in
theorem bi171 (P : Params) : ∀ us : List Value, us.length = 1 → bindArgs (fdIn (hd.heap_39 P) 171) ⟨us, []⟩ = pure ([Str.ofString "values"].zip us) := us1 fun v => by
  show bindArgs (fdIn (hd.heap_39 P) 171) ⟨[v], []⟩ = pure [(Str.ofString "values", v)]
  have e1 : (fdIn (hd.heap_39 P) 171).params = ⟨[], [⟨_, _, _⟩], none, [], [], none, []⟩ := rfl
  have e2 : (fdIn (hd.heap_39 P) 171).defaults = .none := rfl
  generalize fdIn (hd.heap_39 P) 171 = fd at e1 e2
  unfold bindArgs
  rw [e1, e2]
  rfl
set_option maxRecDepth 100000 in
theorem cc171 {O : Orc} {n : Nat} (hn : 1 ≤ n) (Z : Wd P p loose mg mb h₀) (o : OrcOK prog w n (BaseAt h₀) O) {ds : List D} {d : D} {ap : List Str} {k : Nat} (hl : ds.length = 1) (r : Rets O ap k (hd.heap_39 P) 171 ([Str.ofString "values"].zip (ds.map .val)) d) : Ct prog w (n + 1) h₀ (.ref 171) ds d :=
  ct_of hn o (fd171 P) (fn171 Z) (fun us e => bi171 P us (by (first | lia | omega))) (by rw [hl]; rfl) rfl rfl r

set_option maxRecDepth 100000 in
theorem fd178 (P : Params) : FdOK (fdIn (hd.heap_39 P) 178) (bodyIn (hd.heap_39 P) 178) := ⟨rfl, rfl, rfl, rfl, rfl, rfl, rfl, rfl, rfl⟩
set_option maxRecDepth 100000 in
theorem fn178 (Z : Wd P p loose mg mb h₀) : FnAt h₀ 178 (fdIn (hd.heap_39 P) 178) := fn_at Z.X Z.T.nolimit rfl rfl rfl rfl rfl
set_option maxRecDepth 100000 in
theorem bi178 (P : Params) : ∀ us : List Value, us.length = 2 → bindArgs (fdIn (hd.heap_39 P) 178) ⟨us, []⟩ = pure ([Str.ofString "kept", Str.ofString "far"].zip us) := us2 fun v u => by
  show bindArgs (fdIn (hd.heap_39 P) 178) ⟨[v, u], []⟩ = pure [(Str.ofString "kept", v), (Str.ofString "far", u)]
  have e1 : (fdIn (hd.heap_39 P) 178).params = ⟨[], [⟨_, _, _⟩, ⟨_, _, _⟩], none, [], [], none, []⟩ := rfl
  have e2 : (fdIn (hd.heap_39 P) 178).defaults = .none := rfl
  generalize fdIn (hd.heap_39 P) 178 = fd at e1 e2
  unfold bindArgs
  rw [e1, e2]
  rfl
set_option maxRecDepth 100000 in
theorem fd185 (P : Params) : FdOK (fdIn (hd.heap_39 P) 185) (bodyIn (hd.heap_39 P) 185) := ⟨rfl, rfl, rfl, rfl, rfl, rfl, rfl, rfl, rfl⟩
set_option maxRecDepth 100000 in
theorem fn185 (Z : Wd P p loose mg mb h₀) : FnAt h₀ 185 (fdIn (hd.heap_39 P) 185) := fn_at Z.X Z.T.nolimit rfl rfl rfl rfl rfl
set_option maxRecDepth 100000 in
theorem bi185 (P : Params) : ∀ us : List Value, us.length = 2 → bindArgs (fdIn (hd.heap_39 P) 185) ⟨us, []⟩ = pure ([Str.ofString "files", Str.ofString "shift"].zip us) := us2 fun v u => by
  show bindArgs (fdIn (hd.heap_39 P) 185) ⟨[v, u], []⟩ = pure [(Str.ofString "files", v), (Str.ofString "shift", u)]
  have e1 : (fdIn (hd.heap_39 P) 185).params = ⟨[], [⟨_, _, _⟩, ⟨_, _, _⟩], none, [], [], none, []⟩ := rfl
  have e2 : (fdIn (hd.heap_39 P) 185).defaults = .none := rfl
  generalize fdIn (hd.heap_39 P) 185 = fd at e1 e2
  unfold bindArgs
  rw [e1, e2]
  rfl
set_option maxRecDepth 100000 in
theorem fd190 (P : Params) : FdOK (fdIn (hd.heap_39 P) 190) (bodyIn (hd.heap_39 P) 190) := ⟨rfl, rfl, rfl, rfl, rfl, rfl, rfl, rfl, rfl⟩
set_option maxRecDepth 100000 in
theorem fn190 (Z : Wd P p loose mg mb h₀) : FnAt h₀ 190 (fdIn (hd.heap_39 P) 190) := fn_at Z.X Z.T.nolimit rfl rfl rfl rfl rfl
set_option maxRecDepth 100000 in
theorem bi190 (P : Params) : ∀ us : List Value, us.length = 2 → bindArgs (fdIn (hd.heap_39 P) 190) ⟨us, []⟩ = pure ([Str.ofString "ring", Str.ofString "shift"].zip us) := us2 fun v u => by
  show bindArgs (fdIn (hd.heap_39 P) 190) ⟨[v, u], []⟩ = pure [(Str.ofString "ring", v), (Str.ofString "shift", u)]
  have e1 : (fdIn (hd.heap_39 P) 190).params = ⟨[], [⟨_, _, _⟩, ⟨_, _, _⟩], none, [], [], none, []⟩ := rfl
  have e2 : (fdIn (hd.heap_39 P) 190).defaults = .none := rfl
  generalize fdIn (hd.heap_39 P) 190 = fd at e1 e2
  unfold bindArgs
  rw [e1, e2]
  rfl
set_option maxRecDepth 100000 in
theorem cc190 {O : Orc} {n : Nat} (hn : 1 ≤ n) (Z : Wd P p loose mg mb h₀) (o : OrcOK prog w n (BaseAt h₀) O) {ds : List D} {d : D} {ap : List Str} {k : Nat} (hl : ds.length = 2) (r : Rets O ap k (hd.heap_39 P) 190 ([Str.ofString "ring", Str.ofString "shift"].zip (ds.map .val)) d) : Ct prog w (n + 1) h₀ (.ref 190) ds d :=
  ct_of hn o (fd190 P) (fn190 Z) (fun us e => bi190 P us (by (first | lia | omega))) (by rw [hl]; rfl) rfl rfl r

set_option maxRecDepth 100000 in
theorem fd195 (P : Params) : FdOK (fdIn (hd.heap_39 P) 195) (bodyIn (hd.heap_39 P) 195) := ⟨rfl, rfl, rfl, rfl, rfl, rfl, rfl, rfl, rfl⟩
set_option maxRecDepth 100000 in
theorem fn195 (Z : Wd P p loose mg mb h₀) : FnAt h₀ 195 (fdIn (hd.heap_39 P) 195) := fn_at Z.X Z.T.nolimit rfl rfl rfl rfl rfl
set_option maxRecDepth 100000 in
theorem bi195 (P : Params) : ∀ us : List Value, us.length = 3 → bindArgs (fdIn (hd.heap_39 P) 195) ⟨us, []⟩ = pure ([Str.ofString "files", Str.ofString "choice", Str.ofString "place"].zip us) := us3 fun v u t => by
  show bindArgs (fdIn (hd.heap_39 P) 195) ⟨[v, u, t], []⟩ = pure [(Str.ofString "files", v), (Str.ofString "choice", u), (Str.ofString "place", t)]
  have e1 : (fdIn (hd.heap_39 P) 195).params = ⟨[], [⟨_, _, _⟩, ⟨_, _, _⟩, ⟨_, _, _⟩], none, [], [], none, []⟩ := rfl
  have e2 : (fdIn (hd.heap_39 P) 195).defaults = .none := rfl
  generalize fdIn (hd.heap_39 P) 195 = fd at e1 e2
  unfold bindArgs
  rw [e1, e2]
  rfl
set_option maxRecDepth 100000 in
theorem cc195 {O : Orc} {n : Nat} (hn : 1 ≤ n) (Z : Wd P p loose mg mb h₀) (o : OrcOK prog w n (BaseAt h₀) O) {ds : List D} {d : D} {ap : List Str} {k : Nat} (hl : ds.length = 3) (r : Rets O ap k (hd.heap_39 P) 195 ([Str.ofString "files", Str.ofString "choice", Str.ofString "place"].zip (ds.map .val)) d) : Ct prog w (n + 1) h₀ (.ref 195) ds d :=
  ct_of hn o (fd195 P) (fn195 Z) (fun us e => bi195 P us (by (first | lia | omega))) (by rw [hl]; rfl) rfl rfl r

set_option maxRecDepth 100000 in
theorem fd200 (P : Params) : FdOK (fdIn (hd.heap_39 P) 200) (bodyIn (hd.heap_39 P) 200) := ⟨rfl, rfl, rfl, rfl, rfl, rfl, rfl, rfl, rfl⟩
set_option maxRecDepth 100000 in
theorem fn200 (Z : Wd P p loose mg mb h₀) : FnAt h₀ 200 (fdIn (hd.heap_39 P) 200) := fn_at Z.X Z.T.nolimit rfl rfl rfl rfl rfl
set_option maxRecDepth 100000 in
theorem bi200 (P : Params) : ∀ us : List Value, us.length = 2 → bindArgs (fdIn (hd.heap_39 P) 200) ⟨us, []⟩ = pure ([Str.ofString "files", Str.ofString "shift"].zip us) := us2 fun v u => by
  show bindArgs (fdIn (hd.heap_39 P) 200) ⟨[v, u], []⟩ = pure [(Str.ofString "files", v), (Str.ofString "shift", u)]
  have e1 : (fdIn (hd.heap_39 P) 200).params = ⟨[], [⟨_, _, _⟩, ⟨_, _, _⟩], none, [], [], none, []⟩ := rfl
  have e2 : (fdIn (hd.heap_39 P) 200).defaults = .none := rfl
  generalize fdIn (hd.heap_39 P) 200 = fd at e1 e2
  unfold bindArgs
  rw [e1, e2]
  rfl
set_option maxRecDepth 100000 in
theorem fd205 (P : Params) : FdOK (fdIn (hd.heap_39 P) 205) (bodyIn (hd.heap_39 P) 205) := ⟨rfl, rfl, rfl, rfl, rfl, rfl, rfl, rfl, rfl⟩
set_option maxRecDepth 100000 in
theorem fn205 (Z : Wd P p loose mg mb h₀) : FnAt h₀ 205 (fdIn (hd.heap_39 P) 205) := fn_at Z.X Z.T.nolimit rfl rfl rfl rfl rfl
set_option maxRecDepth 100000 in
theorem bi205 (P : Params) : ∀ us : List Value, us.length = 2 → bindArgs (fdIn (hd.heap_39 P) 205) ⟨us, []⟩ = pure ([Str.ofString "files", Str.ofString "path"].zip us) := us2 fun v u => by
  show bindArgs (fdIn (hd.heap_39 P) 205) ⟨[v, u], []⟩ = pure [(Str.ofString "files", v), (Str.ofString "path", u)]
  have e1 : (fdIn (hd.heap_39 P) 205).params = ⟨[], [⟨_, _, _⟩, ⟨_, _, _⟩], none, [], [], none, []⟩ := rfl
  have e2 : (fdIn (hd.heap_39 P) 205).defaults = .none := rfl
  generalize fdIn (hd.heap_39 P) 205 = fd at e1 e2
  unfold bindArgs
  rw [e1, e2]
  rfl
set_option maxRecDepth 100000 in
theorem cc205 {O : Orc} {n : Nat} (hn : 1 ≤ n) (Z : Wd P p loose mg mb h₀) (o : OrcOK prog w n (BaseAt h₀) O) {ds : List D} {d : D} {ap : List Str} {k : Nat} (hl : ds.length = 2) (r : Rets O ap k (hd.heap_39 P) 205 ([Str.ofString "files", Str.ofString "path"].zip (ds.map .val)) d) : Ct prog w (n + 1) h₀ (.ref 205) ds d :=
  ct_of hn o (fd205 P) (fn205 Z) (fun us e => bi205 P us (by (first | lia | omega))) (by rw [hl]; rfl) rfl rfl r

set_option maxRecDepth 100000 in
theorem fd210 (P : Params) : FdOK (fdIn (hd.heap_39 P) 210) (bodyIn (hd.heap_39 P) 210) := ⟨rfl, rfl, rfl, rfl, rfl, rfl, rfl, rfl, rfl⟩
set_option maxRecDepth 100000 in
theorem fn210 (Z : Wd P p loose mg mb h₀) : FnAt h₀ 210 (fdIn (hd.heap_39 P) 210) := fn_at Z.X Z.T.nolimit rfl rfl rfl rfl rfl
set_option maxRecDepth 100000 in
theorem bi210 (P : Params) : ∀ us : List Value, us.length = 3 → bindArgs (fdIn (hd.heap_39 P) 210) ⟨us, []⟩ = pure ([Str.ofString "judged", Str.ofString "places", Str.ofString "wished"].zip us) := us3 fun v u t => by
  show bindArgs (fdIn (hd.heap_39 P) 210) ⟨[v, u, t], []⟩ = pure [(Str.ofString "judged", v), (Str.ofString "places", u), (Str.ofString "wished", t)]
  have e1 : (fdIn (hd.heap_39 P) 210).params = ⟨[], [⟨_, _, _⟩, ⟨_, _, _⟩, ⟨_, _, _⟩], none, [], [], none, []⟩ := rfl
  have e2 : (fdIn (hd.heap_39 P) 210).defaults = .none := rfl
  generalize fdIn (hd.heap_39 P) 210 = fd at e1 e2
  unfold bindArgs
  rw [e1, e2]
  rfl
set_option maxRecDepth 100000 in
theorem cc210 {O : Orc} {n : Nat} (hn : 1 ≤ n) (Z : Wd P p loose mg mb h₀) (o : OrcOK prog w n (BaseAt h₀) O) {ds : List D} {d : D} {ap : List Str} {k : Nat} (hl : ds.length = 3) (r : Rets O ap k (hd.heap_39 P) 210 ([Str.ofString "judged", Str.ofString "places", Str.ofString "wished"].zip (ds.map .val)) d) : Ct prog w (n + 1) h₀ (.ref 210) ds d :=
  ct_of hn o (fd210 P) (fn210 Z) (fun us e => bi210 P us (by (first | lia | omega))) (by rw [hl]; rfl) rfl rfl r

set_option maxRecDepth 100000 in
theorem fd215 (P : Params) : FdOK (fdIn (hd.heap_39 P) 215) (bodyIn (hd.heap_39 P) 215) := ⟨rfl, rfl, rfl, rfl, rfl, rfl, rfl, rfl, rfl⟩
set_option maxRecDepth 100000 in
theorem fn215 (Z : Wd P p loose mg mb h₀) : FnAt h₀ 215 (fdIn (hd.heap_39 P) 215) := fn_at Z.X Z.T.nolimit rfl rfl rfl rfl rfl
set_option maxRecDepth 100000 in
theorem bi215 (P : Params) : ∀ us : List Value, us.length = 1 → bindArgs (fdIn (hd.heap_39 P) 215) ⟨us, []⟩ = pure ([Str.ofString "script"].zip us) := us1 fun v => by
  show bindArgs (fdIn (hd.heap_39 P) 215) ⟨[v], []⟩ = pure [(Str.ofString "script", v)]
  have e1 : (fdIn (hd.heap_39 P) 215).params = ⟨[], [⟨_, _, _⟩], none, [], [], none, []⟩ := rfl
  have e2 : (fdIn (hd.heap_39 P) 215).defaults = .none := rfl
  generalize fdIn (hd.heap_39 P) 215 = fd at e1 e2
  unfold bindArgs
  rw [e1, e2]
  rfl
end
end
section
set_option maxRecDepth 100000 in
theorem e_imode (P : Params) (O : Orc) (i : Int) : Rets O [] 20 (hd.heap_39 P) 100 [(Str.ofString "mode", .val (.int i))] (.int (Builtin.bitAnd i 4095)) := by
  apply Exists.intro
  conv => lhs; arg 2; whnf
  refine b_ret (s_ret ?_)
  (repeat' (first | with_reducible (first | exact r_int | exact r_none | exact r_bool | exact r_part0 | exact r_nil | exact r_ifs0) | ((with_reducible refine r_str ?_) <;> rfl) | ((with_reducible refine r_var ?_ ?_) <;> rfl) | ((with_reducible refine r_glob ?_ ?_) <;> rfl) | with_reducible (first | apply r_bin | apply r_neg | apply r_not | apply r_cmp | apply r_slc | apply r_part | apply r_sub | apply r_cons | apply r_list | apply r_tuple | apply r_meth | apply r_call | apply r_comp | apply r_clause | apply r_one | apply r_ifs1 | apply t_not | apply t_bool | apply t_cmp | apply t_and | apply t_or | exact t_and0 | exact t_or0) | rfl | exact if_pos (by first | assumption | omega) | decide))
set_option maxRecDepth 100000 in
theorem e_ifmt (P : Params) (O : Orc) (i : Int) : Rets O [] 20 (hd.heap_39 P) 107 [(Str.ofString "mode", .val (.int i))] (.int (Builtin.bitAnd i 61440)) := by
  apply Exists.intro
  conv => lhs; arg 2; whnf
  refine b_ret (s_ret ?_)
  (repeat' (first | with_reducible (first | exact r_int | exact r_none | exact r_bool | exact r_part0 | exact r_nil | exact r_ifs0) | ((with_reducible refine r_str ?_) <;> rfl) | ((with_reducible refine r_var ?_ ?_) <;> rfl) | ((with_reducible refine r_glob ?_ ?_) <;> rfl) | with_reducible (first | apply r_bin | apply r_neg | apply r_not | apply r_cmp | apply r_slc | apply r_part | apply r_sub | apply r_cons | apply r_list | apply r_tuple | apply r_meth | apply r_call | apply r_comp | apply r_clause | apply r_one | apply r_ifs1 | apply t_not | apply t_bool | apply t_cmp | apply t_and | apply t_or | exact t_and0 | exact t_or0) | rfl | exact if_pos (by first | assumption | omega) | decide))
end
section
section
variable {O : Orc} (hO : O.glob = fun x => globs.lookup x)
include hO
set_option maxRecDepth 100000 in
theorem e_buffer (P : Params) (b : List UInt8) : Rets O [] 20 (hd.heap_39 P) 70 [(Str.ofString "data", .val (.bytes b))] (.bytes b) := by
  obtain ⟨g, c⟩ := O
  subst hO
  apply Exists.intro
  conv => lhs; arg 2; whnf
  refine b_next (s_asg rfl rfl (d := .cst (.type "bytes")) (by (repeat' (first | with_reducible (first | exact r_int | exact r_none | exact r_bool | exact r_part0 | exact r_nil | exact r_ifs0) | ((with_reducible refine r_str ?_) <;> rfl) | ((with_reducible refine r_var ?_ ?_) <;> rfl) | ((with_reducible refine r_glob ?_ ?_) <;> rfl) | with_reducible (first | apply r_bin | apply r_neg | apply r_not | apply r_cmp | apply r_slc | apply r_part | apply r_sub | apply r_cons | apply r_list | apply r_tuple | apply r_meth | apply r_call | apply r_comp | apply r_clause | apply r_one | apply r_ifs1 | apply t_not | apply t_bool | apply t_cmp | apply t_and | apply t_or | exact t_and0 | exact t_or0) | rfl | exact if_pos (by first | assumption | omega) | decide)))) ?_
  refine b_ret (s_ifT (by (repeat' (first | with_reducible (first | exact r_int | exact r_none | exact r_bool | exact r_part0 | exact r_nil | exact r_ifs0) | ((with_reducible refine r_str ?_) <;> rfl) | ((with_reducible refine r_var ?_ ?_) <;> rfl) | ((with_reducible refine r_glob ?_ ?_) <;> rfl) | with_reducible (first | apply r_bin | apply r_neg | apply r_not | apply r_cmp | apply r_slc | apply r_part | apply r_sub | apply r_cons | apply r_list | apply r_tuple | apply r_meth | apply r_call | apply r_comp | apply r_clause | apply r_one | apply r_ifs1 | apply t_not | apply t_bool | apply t_cmp | apply t_and | apply t_or | exact t_and0 | exact t_or0) | rfl | exact if_pos (by first | assumption | omega) | decide))) (b_ret (s_ret ?_)))
  (repeat' (first | with_reducible (first | exact r_int | exact r_none | exact r_bool | exact r_part0 | exact r_nil | exact r_ifs0) | ((with_reducible refine r_str ?_) <;> rfl) | ((with_reducible refine r_var ?_ ?_) <;> rfl) | ((with_reducible refine r_glob ?_ ?_) <;> rfl) | with_reducible (first | apply r_bin | apply r_neg | apply r_not | apply r_cmp | apply r_slc | apply r_part | apply r_sub | apply r_cons | apply r_list | apply r_tuple | apply r_meth | apply r_call | apply r_comp | apply r_clause | apply r_one | apply r_ifs1 | apply t_not | apply t_bool | apply t_cmp | apply t_and | apply t_or | exact t_and0 | exact t_or0) | rfl | exact if_pos (by first | assumption | omega) | decide))
set_option maxRecDepth 100000 in
theorem e_truth (P : Params) : Rets O [] 20 (hd.heap_39 P) 77 [(Str.ofString "x", .val (.bool false))] (.bool false) := by
  obtain ⟨g, c⟩ := O
  subst hO
  apply Exists.intro
  conv => lhs; arg 2; whnf
  refine b_next (s_asg rfl rfl (d := .cst (.type "bool")) (by (repeat' (first | with_reducible (first | exact r_int | exact r_none | exact r_bool | exact r_part0 | exact r_nil | exact r_ifs0) | ((with_reducible refine r_str ?_) <;> rfl) | ((with_reducible refine r_var ?_ ?_) <;> rfl) | ((with_reducible refine r_glob ?_ ?_) <;> rfl) | with_reducible (first | apply r_bin | apply r_neg | apply r_not | apply r_cmp | apply r_slc | apply r_part | apply r_sub | apply r_cons | apply r_list | apply r_tuple | apply r_meth | apply r_call | apply r_comp | apply r_clause | apply r_one | apply r_ifs1 | apply t_not | apply t_bool | apply t_cmp | apply t_and | apply t_or | exact t_and0 | exact t_or0) | rfl | exact if_pos (by first | assumption | omega) | decide)))) ?_
  refine b_ret (s_ifT (t_bool ?_) (b_ret (s_ret ?_)))
  · refine t_or (c := false) (t_cmp rfl (by (repeat' (first | with_reducible (first | exact r_int | exact r_none | exact r_bool | exact r_part0 | exact r_nil | exact r_ifs0) | ((with_reducible refine r_str ?_) <;> rfl) | ((with_reducible refine r_var ?_ ?_) <;> rfl) | ((with_reducible refine r_glob ?_ ?_) <;> rfl) | with_reducible (first | apply r_bin | apply r_neg | apply r_not | apply r_cmp | apply r_slc | apply r_part | apply r_sub | apply r_cons | apply r_list | apply r_tuple | apply r_meth | apply r_call | apply r_comp | apply r_clause | apply r_one | apply r_ifs1 | apply t_not | apply t_bool | apply t_cmp | apply t_and | apply t_or | exact t_and0 | exact t_or0) | rfl | exact if_pos (by first | assumption | omega) | decide))) (by (repeat' (first | with_reducible (first | exact r_int | exact r_none | exact r_bool | exact r_part0 | exact r_nil | exact r_ifs0) | ((with_reducible refine r_str ?_) <;> rfl) | ((with_reducible refine r_var ?_ ?_) <;> rfl) | ((with_reducible refine r_glob ?_ ?_) <;> rfl) | with_reducible (first | apply r_bin | apply r_neg | apply r_not | apply r_cmp | apply r_slc | apply r_part | apply r_sub | apply r_cons | apply r_list | apply r_tuple | apply r_meth | apply r_call | apply r_comp | apply r_clause | apply r_one | apply r_ifs1 | apply t_not | apply t_bool | apply t_cmp | apply t_and | apply t_or | exact t_and0 | exact t_or0) | rfl | exact if_pos (by first | assumption | omega) | decide))) rfl) (t_orT (t_cmp rfl (by (repeat' (first | with_reducible (first | exact r_int | exact r_none | exact r_bool | exact r_part0 | exact r_nil | exact r_ifs0) | ((with_reducible refine r_str ?_) <;> rfl) | ((with_reducible refine r_var ?_ ?_) <;> rfl) | ((with_reducible refine r_glob ?_ ?_) <;> rfl) | with_reducible (first | apply r_bin | apply r_neg | apply r_not | apply r_cmp | apply r_slc | apply r_part | apply r_sub | apply r_cons | apply r_list | apply r_tuple | apply r_meth | apply r_call | apply r_comp | apply r_clause | apply r_one | apply r_ifs1 | apply t_not | apply t_bool | apply t_cmp | apply t_and | apply t_or | exact t_and0 | exact t_or0) | rfl | exact if_pos (by first | assumption | omega) | decide))) (by (repeat' (first | with_reducible (first | exact r_int | exact r_none | exact r_bool | exact r_part0 | exact r_nil | exact r_ifs0) | ((with_reducible refine r_str ?_) <;> rfl) | ((with_reducible refine r_var ?_ ?_) <;> rfl) | ((with_reducible refine r_glob ?_ ?_) <;> rfl) | with_reducible (first | apply r_bin | apply r_neg | apply r_not | apply r_cmp | apply r_slc | apply r_part | apply r_sub | apply r_cons | apply r_list | apply r_tuple | apply r_meth | apply r_call | apply r_comp | apply r_clause | apply r_one | apply r_ifs1 | apply t_not | apply t_bool | apply t_cmp | apply t_and | apply t_or | exact t_and0 | exact t_or0) | rfl | exact if_pos (by first | assumption | omega) | decide))) rfl))
  · refine r_ifeF (t_val rfl (by (repeat' (first | with_reducible (first | exact r_int | exact r_none | exact r_bool | exact r_part0 | exact r_nil | exact r_ifs0) | ((with_reducible refine r_str ?_) <;> rfl) | ((with_reducible refine r_var ?_ ?_) <;> rfl) | ((with_reducible refine r_glob ?_ ?_) <;> rfl) | with_reducible (first | apply r_bin | apply r_neg | apply r_not | apply r_cmp | apply r_slc | apply r_part | apply r_sub | apply r_cons | apply r_list | apply r_tuple | apply r_meth | apply r_call | apply r_comp | apply r_clause | apply r_one | apply r_ifs1 | apply t_not | apply t_bool | apply t_cmp | apply t_and | apply t_or | exact t_and0 | exact t_or0) | rfl | exact if_pos (by first | assumption | omega) | decide))) rfl) (by (repeat' (first | with_reducible (first | exact r_int | exact r_none | exact r_bool | exact r_part0 | exact r_nil | exact r_ifs0) | ((with_reducible refine r_str ?_) <;> rfl) | ((with_reducible refine r_var ?_ ?_) <;> rfl) | ((with_reducible refine r_glob ?_ ?_) <;> rfl) | with_reducible (first | apply r_bin | apply r_neg | apply r_not | apply r_cmp | apply r_slc | apply r_part | apply r_sub | apply r_cons | apply r_list | apply r_tuple | apply r_meth | apply r_call | apply r_comp | apply r_clause | apply r_one | apply r_ifs1 | apply t_not | apply t_bool | apply t_cmp | apply t_and | apply t_or | exact t_and0 | exact t_or0) | rfl | exact if_pos (by first | assumption | omega) | decide)))
end
end
section
noncomputable def picks (xs : List Int) (k : Nat) : List Int := ((List.range xs.length).filter (fun (i : Nat) => ((i : Int) % 4 == (k : Int)))).map (fun i => xs.getD i 0)
noncomputable def modeK (xs : List Int) (k : Nat) : Int := (picks xs k).sum % 65536
noncomputable def modesL (xs : List Int) : List Int := (List.range (min 4 xs.length)).map (modeK xs) ++ [3493, 1716, 2319, 1296].take (4 - min 4 xs.length)
noncomputable def stM (xs : List Int) (y : Option Nat × List Int) : Vars := (Str.ofString "drawn", .val (.list (xs.map .int))) :: (Str.ofString "modes", .own (y.2.map .int)) :: (match y.1 with | some k => [(Str.ofString "k", .val (.int k))] | none => [])
theorem fold_snd (xs : List Int) : ∀ (l : List Nat) (y : Option Nat × List Int), (l.foldl (fun y i => (some i, y.2 ++ [modeK xs i])) y).2 = y.2 ++ l.map (modeK xs)
  | [], y => by simp
  | a :: l, y => by rw [List.foldl_cons, fold_snd xs l]; simp
theorem min_int (n : Nat) : (if (n : Int) < 4 then (n : Int) else 4) = ((min 4 n : Nat) : Int) := by
  by_cases h : n < 4
  · rw [if_pos (show (n : Int) < 4 from Int.ofNat_lt.mpr h), Nat.min_eq_right (Nat.le_of_lt h)]
  · rw [if_neg (show ¬ (n : Int) < 4 from fun q => h (Int.ofNat_lt.mp q)), Nat.min_eq_left (Nat.le_of_not_lt h)]; rfl
section
variable {O : Orc} (hO : O.glob = fun x => globs.lookup x)
include hO
set_option maxRecDepth 100000 in
theorem e_modes (P : Params) (xs : List Int) (hz : xs.length ≤ 60) : Rets O [Str.ofString "modes"] 20 (hd.heap_39 P) 152 [(Str.ofString "drawn", .val (.list (xs.map .int)))] (.list ((modesL xs).map .int)) := by
  obtain ⟨g, c⟩ := O
  subst hO
  have hz1 : (xs.map D.int).length ≤ 1048576 := by simp; (first | lia | omega)
  have hl : (xs.map D.int).length = xs.length := by simp
  apply Exists.intro
  conv => lhs; arg 2; whnf
  refine b_next (s_own rfl rfl) ?_
  refine b_next (σ1 := stM xs ((List.range (min 4 xs.length)).foldl (fun y i => (some i, y.2 ++ [modeK xs i])) (none, []))) (s_for rfl (d := .range 0 ((min 4 xs.length : Nat) : Int) 1) ?_ (it_rangeN (by (first | lia | omega))) ?_) ?_
  · rw [← min_int, ← hl]
    (repeat' (first | with_reducible (first | exact r_int | exact r_none | exact r_bool | exact r_part0 | exact r_nil | exact r_ifs0) | ((with_reducible refine r_str ?_) <;> rfl) | ((with_reducible refine r_var ?_ ?_) <;> rfl) | ((with_reducible refine r_glob ?_ ?_) <;> rfl) | with_reducible (first | apply r_bin | apply r_neg | apply r_not | apply r_cmp | apply r_slc | apply r_part | apply r_sub | apply r_cons | apply r_list | apply r_tuple | apply r_meth | apply r_call | apply r_comp | apply r_clause | apply r_one | apply r_ifs1 | apply t_not | apply t_bool | apply t_cmp | apply t_and | apply t_or | exact t_and0 | exact t_or0) | rfl | exact if_pos (by first | assumption | omega) | decide))
  · refine f_foldI (S := stM xs) (y := (none, [])) (fun y m => y.2.length + m ≤ 60) (by simp; (first | lia | omega)) (fun y x hx m hm => ⟨by simp; omega, ?_⟩) rfl
    obtain ⟨q, ms⟩ := y
    have hx2 : x < 4 := by have := List.mem_range.mp hx; (first | lia | omega)
    first | with_reducible exact ns q | cases q
    all_goals
      refine ⟨_, rfl, b_next (s_app rfl ⟨rfl, rfl, rfl⟩ (d := .int (modeK xs x)) ?_ (by simp at hm ⊢; (first | lia | omega))) (b_end (by unfold stM; rw [List.map_append]; rfl))⟩
      refine r_bin (a := .int (picks xs x).sum) (r_call rfl rfl (r_glob rfl rfl) (r_cons (d := .list ((picks xs x).map .int)) ?_ r_nil) call_sum) r_int rfl
      refine r_comp rfl (r_peek (d := .range 0 (xs.length : Int) 1) rfl (by rw [← hl]; (repeat' (first | with_reducible (first | exact r_int | exact r_none | exact r_bool | exact r_part0 | exact r_nil | exact r_ifs0) | ((with_reducible refine r_str ?_) <;> rfl) | ((with_reducible refine r_var ?_ ?_) <;> rfl) | ((with_reducible refine r_glob ?_ ?_) <;> rfl) | with_reducible (first | apply r_bin | apply r_neg | apply r_not | apply r_cmp | apply r_slc | apply r_part | apply r_sub | apply r_cons | apply r_list | apply r_tuple | apply r_meth | apply r_call | apply r_comp | apply r_clause | apply r_one | apply r_ifs1 | apply t_not | apply t_bool | apply t_cmp | apply t_and | apply t_or | exact t_and0 | exact t_or0) | rfl | exact if_pos (by first | assumption | omega) | decide))) (it_rangeN (by (first | lia | omega)))) (by simp; (first | lia | omega)) (r_clause rfl ?_) ?_
      · unfold picks
        rw [List.map_map]
        refine cat_fm fun i hi => r_one (r_ifs1 (t_cmp rfl (r_bin (r_var rfl rfl) r_int rfl) (r_var rfl rfl) ?_)) (r_sub rfl (r_var rfl rfl) (r_var rfl rfl) (item_map (by (first | lia | omega)) ?_))
        · rfl
        · have := List.mem_range.mp hi
          simp [this]
      · unfold picks
        simp only [List.length_map]
        exact Nat.le_trans (List.length_filter_le _ _) (by simp; (first | lia | omega))
  · refine b_ret (s_ret ?_)
    generalize hY : (List.range (min 4 xs.length)).foldl (fun (y : Option Nat × List Int) i => (some i, y.2 ++ [modeK xs i])) (none, []) = Y
    have h2 : Y.2 = (List.range (min 4 xs.length)).map (modeK xs) := by rw [← hY, fold_snd]; rfl
    have hl2 : (Y.2.map D.int).length = min 4 xs.length := by rw [h2]; simp
    have e : (4 : Int) - ((Y.2.map D.int).length : Int) = ((4 - min 4 xs.length : Nat) : Int) := by rw [hl2]; (first | lia | omega)
    have res : (modesL xs).map D.int = Y.2.map D.int ++ sliceD [D.int 3493, D.int 1716, D.int 2319, D.int 1296] none (some ((4 : Int) - ((Y.2.map D.int).length : Int))) := by
      rw [e, slice_to, h2]; unfold modesL; rw [List.map_append, List.map_take]; rfl
    rw [res]
    refine r_bin (a := .list (Y.2.map .int)) (r_var rfl rfl) (r_slc (a := none) (by (repeat' (first | with_reducible (first | exact r_int | exact r_none | exact r_bool | exact r_part0 | exact r_nil | exact r_ifs0) | ((with_reducible refine r_str ?_) <;> rfl) | ((with_reducible refine r_var ?_ ?_) <;> rfl) | ((with_reducible refine r_glob ?_ ?_) <;> rfl) | with_reducible (first | apply r_bin | apply r_neg | apply r_not | apply r_cmp | apply r_slc | apply r_part | apply r_sub | apply r_cons | apply r_list | apply r_tuple | apply r_meth | apply r_call | apply r_comp | apply r_clause | apply r_one | apply r_ifs1 | apply t_not | apply t_bool | apply t_cmp | apply t_and | apply t_or | exact t_and0 | exact t_or0) | rfl | exact if_pos (by first | assumption | omega) | decide))) rfl (r_part (r_bin r_int (r_call rfl rfl (r_glob rfl rfl) (r_cons (r_var rfl rfl) r_nil) (call_len (by (first | lia | omega)))) rfl)) (cut_list (by decide))) (sum_list ?_)
    rw [e, slice_to, hl2]
    simp
    (first | lia | omega)
end
end
section
noncomputable def tab (i : Nat) : Nat := tabN.getD i 0
theorem tab_lt : ∀ i, i < 64 → tab i < 256 ∧ (tab i).toUInt8.toNat = tab i ∧ (tabN.map Nat.toUInt8)[i]? = some (tab i).toUInt8 := by
  have : ∀ i : Fin 64, tab i.1 < 256 ∧ (tab i.1).toUInt8.toNat = tab i.1 ∧ (tabN.map Nat.toUInt8)[i.1]? = some (tab i.1).toUInt8 := by decide +kernel
  exact fun i h => this ⟨i, h⟩
theorem tab_at {i : Nat} (h : i < 64) : itemD (.bytes (tabN.map Nat.toUInt8)) (.int (i : Int)) = some (.int (tab i : Nat)) := by
  obtain ⟨_, h2, h3⟩ := tab_lt i h
  rw [item_bytes (by decide) h3, h2]
noncomputable def lcN (lc b : Nat) : Nat := (lc * 256 ||| b) % 65536
noncomputable def bStep (y : List Nat × Nat × Nat) (b : Nat) : List Nat × Nat × Nat :=
  if y.2.1 = 0 then (y.1 ++ [tab (lcN y.2.2 b / 4 % 64)], 2, lcN y.2.2 b)
  else if y.2.1 = 2 then (y.1 ++ [tab (lcN y.2.2 b / 16 % 64)], 4, lcN y.2.2 b)
  else (y.1 ++ [tab (lcN y.2.2 b / 64 % 64)] ++ [tab (lcN y.2.2 b / 1 % 64)], 0, lcN y.2.2 b)
noncomputable def bS0 (out : List Nat) (lc b : Nat) : List Nat × Nat × Nat := (out ++ [tab (lcN lc b / 4 % 64)], 2, lcN lc b)
noncomputable def bS2 (out : List Nat) (lc b : Nat) : List Nat × Nat × Nat := (out ++ [tab (lcN lc b / 16 % 64)], 4, lcN lc b)
noncomputable def bS4 (out : List Nat) (lc b : Nat) : List Nat × Nat × Nat := (out ++ [tab (lcN lc b / 64 % 64)] ++ [tab (lcN lc b / 1 % 64)], 0, lcN lc b)
noncomputable def stB (bs : List UInt8) (y : Option Nat × List Nat × Nat × Nat) : Vars :=
  (Str.ofString "data", .val (.bytes bs)) :: (Str.ofString "newline", .val (.bool false)) :: (Str.ofString "bin_data", .val (.bytes bs)) :: (Str.ofString "out", .own (y.2.1.map fun (n : Nat) => D.int (n : Int))) :: (Str.ofString "leftbits", .val (.int (y.2.2.1 : Nat))) :: (Str.ofString "leftchar", .val (.int (y.2.2.2 : Nat))) :: (match y.1 with | some b => [(Str.ofString "b", .val (.int (b : Nat)))] | none => [])
theorem lc_is (lc b : Nat) : binD .BitAnd (.int (Builtin.bitOr ((lc : Int) * 2 ^ (8 : Int).toNat) (b : Int))) (.int 65535) = some (.int (lcN lc b : Nat)) := by
  show some (D.int (Builtin.bitAnd _ 65535)) = _
  have e : (lc : Int) * 2 ^ (8 : Int).toNat = ((lc * 256 : Nat) : Int) := by
    show (lc : Int) * 2 ^ 8 = _
    (first | lia | omega)
  rw [e, or_nat, bitAnd_m16]
  unfold lcN
  congr 2
theorem sh_is (lc j m : Nat) (hm : m = 2 ^ j) : binD .BitAnd (.int ((lc : Int) / 2 ^ ((j : Nat) : Int).toNat)) (.int 63) = some (.int ((lc / m % 64 : Nat) : Int)) := by
  show some (D.int (Builtin.bitAnd _ 63)) = _
  rw [bitAnd_m6, hm]
  congr 2
theorem bStep_lb (y : List Nat × Nat × Nat) (b : Nat) (h : y.2.1 = 0 ∨ y.2.1 = 2 ∨ y.2.1 = 4) : (bStep y b).2.1 = 0 ∨ (bStep y b).2.1 = 2 ∨ (bStep y b).2.1 = 4 := by
  unfold bStep; split
  · exact .inr (.inl rfl)
  · split
    · exact .inr (.inr rfl)
    · exact .inl rfl
theorem lcN_lt (lc b : Nat) : lcN lc b < 65536 := Nat.mod_lt _ (by decide)
structure HasH (O : Orc) : Prop where
  buf : ∀ b, O.call (.ref 70) [.bytes b] = some (.bytes b)
  tru : O.call (.ref 77) [.bool false] = some (.bool false)
section
variable {O : Orc} (hO : O.glob = fun x => globs.lookup x)
include hO
set_option maxRecDepth 100000 in
theorem b_loop (P : Params) (bs : List UInt8) (y : Option Nat × List Nat × Nat × Nat) (x : UInt8) (hlb : y.2.2.1 = 0 ∨ y.2.2.1 = 2 ∨ y.2.2.1 = 4) (hlc : y.2.2.2 < 65536) (hlen : y.2.1.length < 10000) :
    ∃ σ1, setT (scIn (hd.heap_39 P) 85) (forTg (stAt (bodyIn (hd.heap_39 P) 85) 5)) (stB bs y) (.int x.toNat) = some σ1 ∧ blkD (exS O [Str.ofString "out"] 19 (scIn (hd.heap_39 P) 85)) (forB (stAt (bodyIn (hd.heap_39 P) 85) 5)) σ1 = some (stB bs (some x.toNat, bStep y.2 x.toNat), .next) := by
  obtain ⟨g, c⟩ := O
  subst hO
  obtain ⟨q, out, lb, lc⟩ := y
  first | dsimp only at hlb hlc hlen | simp only at hlb hlc hlen
  have hn : (lc : Int).natAbs < 2 ^ 64 := by (first | lia | omega)
  refine ⟨stB bs (some x.toNat, out, lb, lc), by cases q <;> rfl, ?_⟩
  rcases hlb with rfl | rfl | rfl
  all_goals
    conv => lhs; arg 2; whnf
    refine b_next (s_asg rfl rfl (r_bin (r_bin (r_bin (r_var rfl rfl) r_int (if_pos ⟨by decide, by decide, hn⟩)) (r_var rfl rfl) rfl) r_int (lc_is lc x.toNat))) ?_
    refine b_next (s_asg rfl rfl (r_bin (r_var rfl rfl) r_int rfl)) ?_
  · refine b_next (s_while (w_go (t_cmp rfl (r_var rfl rfl) r_int rfl) (b_next (s_app rfl ⟨rfl, rfl, rfl⟩ (r_sub rfl (r_glob rfl rfl) (r_bin (r_bin (r_var rfl rfl) (r_bin (r_var rfl rfl) r_int rfl) (bin_shr (by (first | exact List.mem_cons_self | exact List.mem_cons_of_mem _ List.mem_cons_self | decide | simp)))) r_int (sh_is _ 2 4 rfl)) (tab_at (Nat.mod_lt _ (by decide)))) (by simp; (first | lia | omega))) (b_next (s_asg rfl rfl (r_bin (r_var rfl rfl) r_int rfl)) b_nil)) (w_stop (t_cmp rfl (r_var rfl rfl) r_int rfl)))) (b_end ?_)
    show _ = stB bs (some x.toNat, bS0 out lc x.toNat)
    unfold stB bS0
    simp only [List.map_append, List.append_assoc]
    rfl
  · refine b_next (s_while (w_go (t_cmp rfl (r_var rfl rfl) r_int rfl) (b_next (s_app rfl ⟨rfl, rfl, rfl⟩ (r_sub rfl (r_glob rfl rfl) (r_bin (r_bin (r_var rfl rfl) (r_bin (r_var rfl rfl) r_int rfl) (bin_shr (by (first | exact List.mem_cons_self | exact List.mem_cons_of_mem _ List.mem_cons_self | decide | simp)))) r_int (sh_is _ 4 16 rfl)) (tab_at (Nat.mod_lt _ (by decide)))) (by simp; (first | lia | omega))) (b_next (s_asg rfl rfl (r_bin (r_var rfl rfl) r_int rfl)) b_nil)) (w_stop (t_cmp rfl (r_var rfl rfl) r_int rfl)))) (b_end ?_)
    show _ = stB bs (some x.toNat, bS2 out lc x.toNat)
    unfold stB bS2
    simp only [List.map_append, List.append_assoc]
    rfl
  · refine b_next (s_while (w_go (t_cmp rfl (r_var rfl rfl) r_int rfl) (b_next (s_app rfl ⟨rfl, rfl, rfl⟩ (r_sub rfl (r_glob rfl rfl) (r_bin (r_bin (r_var rfl rfl) (r_bin (r_var rfl rfl) r_int rfl) (bin_shr (by (first | exact List.mem_cons_self | exact List.mem_cons_of_mem _ List.mem_cons_self | decide | simp)))) r_int (sh_is _ 6 64 rfl)) (tab_at (Nat.mod_lt _ (by decide)))) (by simp; (first | lia | omega))) (b_next (s_asg rfl rfl (r_bin (r_var rfl rfl) r_int rfl)) b_nil)) (w_go (t_cmp rfl (r_var rfl rfl) r_int rfl) (b_next (s_app rfl ⟨rfl, rfl, rfl⟩ (r_sub rfl (r_glob rfl rfl) (r_bin (r_bin (r_var rfl rfl) (r_bin (r_var rfl rfl) r_int rfl) (bin_shr (by (first | exact List.mem_cons_self | exact List.mem_cons_of_mem _ List.mem_cons_self | decide | simp)))) r_int (sh_is _ 0 1 rfl)) (tab_at (Nat.mod_lt _ (by decide)))) (by simp; (first | lia | omega))) (b_next (s_asg rfl rfl (r_bin (r_var rfl rfl) r_int rfl)) b_nil)) (w_stop (t_cmp rfl (r_var rfl rfl) r_int rfl))))) (b_end ?_)
    show _ = stB bs (some x.toNat, bS4 out lc x.toNat)
    unfold stB bS4
    simp only [List.map_append, List.append_assoc]
    rfl
end
end
section
noncomputable def bFold (bs : List UInt8) : List Nat × Nat × Nat := bs.foldl (fun y x => bStep y x.toNat) ([], 0, 0)
theorem fold_b : ∀ (l : List UInt8) (y : Option Nat × List Nat × Nat × Nat), (l.foldl (fun (y : Option Nat × List Nat × Nat × Nat) (x : UInt8) => (some x.toNat, bStep y.2 x.toNat)) y).2 = l.foldl (fun y x => bStep y x.toNat) y.2
  | [], y => rfl
  | a :: l, y => by rw [List.foldl_cons, fold_b l]; rfl
theorem bStep_out (y : List Nat × Nat × Nat) (b : Nat) : (bStep y b).1.length ≤ y.1.length + 2 ∧ ((∀ x ∈ y.1, x < 256) → ∀ x ∈ (bStep y b).1, x < 256) ∧ (bStep y b).2.2 < 65536 := by
  have ht : ∀ i, i < 64 → tab i < 256 := fun i h => (tab_lt i h).1
  have m : ∀ i, i % 64 < 64 := fun i => Nat.mod_lt _ (by decide)
  unfold bStep
  split
  · refine ⟨by simp, fun h x hx => ?_, lcN_lt _ _⟩
    rcases List.mem_append.mp hx with hx | hx
    · exact h x hx
    · rw [List.mem_singleton.mp hx]; exact ht _ (m _)
  · split
    · refine ⟨by simp, fun h x hx => ?_, lcN_lt _ _⟩
      rcases List.mem_append.mp hx with hx | hx
      · exact h x hx
      · rw [List.mem_singleton.mp hx]; exact ht _ (m _)
    · refine ⟨by simp, fun h x hx => ?_, lcN_lt _ _⟩
      rcases List.mem_append.mp hx with hx | hx
      · rcases List.mem_append.mp hx with hx | hx
        · exact h x hx
        · rw [List.mem_singleton.mp hx]; exact ht _ (m _)
      · rw [List.mem_singleton.mp hx]; exact ht _ (m _)
theorem bFold_lt : ∀ (l : List UInt8) (y : List Nat × Nat × Nat), (∀ x ∈ y.1, x < 256) → (∀ x ∈ (l.foldl (fun y x => bStep y x.toNat) y).1, x < 256) ∧ (l.foldl (fun y x => bStep y x.toNat) y).1.length ≤ y.1.length + 2 * l.length
  | [], y, h => ⟨h, by simp⟩
  | a :: l, y, h => by
    obtain ⟨h1, h2, _⟩ := bStep_out y a.toNat
    obtain ⟨h3, h4⟩ := bFold_lt l (bStep y a.toNat) (h2 h)
    exact ⟨h3, by rw [List.foldl_cons, List.length_cons]; omega⟩
noncomputable def bEnd (bs : List UInt8) : Option Nat × List Nat × Nat × Nat := bs.foldl (fun (y : Option Nat × List Nat × Nat × Nat) (x : UInt8) => (some x.toNat, bStep y.2 x.toNat)) (none, [], 0, 0)
theorem bEnd_is (bs : List UInt8) : (bEnd bs).2 = bFold bs := fold_b bs (none, [], 0, 0)
section
variable {O : Orc} (hO : O.glob = fun x => globs.lookup x) (H : HasH O)
include hO H
set_option maxRecDepth 100000 in
set_option maxHeartbeats 800000 in
theorem e_b2a (P : Params) (bs : List UInt8) (hz : bs.length ≤ 1000) (h0 : (bFold bs).2.1 = 0) : Rets O [Str.ofString "out"] 20 (hd.heap_39 P) 85 [(Str.ofString "data", .val (.bytes bs)), (Str.ofString "newline", .val (.bool false))] (.bytes ((bFold bs).1.map Nat.toUInt8)) := by
  have hb := fun y x => b_loop hO P bs y x
  obtain ⟨g, c⟩ := O
  subst hO
  apply Exists.intro
  conv => lhs; arg 2; whnf
  refine b_next (s_asg rfl rfl (r_call rfl rfl (r_glob rfl rfl) (r_cons (r_var rfl rfl) r_nil) (H.buf bs))) ?_
  refine b_next (s_asg rfl rfl (r_call rfl rfl (r_glob rfl rfl) (r_cons (r_var rfl rfl) r_nil) H.tru)) ?_
  refine b_next (s_own rfl rfl) (b_next (s_asg rfl rfl r_int) (b_next (s_asg rfl rfl r_int) ?_))
  refine b_next (σ1 := stB bs (bEnd bs)) (s_for rfl (r_var rfl rfl) (ds := bs.map fun c => .int c.toNat) rfl ?_) ?_
  · refine f_foldI (S := stB bs) (y := (none, [], 0, 0)) (fun y m => (y.2.2.1 = 0 ∨ y.2.2.1 = 2 ∨ y.2.2.1 = 4) ∧ y.2.2.2 < 65536 ∧ y.2.1.length + 2 * m ≤ 2000) (by simp; (first | lia | omega)) (fun y x hx m hm => ⟨⟨bStep_lb _ _ hm.1, (bStep_out _ _).2.2, ?_⟩, hb y x hm.1 hm.2.1 (by (first | lia | omega))⟩) rfl
    have := (bStep_out y.2 x.toNat).1
    first | dsimp only at this ⊢ | simp only at this ⊢
    (first | lia | omega)
  · have h2 := bEnd_is bs
    have hl : (bEnd bs).2.2.1 = 0 := by rw [h2, h0]
    have t2 : cmpD .Eq (.int (((bEnd bs).2.2.1 : Nat) : Int)) (.int 2) = some false := by rw [hl]; rfl
    have t4 : cmpD .Eq (.int (((bEnd bs).2.2.1 : Nat) : Int)) (.int 4) = some false := by rw [hl]; rfl
    obtain ⟨q1, q2⟩ := bFold_lt bs ([], 0, 0) (by (first | exact List.mem_cons_self | exact List.mem_cons_of_mem _ List.mem_cons_self | decide | simp))
    rw [← h2]
    refine b_next (s_ifF (t_cmp rfl (r_var rfl rfl) r_int t2) (b_next (s_ifF (t_cmp rfl (r_var rfl rfl) r_int t4) b_nil) b_nil)) ?_
    refine b_next (s_ifF (t_val rfl (r_var rfl rfl) rfl) b_nil) ?_
    refine b_ret (s_ret (d := .bytes ((bEnd bs).2.1.map Nat.toUInt8)) ?_)
    refine r_call (d := .cst (.type "bytes")) (ds := [.list ((bEnd bs).2.1.map fun (n : Nat) => D.int (n : Int))]) rfl rfl (r_glob rfl rfl) (r_cons (r_var rfl rfl) r_nil) (call_bytes ?_ ?_)
    · rw [h2]; unfold bFold; simp at q2; (first | lia | omega)
    · rw [h2]; exact q1
end
end
section
section
variable {prog : Program} {w : World} {P : Params} {p : Program} {loose : List Str} {mg mb : Str → Option Value} {h₀ : Heap}
set_option maxRecDepth 100000 in
theorem fd85 (P : Params) : FdOK (fdIn (hd.heap_39 P) 85) (bodyIn (hd.heap_39 P) 85) := ⟨rfl, rfl, rfl, rfl, rfl, rfl, rfl, rfl, rfl⟩
set_option maxRecDepth 100000 in
theorem fn85 (Z : Wd P p loose mg mb h₀) : FnAt h₀ 85 (fdIn (hd.heap_39 P) 85) := fn_at Z.X Z.T.nolimit rfl rfl rfl rfl rfl
set_option maxRecDepth 100000 in
theorem bi85 (P : Params) (u v : Value) : bindArgs (fdIn (hd.heap_39 P) 85) ⟨[u], [(Str.ofString "newline", v)]⟩ = pure ([Str.ofString "data", Str.ofString "newline"].zip [u, v]) := by
  show _ = pure [(Str.ofString "data", u), (Str.ofString "newline", v)]
  have e1 : (fdIn (hd.heap_39 P) 85).params = ⟨[⟨_, _, _⟩], [], none, [⟨_, _, _⟩], [some _], none, []⟩ := rfl
  have e2 : (fdIn (hd.heap_39 P) 85).defaults = .none := rfl
  generalize fdIn (hd.heap_39 P) 85 = fd at e1 e2
  unfold bindArgs
  rw [e1, e2]
  rfl
set_option maxRecDepth 100000 in
theorem hk85 (P : Params) : [Str.ofString "data", Str.ofString "newline"].all (tgtOk (scIn (hd.heap_39 P) 85)) = true := rfl
theorem r85 {O : Orc} (hO : O.glob = fun x => globs.lookup x) (H : HasH O) (P : Params) {bs : List UInt8} (hz : bs.length ≤ 1000) (h0 : (bFold bs).2.1 = 0) : Rets O [Str.ofString "out"] 20 (hd.heap_39 P) 85 ([Str.ofString "data", Str.ofString "newline"].zip ([D.bytes bs, .bool false].map .val)) (.bytes ((bFold bs).1.map Nat.toUInt8)) := e_b2a hO H P bs hz h0
theorem hb85 {h₀ : Heap} (P : Params) (u v : Value) : Bi h₀ (hd.heap_39 P) 85 ⟨[u], [(Str.ofString "newline", v)]⟩ ([Str.ofString "data", Str.ofString "newline"].zip [u, v]) := ⟨fun s _ => by
  have e := bi85 P u v
  generalize fdIn (hd.heap_39 P) 85 = fd at e ⊢
  exact BindsTo.of_eq e⟩
theorem c_b2a {O : Orc} {n : Nat} (hn : 1 ≤ n) (Z : Wd P p loose mg mb h₀) (o : OrcOK prog w n (BaseAt h₀) O) (hO : O.glob = fun x => globs.lookup x) (H : HasH O) {bs : List UInt8} (hz : bs.length ≤ 1000) (h0 : (bFold bs).2.1 = 0) {h : Heap} {W : List Addr} {u v : Value} (b : BaseAt h₀ h W) (al : Al W h) (ru : Rep (fz h W) (.bytes bs) u) (rv : Rep (fz h W) (.bool false) v) :
    Gv prog w (n + 1) W (call (.ref 85) [u] [(Str.ofString "newline", v)]) (.bytes ((bFold bs).1.map Nat.toUInt8)) h := by
  have hb := hb85 (h₀ := h₀) P u v
  have hr := r85 hO H P hz h0
  have hk := hk85 P
  have hf := fd85 P
  have hF := fn85 Z
  generalize hd.heap_39 P = K at hb hr hk hf hF
  refine ct_gen (K := K) (a := 85) (xs := [Str.ofString "data", Str.ofString "newline"]) (ds := [D.bytes bs, .bool false]) (us := [u, v]) (args := ⟨[u], [(Str.ofString "newline", v)]⟩) hn o hf hF hb rfl ?_ hk hr b al ⟨u, [v], rfl, ru, v, [], rfl, rv, rfl⟩
  rfl
set_option maxRecDepth 100000 in
theorem fd93 (P : Params) : FdOK (fdIn (hd.heap_39 P) 93) (bodyIn (hd.heap_39 P) 93) := ⟨rfl, rfl, rfl, rfl, rfl, rfl, rfl, rfl, rfl⟩
set_option maxRecDepth 100000 in
theorem fn93 (Z : Wd P p loose mg mb h₀) : FnAt h₀ 93 (fdIn (hd.heap_39 P) 93) := fn_at Z.X Z.T.nolimit rfl rfl rfl rfl rfl
set_option maxRecDepth 100000 in
theorem bi93 (Z : Wd P p loose mg mb h₀) (u : Value) : Bi h₀ (hd.heap_39 P) 93 ⟨[u], []⟩ ([Str.ofString "s", Str.ofString "altchars"].zip [u, .none]) := ⟨fun s k => by
  show BindsTo s _ _ [(Str.ofString "s", u), (Str.ofString "altchars", .none)]
  have e1 : (fdIn (hd.heap_39 P) 93).params = ⟨[], [⟨_, _, _⟩, ⟨_, _, _⟩], none, [], [], none, [_]⟩ := rfl
  have e2 : (fdIn (hd.heap_39 P) 93).defaults = .ref 86 := rfl
  have e3 : (hd.heap_39 P).lookup 86 = some _ := rfl
  have e4 := k _ _ (Z.X 86 _ e3)
  generalize fdIn (hd.heap_39 P) 93 = fd at e1 e2
  intro M A E Q hq
  unfold bindArgs
  rw [e1, e2]
  refine wpAny_bind (wpAny_pure (wpAny_bind (wpAny_seqItems e4 rfl ?_)))
  exact wpAny_pure hq⟩
end
end
section
section
variable {prog : Program} {w : World} {P : Params} {p : Program} {loose : List Str} {mg mb : Str → Option Value} {h₀ : Heap}
noncomputable def s93 (bs : List UInt8) : Vars := [(Str.ofString "s", .val (.bytes bs)), (Str.ofString "altchars", .val .none)]
noncomputable def s93' (bs : List UInt8) (r : List UInt8) : Vars := [(Str.ofString "s", .val (.bytes bs)), (Str.ofString "altchars", .val .none), (Str.ofString "encoded", .val (.bytes r))]
set_option maxRecDepth 100000 in
theorem b93 (P : Params) : bodyIn (hd.heap_39 P) 93 = stAt (bodyIn (hd.heap_39 P) 93) 0 :: [stAt (bodyIn (hd.heap_39 P) 93) 1, stAt (bodyIn (hd.heap_39 P) 93) 2] := rfl
set_option maxRecDepth 100000 in
theorem rest93 (P : Params) (O : Orc) (bs r : List UInt8) : ∃ σ', blkD (exS O [] 20 (scIn (hd.heap_39 P) 93)) [stAt (bodyIn (hd.heap_39 P) 93) 1, stAt (bodyIn (hd.heap_39 P) 93) 2] (s93' bs r) = some (σ', .ret (.bytes r)) := by
  apply Exists.intro
  conv => lhs; arg 2; arg 1; whnf
  conv => lhs; arg 2; arg 2; arg 1; whnf
  refine b_next (s_ifF (t_cmp rfl (r_var rfl rfl) r_none rfl) b_nil) ?_
  exact b_ret (s_ret (r_var rfl rfl))
set_option maxRecDepth 100000 in
theorem st93 {O O1 : Orc} {n : Nat} (hn : 1 ≤ n) (Z : Wd P p loose mg mb h₀) (o : OrcOK prog w n (BaseAt h₀) O) (hO : O.glob = fun x => globs.lookup x) (H : HasH O) (o1 : OrcOK prog w (n + 1) (BaseAt h₀) O1) (hO1 : O1.glob = fun x => globs.lookup x) {bs : List UInt8} (hz : bs.length ≤ 1000) (h0 : (bFold bs).2.1 = 0) :
    PS prog w (n + 1) (BaseAt h₀) (exec (stAt (bodyIn (hd.heap_39 P) 93) 0)) (scIn (hd.heap_39 P) 93) (s93 bs) (s93' bs ((bFold bs).1.map Nat.toUInt8)) .next := by
  have hfn : (hd.heap_39 P).lookup 85 = some _ := rfl
  have hX := Z.X 85 _ hfn
  have hc := fun {h W u v} (b : BaseAt h₀ h W) (al : Al W h) (ru : Rep (fz h W) (.bytes bs) u) (rv : Rep (fz h W) (.bool false) v) => c_b2a hn Z o hO H hz h0 b al ru rv
  refine asg_gv (x := Str.ofString "encoded") (d := .bytes ((bFold bs).1.map Nat.toUInt8)) o1 rfl (fun {env V W0 X T h} f => ?_) (fun env => rfl)
  refine kw_gv (a := 85) (de := .bytes bs) (dv := .bool false) (name_glob o1 f.base f.eo rfl (by rw [hO1]; rfl)) (name_val f.eo.kind f.vo rfl) rfl (g_bool _ _ _ _) ⟨_, _, f.base.1 _ _ hX, rfl⟩ fun h' u v k ru rv => ?_
  exact hc (f.base.up (fun a ob _ e => k a ob e) fun a m => .inl m) (f.al.mono k) ru rv

set_option maxRecDepth 100000 in
theorem hk93 (P : Params) : [Str.ofString "s", Str.ofString "altchars"].all (tgtOk (scIn (hd.heap_39 P) 93)) = true := rfl
theorem ps93 {O O1 : Orc} {n : Nat} (hn : 1 ≤ n) (Z : Wd P p loose mg mb h₀) (o : OrcOK prog w n (BaseAt h₀) O) (hO : O.glob = fun x => globs.lookup x) (H : HasH O) (o1 : OrcOK prog w (n + 1) (BaseAt h₀) O1) (hO1 : O1.glob = fun x => globs.lookup x) {bs : List UInt8} (hz : bs.length ≤ 1000) (h0 : (bFold bs).2.1 = 0) :
    ∃ σ', PS prog w (n + 1) (BaseAt h₀) (execs (bodyIn (hd.heap_39 P) 93)) (scIn (hd.heap_39 P) 93) (s93 bs) σ' (.ret (.bytes ((bFold bs).1.map Nat.toUInt8))) := by
  obtain ⟨σ', e⟩ := rest93 P O1 bs ((bFold bs).1.map Nat.toUInt8)
  have h1 := st93 hn Z o hO H o1 hO1 hz h0
  have hb := b93 P
  refine ⟨σ', ?_⟩
  rw [hb]
  exact PS.seq h1 (blk_all (Nat.le_succ_of_le hn) o1 20 e)
theorem c_b64 {O O1 : Orc} {n : Nat} (hn : 1 ≤ n) (Z : Wd P p loose mg mb h₀) (o : OrcOK prog w n (BaseAt h₀) O) (hO : O.glob = fun x => globs.lookup x) (H : HasH O) (o1 : OrcOK prog w (n + 1) (BaseAt h₀) O1) (hO1 : O1.glob = fun x => globs.lookup x) {bs : List UInt8} (hz : bs.length ≤ 1000) (h0 : (bFold bs).2.1 = 0) :
    Ct prog w (n + 2) h₀ (.ref 93) [.bytes bs] (.bytes ((bFold bs).1.map Nat.toUInt8)) := fun {h W vs} b al rl => by
  obtain ⟨v, _, rfl, rv, rfl⟩ := rl
  obtain ⟨σ', e⟩ := ps93 hn Z o hO H o1 hO1 hz h0
  have hb := bi93 Z v
  have hk := hk93 P
  have hf := fd93 P
  have hF := fn93 Z
  generalize hd.heap_39 P = K at hb hk hf hF e
  exact ct_ps (K := K) (a := 93) (xs := [Str.ofString "s", Str.ofString "altchars"]) (ds := [D.bytes bs, .none]) (us := [v, .none]) (args := ⟨[v], []⟩) o1 hf hF hb rfl rfl hk e b al ⟨v, [.none], rfl, rv, .none, [], rfl, rfl, rfl⟩
end
end
section
theorem lcN_is (lc b : Nat) (h : b < 256) : lcN lc b = (lc * 256 + b) % 65536 := by
  unfold lcN
  have : lc * 256 ||| b = lc * 256 + b := by
    have e := Nat.two_pow_add_eq_or_of_lt (i := 8) (b := b) h lc
    rw [show (2 : Nat) ^ 8 = 256 from rfl, Nat.mul_comm] at e
    exact e.symm
  rw [this]
structure Quad where
  a : Nat
  b : Nat
  c : Nat
  d : Nat
noncomputable def Quad.ok (q : Quad) : Prop := q.a < 64 ∧ q.b < 64 ∧ q.c < 64 ∧ q.d < 64
noncomputable def Quad.sixes (q : Quad) : List Nat := [q.a, q.b, q.c, q.d]
noncomputable def Quad.octs (q : Quad) : List Nat := [q.a * 4 + q.b / 16, q.b % 16 * 16 + q.c / 4, q.c % 4 * 64 + q.d]
theorem u8 {n : Nat} (h : n < 256) : (n.toUInt8).toNat = n := Nat.mod_eq_of_lt h
theorem dm {x y n : Nat} (h : y < n) : (y + n * x) / n = x := by rw [Nat.add_mul_div_left _ _ (Nat.zero_lt_of_lt h), Nat.div_eq_of_lt h, Nat.zero_add]
theorem mq {x y n : Nat} (h : y < n) : (y + n * x) % n = y := by rw [Nat.add_mul_mod_self_left, Nat.mod_eq_of_lt h]
theorem up {x y m n : Nat} (hx : x < m) (hy : y < n) : x * n + y < m * n := Nat.lt_of_lt_of_le (Nat.add_lt_add_left hy _) (Nat.succ_mul x n ▸ Nat.mul_le_mul_right n hx)
theorem re (a b c : Nat) {m n k : Nat} (h : m * n = k) : (a * m + b) * n + c = (b * n + c) + k * a := by rw [← h, Nat.add_mul, Nat.mul_assoc, Nat.mul_comm a, Nat.add_assoc, Nat.add_comm]
theorem l1 (lc o : Nat) (h : o < 256) : (lc * 256 + o) % 65536 / 4 % 64 = o / 4 := by
  rw [show 65536 = 4 * (64 * 256) from rfl, Nat.mod_mul_right_div_self, Nat.mod_mul_right_mod, Nat.add_comm, show lc * 256 = 4 * (64 * lc) by rw [← Nat.mul_assoc, Nat.mul_comm], Nat.add_mul_div_left _ _ (by decide)]
  exact mq (Nat.div_lt_of_lt_mul h)
theorem l2 (lc o p : Nat) (h : o < 256) (h2 : p < 256) : ((lc * 256 + o) % 65536 * 256 + p) % 65536 = o * 256 + p := by
  have e : (lc * 256 + o) % 65536 = lc % 256 * 256 + o := by
    rw [show 65536 = 256 * 256 from rfl, Nat.mod_mul, Nat.add_comm (lc * 256), Nat.mul_comm lc, dm h, mq h, Nat.add_comm, Nat.mul_comm]
  rw [e, re _ _ _ (show 256 * 256 = 65536 from rfl)]
  exact mq (up h h2)
theorem l3 (o p q : Nat) (h : p < 256) (h2 : q < 256) : ((o * 256 + p) * 256 + q) % 65536 = p * 256 + q := by
  rw [re _ _ _ (show 256 * 256 = 65536 from rfl)]
  exact mq (up h h2)
theorem l4d (a b c d : Nat) (hb : b < 4) (hc : c < 16) (hd : d < 16) : ((a * 4 + b) * 256 + (c * 16 + d)) / 16 % 64 = b * 16 + c := by
  rw [show (a * 4 + b) * 256 + (c * 16 + d) = d + 16 * ((a * 4 + b) * 16 + c) by rw [Nat.mul_add, ← Nat.add_assoc, Nat.add_comm, Nat.mul_comm 16 (_ * 16), Nat.mul_assoc, Nat.mul_comm 16 c, Nat.add_comm d], dm hd, re _ _ _ (show 4 * 16 = 64 from rfl)]
  exact mq (up hb hc)
theorem l5d (b c d e : Nat) (hc : c < 16) (hd : d < 4) (he : e < 64) : ((b * 16 + c) * 256 + (d * 64 + e)) / 64 % 64 = c * 4 + d := by
  rw [show (b * 16 + c) * 256 + (d * 64 + e) = e + 64 * ((b * 16 + c) * 4 + d) by rw [Nat.mul_add, ← Nat.add_assoc, Nat.add_comm, Nat.mul_comm 64 (_ * 4), Nat.mul_assoc, Nat.mul_comm 64 d, Nat.add_comm e], dm he, re _ _ _ (show 16 * 4 = 64 from rfl)]
  exact mq (up hc hd)
theorem l4 (a b c : Nat) (hb : b < 64) (hc : c < 64) : ((a * 4 + b / 16) * 256 + (b % 16 * 16 + c / 4)) / 16 % 64 = b :=
  (l4d a (b / 16) (b % 16) (c / 4) (Nat.div_lt_of_lt_mul hb) (Nat.mod_lt _ (by decide)) (Nat.div_lt_of_lt_mul hc)).trans (Nat.div_add_mod' b 16)
theorem l5 (b c d : Nat) (hc : c < 64) (hd : d < 64) : ((b % 16 * 16 + c / 4) * 256 + (c % 4 * 64 + d)) / 64 % 64 = c :=
  (l5d (b % 16) (c / 4) (c % 4) d (Nat.div_lt_of_lt_mul hc) (Nat.mod_lt _ (by decide)) hd).trans (Nat.div_add_mod' c 4)
theorem l6 (b c d : Nat) (hd : d < 64) : ((b % 16 * 16 + c / 4) * 256 + (c % 4 * 64 + d)) / 1 % 64 = d := by
  rw [Nat.div_one, ← Nat.add_assoc, show 256 = 4 * 64 from rfl, ← Nat.mul_assoc, ← Nat.add_mul, Nat.add_comm, Nat.mul_comm _ 64]
  exact mq hd
theorem o_1 {a b : Nat} (ha : a < 64) (hb : b < 64) : a * 4 + b / 16 < 256 := up ha (Nat.div_lt_of_lt_mul hb)
theorem o_2 (b : Nat) {c : Nat} (hc : c < 64) : b % 16 * 16 + c / 4 < 256 := up (m := 16) (Nat.mod_lt _ (by decide)) (Nat.div_lt_of_lt_mul hc)
theorem o_3 (c : Nat) {d : Nat} (hd : d < 64) : c % 4 * 64 + d < 256 := up (m := 4) (Nat.mod_lt _ (by decide)) hd
theorem quad_step (out : List Nat) (lc : Nat) (q : Quad) (h : q.ok) : ∃ lc', (q.octs.map Nat.toUInt8).foldl (fun y x => bStep y x.toNat) (out, 0, lc) = (out ++ q.sixes.map tab, 0, lc') := by
  obtain ⟨a, b, c, d⟩ := q
  obtain ⟨ha, hb, hc, hd⟩ := h
  first | dsimp only at ha hb hc hd | simp only at ha hb hc hd
  have o1 := o_1 ha hb
  have o2 := o_2 b hc
  have o3 := o_3 c hd
  show ∃ lc', bStep (bStep (bStep (out, 0, lc) (Nat.toUInt8 (a * 4 + b / 16)).toNat) (Nat.toUInt8 (b % 16 * 16 + c / 4)).toNat) (Nat.toUInt8 (c % 4 * 64 + d)).toNat = _
  rw [u8 o1, u8 o2, u8 o3]
  show ∃ lc', bStep (bStep (bS0 out lc (a * 4 + b / 16)) (b % 16 * 16 + c / 4)) (c % 4 * 64 + d) = _
  unfold bS0
  show ∃ lc', bStep (bS2 _ _ (b % 16 * 16 + c / 4)) (c % 4 * 64 + d) = _
  unfold bS2
  show ∃ lc', bS4 _ _ (c % 4 * 64 + d) = _
  unfold bS4
  rw [lcN_is _ _ o1, lcN_is _ _ o2, lcN_is _ _ o3]
  dsimp only
  have e2 := l2 lc _ _ o1 o2
  have e3 : ((lc * 256 + (a * 4 + b / 16)) % 65536 * 256 + (b % 16 * 16 + c / 4)) % 65536 * 256 + (c % 4 * 64 + d) = ((a * 4 + b / 16) * 256 + (b % 16 * 16 + c / 4)) * 256 + (c % 4 * 64 + d) := by rw [e2]
  rw [e3, e2, l1 lc _ o1, l3 _ _ _ o2 o3]
  generalize hx : a * 4 + b / 16 = x
  have f1 : x / 4 = a := by rw [← hx, Nat.add_comm, Nat.mul_comm]; exact dm (Nat.div_lt_of_lt_mul hb)
  have f2 := l4 a b c hb hc
  have f3 := l5 b c d hc hd
  have f4 := l6 b c d hd
  rw [← hx, f2, hx, f3, f4, f1]
  refine ⟨(b % 16 * 16 + c / 4) * 256 + (c % 4 * 64 + d), ?_⟩
  simp [Quad.sixes]
theorem quads_fold : ∀ (qs : List Quad) (out : List Nat) (lc : Nat), (∀ q ∈ qs, q.ok) → ∃ lc', ((qs.flatMap Quad.octs).map Nat.toUInt8).foldl (fun y x => bStep y x.toNat) (out, 0, lc) = (out ++ (qs.flatMap Quad.sixes).map tab, 0, lc')
  | [], out, lc, _ => ⟨lc, by simp⟩
  | q :: qs, out, lc, h => by
    obtain ⟨lc1, e1⟩ := quad_step out lc q (h q (by (first | exact List.mem_cons_self | exact List.mem_cons_of_mem _ List.mem_cons_self | decide | simp)))
    obtain ⟨lc2, e2⟩ := quads_fold qs (out ++ q.sixes.map tab) lc1 fun z m => h z (by simp [m])
    refine ⟨lc2, ?_⟩
    rw [List.flatMap_cons, List.map_append, List.foldl_append, e1, e2, List.flatMap_cons, List.map_append, List.append_assoc]
theorem b64_quads (qs : List Quad) (h : ∀ q ∈ qs, q.ok) : (bFold ((qs.flatMap Quad.octs).map Nat.toUInt8)).1 = (qs.flatMap Quad.sixes).map tab ∧ (bFold ((qs.flatMap Quad.octs).map Nat.toUInt8)).2.1 = 0 := by
  obtain ⟨lc, e⟩ := quads_fold qs [] 0 h
  unfold bFold
  rw [e]
  exact ⟨by simp, rfl⟩
end
section
noncomputable abbrev nI (n : Nat) : D := .int (n : Int)
theorem item_at {ds : List D} {j : Int} {n : Nat} {d : D} (hz : ds.length ≤ 1048576) (hj : j = (n : Int)) (h : ds[n]? = some d) : itemD (.list ds) (.int j) = some d := by subst hj; exact item_list hz h
theorem six_get : ∀ {qs : List Quad} {i : Nat} {q : Quad}, qs[i]? = some q → (qs.flatMap Quad.sixes)[4 * i]? = some q.a ∧ (qs.flatMap Quad.sixes)[4 * i + 1]? = some q.b ∧ (qs.flatMap Quad.sixes)[4 * i + 2]? = some q.c ∧ (qs.flatMap Quad.sixes)[4 * i + 3]? = some q.d
  | [], _, _, e => by simp at e
  | q0 :: qs, 0, q, e => by
    simp at e; subst e
    rw [List.flatMap_cons]
    exact ⟨rfl, rfl, rfl, rfl⟩
  | q0 :: qs, i + 1, q, e => by
    have ih := six_get (qs := qs) (i := i) (q := q) (by simpa using e)
    rw [List.flatMap_cons]
    have l : q0.sixes.length = 4 := rfl
    have g : ∀ j, (q0.sixes ++ qs.flatMap Quad.sixes)[4 * (i + 1) + j]? = (qs.flatMap Quad.sixes)[4 * i + j]? := fun j => by
      rw [List.getElem?_append_right (by (first | lia | omega)), l]
      congr 1; (first | lia | omega)
    exact ⟨(g 0).trans ih.1, (g 1).trans ih.2.1, (g 2).trans ih.2.2.1, (g 3).trans ih.2.2.2⟩
theorem six_len (qs : List Quad) : (qs.flatMap Quad.sixes).length = 4 * qs.length := by
  induction qs with
  | nil => rfl
  | cons q qs ih => rw [List.flatMap_cons, List.length_append, ih]; simp [Quad.sixes]; (first | lia | omega)
theorem oct_len (qs : List Quad) : (qs.flatMap Quad.octs).length = 3 * qs.length := by
  induction qs with
  | nil => rfl
  | cons q qs ih => rw [List.flatMap_cons, List.length_append, ih]; simp [Quad.octs]; (first | lia | omega)
noncomputable def stW (vs : List Nat) (qs : List Quad) (y : Option (Nat × Quad) × List Nat) : Vars :=
  (Str.ofString "values", .val (.list (vs.map nI))) :: (Str.ofString "filled", .val (.list ((qs.flatMap Quad.sixes).map nI))) :: (Str.ofString "octets", .val (.list (y.2.map nI))) ::
    (match y.1 with | some (i, q) => [(Str.ofString "k", .val (.int (0 + (i : Int) * 4))), (Str.ofString "a", .val (nI q.a)), (Str.ofString "b", .val (nI q.b)), (Str.ofString "c", .val (nI q.c)), (Str.ofString "d", .val (nI q.d))] | none => [])
theorem oct_is (q : Quad) : [D.int ((q.a : Int) * 4 + (q.b : Int) / 16), D.int ((q.b : Int) % 16 * 16 + (q.c : Int) / 4), D.int ((q.c : Int) % 4 * 64 + (q.d : Int))] = q.octs.map nI := by
  unfold Quad.octs
  simp only [List.map_cons, List.map_nil]
  congr 2
section
variable {O : Orc} (hO : O.glob = fun x => globs.lookup x)
include hO
set_option maxRecDepth 100000 in
theorem w_loop (P : Params) (vs : List Nat) (qs : List Quad) (y : Option (Nat × Quad) × List Nat) (i : Nat) (q : Quad) (hq : qs[i]? = some q) (hok : q.ok) (hz : qs.length ≤ 100) (hy : y.2.length ≤ 1000) :
    ∃ σ1, setT (scIn (hd.heap_39 P) 171) (forTg (stAt (bodyIn (hd.heap_39 P) 171) 2)) (stW vs qs y) (.int (0 + (i : Int) * 4)) = some σ1 ∧ blkD (exS O [] 19 (scIn (hd.heap_39 P) 171)) (forB (stAt (bodyIn (hd.heap_39 P) 171) 2)) σ1 = some (stW vs qs (some (i, q), y.2 ++ q.octs), .next) := by
  obtain ⟨g, c⟩ := O
  subst hO
  obtain ⟨z, os⟩ := y
  first | dsimp only at hy | simp only at hy
  obtain ⟨ha, hb, hc, hd'⟩ := hok
  obtain ⟨g0, g1, g2, g3⟩ := six_get hq
  have gl : ((qs.flatMap Quad.sixes).map nI).length ≤ 1048576 := by rw [List.length_map, six_len]; (first | lia | omega)
  have i0 : itemD (.list ((qs.flatMap Quad.sixes).map nI)) (.int (0 + (i : Int) * 4)) = some (nI q.a) := item_at gl (n := 4 * i) (by rw [Int.zero_add, Int.mul_comm]; rfl) (by rw [List.getElem?_map, g0]; rfl)
  have i1 : itemD (.list ((qs.flatMap Quad.sixes).map nI)) (.int (0 + (i : Int) * 4 + 1)) = some (nI q.b) := item_at gl (n := 4 * i + 1) (by rw [Int.zero_add, Int.mul_comm]; rfl) (by rw [List.getElem?_map, g1]; rfl)
  have i2 : itemD (.list ((qs.flatMap Quad.sixes).map nI)) (.int (0 + (i : Int) * 4 + 2)) = some (nI q.c) := item_at gl (n := 4 * i + 2) (by rw [Int.zero_add, Int.mul_comm]; rfl) (by rw [List.getElem?_map, g2]; rfl)
  have i3 : itemD (.list ((qs.flatMap Quad.sixes).map nI)) (.int (0 + (i : Int) * 4 + 3)) = some (nI q.d) := item_at gl (n := 4 * i + 3) (by rw [Int.zero_add, Int.mul_comm]; rfl) (by rw [List.getElem?_map, g3]; rfl)
  have na : ((q.a : Nat) : Int).natAbs < 2 ^ 64 := Nat.lt_trans ha (by decide)
  have nb : ((q.b : Nat) : Int).natAbs < 2 ^ 64 := Nat.lt_trans hb (by decide)
  have nb2 : (((q.b : Nat) : Int) % 16).natAbs < 2 ^ 64 := Nat.lt_trans (Nat.mod_lt q.b (show 0 < 16 by decide)) (by decide)
  have nc2 : (((q.c : Nat) : Int) % 4).natAbs < 2 ^ 64 := Nat.lt_trans (Nat.mod_lt q.c (show 0 < 4 by decide)) (by decide)
  rcases z with _ | ⟨j, q'⟩
  all_goals
    refine ⟨_, rfl, ?_⟩
    conv => lhs; arg 2; whnf
    refine b_next (s_disp rfl (m_val rfl (r_sub rfl (r_var rfl rfl) (r_var rfl rfl) i0) (m_val rfl (r_sub rfl (r_var rfl rfl) (r_bin (r_var rfl rfl) r_int rfl) i1) (m_val rfl (r_sub rfl (r_var rfl rfl) (r_bin (r_var rfl rfl) r_int rfl) i2) (m_val rfl (r_sub rfl (r_var rfl rfl) (r_bin (r_var rfl rfl) r_int rfl) i3) m_nil)))) rfl) ?_
    refine b_next (s_asg rfl rfl (d := .list (os.map nI ++ q.octs.map nI)) (r_bin (a := .list (os.map nI)) (b := .list (q.octs.map nI)) (r_var rfl rfl) ?_ (sum_list (by simp [Quad.octs]; (first | lia | omega))))) (b_end (by unfold stW; rw [List.map_append]; rfl))
    rw [← oct_is]
    refine r_list rfl (r_cons (r_bin (r_bin (r_var rfl rfl) r_int (bin_mul na)) (r_bin (r_var rfl rfl) r_int (bin_div (by decide))) rfl) (r_cons (r_bin (r_bin (r_bin (r_var rfl rfl) r_int (bin_mod (by decide))) r_int (bin_mul nb2)) (r_bin (r_var rfl rfl) r_int (bin_div (by decide))) rfl) (r_cons (r_bin (r_bin (r_bin (r_var rfl rfl) r_int (bin_mod (by decide))) r_int (bin_mul nc2)) (r_var rfl rfl) rfl) r_nil))) (by (first | exact List.mem_cons_self | exact List.mem_cons_of_mem _ List.mem_cons_self | decide | simp))
end
end
section
theorem call_join {xs : List (List Nat)} (hz : xs.flatten.length ≤ 1048576) : callM (Str.ofString "join") (.str []) [.list (xs.map .str)] = some (.str xs.flatten) := by
  show (if Str.ofString "join" = Str.ofString "join" then (strsD (xs.map .str)).bind _ else none) = _
  rw [if_pos rfl, strs_map]
  exact if_pos hz
theorem call_chr {O : Orc} {i : Nat} (h : i ≤ 1114111) : applyD O (.cst (.builtin "chr")) [.int (i : Int)] = some (.str [i]) := by
  show (if 0 ≤ (i : Int) ∧ (i : Int) ≤ 1114111 then some (D.str [(i : Int).toNat]) else none) = _
  rw [if_pos ⟨by (first | lia | omega), by (first | lia | omega)⟩]; rfl
theorem rep_zero : ∀ m : Nat, (List.replicate m [D.int 0]).flatten = (List.replicate m 0).map nI
  | 0 => rfl
  | m + 1 => by rw [List.replicate_succ, List.flatten_cons, rep_zero m]; rfl
theorem pad_all : ∀ r : Fin 4, (-((r.1 : Nat) : Int)) % 4 = (((4 - r.1) % 4 : Nat) : Int) ∧ (r.1 + (4 - r.1) % 4) % 4 = 0 := by decide
theorem pad_is (n : Nat) : (-(n : Int)) % 4 = (((4 - n % 4) % 4 : Nat) : Int) := by
  have e : (n : Int) = ((n % 4 : Nat) : Int) + 4 * ((n / 4 : Nat) : Int) := congrArg (fun z : Nat => (z : Int)) (Nat.mod_add_div n 4).symm
  rw [e, Int.neg_add, ← Int.mul_neg, Int.add_mul_emod_self_left]
  exact (pad_all ⟨n % 4, Nat.mod_lt _ (by decide)⟩).1
theorem pad_0 (n : Nat) : (n + (4 - n % 4) % 4) % 4 = 0 := by
  rw [Nat.add_mod, Nat.mod_mod]
  exact (pad_all ⟨n % 4, Nat.mod_lt _ (by decide)⟩).2
noncomputable def padN (vs : List Nat) : Nat := (4 - vs.length % 4) % 4
noncomputable def wStep (qs : List Quad) (y : Option (Nat × Quad) × List Nat) (i : Nat) : Option (Nat × Quad) × List Nat := (some (i, qs.getD i ⟨0, 0, 0, 0⟩), y.2 ++ (qs.getD i ⟨0, 0, 0, 0⟩).octs)
noncomputable def wEnd (qs : List Quad) : Option (Nat × Quad) × List Nat := (List.range qs.length).foldl (wStep qs) (none, [])
theorem wfold (qs : List Quad) : ∀ (l : List Nat) (y : Option (Nat × Quad) × List Nat), (l.foldl (wStep qs) y).2 = y.2 ++ l.flatMap fun i => (qs.getD i ⟨0, 0, 0, 0⟩).octs
  | [], y => by simp
  | a :: l, y => by rw [List.foldl_cons, wfold qs l, List.flatMap_cons]; simp [wStep]
theorem range_getD (qs : List Quad) : (List.range qs.length).flatMap (fun i => (qs.getD i ⟨0, 0, 0, 0⟩).octs) = qs.flatMap Quad.octs := by
  have : (List.range qs.length).map (fun i => qs.getD i ⟨0, 0, 0, 0⟩) = qs := by
    apply List.ext_getElem
    · simp
    · intro i h1 h2
      simp [h2]
  conv => rhs; rw [← this]
  rw [List.flatMap_map]
theorem wEnd_is (qs : List Quad) : (wEnd qs).2 = qs.flatMap Quad.octs := by
  unfold wEnd; rw [wfold, range_getD]; rfl
theorem oct_lt {qs : List Quad} (h : ∀ q ∈ qs, q.ok) : ∀ x ∈ qs.flatMap Quad.octs, x < 256 := fun x m => by
  obtain ⟨q, mq, mx⟩ := List.mem_flatMap.mp m
  obtain ⟨ha, hb, hc, hd⟩ := h q mq
  simp only [Quad.octs, List.mem_cons, List.not_mem_nil, or_false] at mx
  rcases mx with rfl | rfl | rfl
  · exact o_1 ha hb
  · exact o_2 _ hc
  · exact o_3 _ hd
theorem it_range4 (n : Nat) (h : n ≤ 1000) : iterD (.range 0 ((4 * n : Nat) : Int) 4) = some ((List.range n).map fun (i : Nat) => D.int (0 + (i : Int) * 4)) := by
  simp only [iterD]
  rw [if_pos ⟨by decide, by decide, by decide, by decide, by (first | lia | omega), by (first | lia | omega)⟩]
  unfold rangeL Builtin.Range.rangeSize
  rw [if_pos (by decide)]
  have e : (if (0 : Int) < ((4 * n : Nat) : Int) then (((4 * n : Nat) : Int) - 0 - 1) / 4 + 1 else 0).toNat = n := by
    cases n with
    | zero => rfl
    | succ k =>
      rw [if_pos (Int.natCast_pos.mpr (Nat.mul_pos (by decide) (Nat.succ_pos k)))]
      have e1 : ((4 * (k + 1) : Nat) : Int) - 0 - 1 = ((3 + 4 * k : Nat) : Int) := by rw [Int.sub_zero, Nat.mul_succ, Nat.add_comm, show 4 + 4 * k = 3 + 4 * k + 1 by rw [Nat.add_right_comm]]; exact Int.add_sub_cancel ((3 + 4 * k : Nat) : Int) 1
      rw [e1]
      exact congrArg (· + 1) (dm (show 3 < 4 by decide))
  rw [e]
theorem sixes_lt {qs : List Quad} (h : ∀ q ∈ qs, q.ok) : ∀ x ∈ (qs.flatMap Quad.sixes).map tab, x < 256 := fun x m => by
  obtain ⟨y, my, rfl⟩ := List.mem_map.mp m
  obtain ⟨q, mq, mx⟩ := List.mem_flatMap.mp my
  obtain ⟨ha, hb, hc, hd⟩ := h q mq
  simp only [Quad.sixes, List.mem_cons, List.not_mem_nil, or_false] at mx
  rcases mx with rfl | rfl | rfl | rfl <;> exact (tab_lt _ (by assumption)).1
section
variable {O : Orc} (hO : O.glob = fun x => globs.lookup x)
include hO
set_option maxRecDepth 100000 in
theorem e_written (P : Params) (vs : List Nat) (qs : List Quad) (hq : vs ++ List.replicate (padN vs) 0 = qs.flatMap Quad.sixes) (hok : ∀ q ∈ qs, q.ok) (hz : vs.length ≤ 100)
    (H : O.call (.ref 93) [.bytes ((qs.flatMap Quad.octs).map Nat.toUInt8)] = some (.bytes (((qs.flatMap Quad.sixes).map tab).map Nat.toUInt8))) :
    Rets O [] 20 (hd.heap_39 P) 171 [(Str.ofString "values", .val (.list (vs.map nI)))] (.str (vs.map tab)) := by
  have hw := fun y i q => w_loop hO P vs qs y i q
  obtain ⟨g, c⟩ := O
  subst hO
  have lq : qs.length * 4 = vs.length + padN vs := by have := congrArg List.length hq; rw [six_len] at this; simp at this; (first | lia | omega)
  have hp4 : padN vs < 4 := Nat.mod_lt _ (by decide)
  have hvl : (vs.map nI).length ≤ 1048576 := by simp; (first | lia | omega)
  have e1 := wEnd_is qs
  obtain ⟨zz, os, hwe⟩ : ∃ zz os, wEnd qs = (zz, os) := ⟨_, _, rfl⟩
  rw [hwe] at e1
  first | dsimp only at e1 | simp only at e1
  subst e1
  refine ⟨stW vs qs (zz, qs.flatMap Quad.octs), ?_⟩
  conv => lhs; arg 2; whnf
  refine b_next (σ1 := [(Str.ofString "values", .val (.list (vs.map nI))), (Str.ofString "filled", .val (.list ((qs.flatMap Quad.sixes).map nI)))]) (s_asg rfl rfl (d := .list ((qs.flatMap Quad.sixes).map nI)) ?_) ?_
  · rw [← hq, List.map_append, ← rep_zero]
    refine r_bin (a := .list (vs.map nI)) (b := .list (List.replicate (padN vs) [D.int 0]).flatten) (r_var rfl rfl) (r_bin (a := .list [D.int 0]) (b := .int ((padN vs : Nat) : Int)) (r_list rfl (r_cons r_int r_nil) (by (first | exact List.mem_cons_self | exact List.mem_cons_of_mem _ List.mem_cons_self | decide | simp))) ?_ (bin_lmul ⟨by (first | lia | omega), by (first | lia | omega), by simp⟩)) (sum_list (by rw [rep_zero]; simp; (first | lia | omega)))
    have e : D.int ((padN vs : Nat) : Int) = D.int ((-((vs.map nI).length : Int)) % 4) := by rw [List.length_map, pad_is]; rfl
    rw [e]
    exact r_bin (r_neg (r_call rfl rfl (r_glob rfl rfl) (r_cons (r_var rfl rfl) r_nil) (call_len hvl))) r_int (bin_mod (by decide))
  refine b_next (s_asg rfl rfl (r_list rfl r_nil (by (first | exact List.mem_cons_self | exact List.mem_cons_of_mem _ List.mem_cons_self | decide | simp)))) ?_
  refine b_next (σ1 := stW vs qs (zz, qs.flatMap Quad.octs)) (s_for rfl (d := .range 0 ((4 * qs.length : Nat) : Int) 4) ?_ (it_range4 _ (by (first | lia | omega))) ?_) ?_
  · have el : D.range 0 ((4 * qs.length : Nat) : Int) 4 = D.range 0 (((qs.flatMap Quad.sixes).map nI).length : Int) 4 := by rw [List.length_map, six_len]
    rw [el]
    exact r_call rfl rfl (r_glob rfl rfl) (r_cons r_int (r_cons (r_call rfl rfl (r_glob rfl rfl) (r_cons (r_var rfl rfl) r_nil) (call_len (by rw [List.length_map, six_len]; (first | lia | omega)))) (r_cons r_int r_nil))) rfl
  · refine f_foldI (S := stW vs qs) (y := (none, [])) (step := wStep qs) (fun y m => y.2.length + 3 * m ≤ 500) (by simp; (first | lia | omega)) (fun y i hi m hm => ⟨?_, ?_⟩) (by rw [← hwe]; rfl)
    · unfold wStep
      simp only [List.length_append, Quad.octs, List.length_cons, List.length_nil]
      (first | lia | omega)
    · have hi' := List.mem_range.mp hi
      have hg : qs[i]? = some (qs.getD i ⟨0, 0, 0, 0⟩) := by simp [hi']
      exact hw y i _ hg (hok _ (List.mem_of_getElem? hg)) (by (first | lia | omega)) (by (first | lia | omega))
  · refine b_ret (s_ret ?_)
    have lo : ((qs.flatMap Quad.sixes).map tab).length = 4 * qs.length := by rw [List.length_map, six_len]
    have lb : (((qs.flatMap Quad.sixes).map tab).map Nat.toUInt8).length = 4 * qs.length := by rw [List.length_map, lo]
    have hflat : ((((qs.flatMap Quad.sixes).map tab).map Nat.toUInt8).map fun c : UInt8 => [c.toNat]).flatten = (qs.flatMap Quad.sixes).map tab := by
      have : ∀ l : List Nat, (∀ x ∈ l, x < 256) → ((l.map Nat.toUInt8).map fun c : UInt8 => [c.toNat]).flatten = l := fun l => by
        induction l with
        | nil => intro _; rfl
        | cons x l ih =>
          intro h
          rw [List.map_cons, List.map_cons, List.flatten_cons, ih fun z m => h z (by simp [m]), u8 (h x (by (first | exact List.mem_cons_self | exact List.mem_cons_of_mem _ List.mem_cons_self | decide | simp)))]
          rfl
      exact this _ (sixes_lt hok)
    have hcut : vs.map tab = sliceD ((qs.flatMap Quad.sixes).map tab) none (some ((vs.map nI).length : Int)) := by
      rw [slice_to, ← hq, List.map_append, List.length_map]
      simp
    rw [hcut]
    refine r_slc (d := .str ((qs.flatMap Quad.sixes).map tab)) ?_ r_part0 (r_part (r_call rfl rfl (r_glob rfl rfl) (r_cons (r_var rfl rfl) r_nil) (call_len hvl))) (cut_str (by (first | lia | omega)))
    refine r_meth (d := .str []) (ds := [.list (((((qs.flatMap Quad.sixes).map tab).map Nat.toUInt8).map fun c : UInt8 => [c.toNat]).map .str)]) rfl (r_str rfl) (r_cons ?_ r_nil) (by rw [call_join (by rw [hflat]; (first | lia | omega)), hflat])
    rw [List.map_map]
    rcases zz with _ | ⟨jj, q'⟩
    all_goals
      refine r_comp rfl (r_peek (d := .bytes (((qs.flatMap Quad.sixes).map tab).map Nat.toUInt8)) rfl (r_call (ds := [.bytes ((qs.flatMap Quad.octs).map Nat.toUInt8)]) rfl rfl (r_glob rfl rfl) (r_cons (r_call (ds := [.list ((qs.flatMap Quad.octs).map nI)]) rfl rfl (r_glob rfl rfl) (r_cons (r_var rfl rfl) r_nil) (call_bytes (by rw [oct_len]; (first | lia | omega)) (oct_lt hok))) r_nil) H) rfl) (by rw [List.length_map, lb]; (first | lia | omega)) (r_clause rfl (cat_m fun c hc => ?_)) (by rw [List.length_map, lb]; (first | lia | omega))
      exact r_one (c := true) r_ifs0 (r_call rfl rfl (r_glob rfl rfl) (r_cons (r_var rfl rfl) r_nil) (call_chr (i := c.toNat) (by have := c.toNat_lt; (first | lia | omega))))
end
end
section
noncomputable def tstM (m : Int) (idx bit : Nat) : Bool := if idx = 0 then (Builtin.bitAnd m 61440 == (bit : Int)) else (Builtin.bitAnd m bit == (bit : Int))
noncomputable def signM (m : Int) (idx : Nat) (row : List (Nat × Nat)) : Nat := (row.find? fun p => tstM m idx p.1).elim (if idx = 0 then 63 else 45) (·.2)
noncomputable def listM (m : Int) : List Nat := (List.range listing.length).map fun i => signM m i (listing.getD i [])
end
section
noncomputable def chD (c : Nat) : D := .str [c]
noncomputable def stI (m : Int) (i : Nat) (row : List (Nat × Nat)) (bc : Option (Nat × Nat)) (perm : List Nat) : Vars :=
  (Str.ofString "mode", .val (.int m)) :: (Str.ofString "perm", .own (perm.map chD)) :: (Str.ofString "index", .val (.int (i : Int))) :: (Str.ofString "table", .val (.tuple (row.map pairD))) ::
    (match bc with | some p => [(Str.ofString "bit", .val (.int (p.1 : Int))), (Str.ofString "char", .val (.str [p.2]))] | none => [])
section
variable {O : Orc} (hO : O.glob = fun x => globs.lookup x) (HI : ∀ m : Int, O.call (.ref 107) [.int m] = some (.int (Builtin.bitAnd m 61440)))
include hO HI
set_option maxRecDepth 100000 in
set_option maxHeartbeats 1000000 in
theorem fm_one (P : Params) (m : Int) (i : Nat) (row : List (Nat × Nat)) (p : Nat × Nat) (perm : List Nat) (hl : perm.length < 1000) :
    (tstM m i p.1 = true → blkD (exS O [Str.ofString "perm"] 18 (scIn (hd.heap_39 P) 147)) (forB (stAt (forB (stAt (bodyIn (hd.heap_39 P) 147) 1)) 0)) (stI m i row (some p) perm) = some (stI m i row (some p) (perm ++ [p.2]), .brk)) ∧
    (tstM m i p.1 = false → blkD (exS O [Str.ofString "perm"] 18 (scIn (hd.heap_39 P) 147)) (forB (stAt (forB (stAt (bodyIn (hd.heap_39 P) 147) 1)) 0)) (stI m i row (some p) perm) = some (stI m i row (some p) perm, .next)) := by
  obtain ⟨g, c⟩ := O
  subst hO
  have fin : setV (stI m i row (some p) perm) (Str.ofString "perm") (.own (perm.map chD ++ [chD p.2])) = stI m i row (some p) (perm ++ [p.2]) := by
    unfold stI; rw [List.map_append]; rfl
  have hz : (perm.map chD).length < 1048576 := by simp; (first | lia | omega)
  by_cases h0 : i = 0
  · subst h0
    constructor
    all_goals
      intro ht
      conv => lhs; arg 2; whnf
    · rw [← fin]
      exact b_brk (s_ifT (t_cmp rfl (r_var rfl rfl) r_int rfl) (b_brk (s_ifT (t_cmp rfl (r_call rfl rfl (r_glob rfl rfl) (r_cons (r_var rfl rfl) r_nil) (HI m)) (r_var rfl rfl) (congrArg some ht)) (b_next (s_app rfl ⟨rfl, rfl, rfl⟩ (r_var rfl rfl) hz) (b_brk s_brk)))))
    · exact b_next (s_ifT (t_cmp rfl (r_var rfl rfl) r_int rfl) (b_next (s_ifF (t_cmp rfl (r_call rfl rfl (r_glob rfl rfl) (r_cons (r_var rfl rfl) r_nil) (HI m)) (r_var rfl rfl) (congrArg some ht)) b_nil) b_nil)) b_nil
  · have hi : cmpD .Eq (.int (i : Int)) (.int 0) = some false := by
      show some ((i : Int) == 0) = _
      congr 1; simp; exact h0
    have tI : tstM m i p.1 = (Builtin.bitAnd m p.1 == (p.1 : Int)) := by unfold tstM; rw [if_neg h0]
    constructor
    all_goals
      intro ht
      rw [tI] at ht
      conv => lhs; arg 2; whnf
    · rw [← fin]
      exact b_brk (s_ifF (t_cmp rfl (r_var rfl rfl) r_int hi) (b_brk (s_ifT (t_cmp rfl (r_bin (r_var rfl rfl) (r_var rfl rfl) rfl) (r_var rfl rfl) (congrArg some ht)) (b_next (s_app rfl ⟨rfl, rfl, rfl⟩ (r_var rfl rfl) hz) (b_brk s_brk)))))
    · exact b_next (s_ifF (t_cmp rfl (r_var rfl rfl) r_int hi) (b_next (s_ifF (t_cmp rfl (r_bin (r_var rfl rfl) (r_var rfl rfl) rfl) (r_var rfl rfl) (congrArg some ht)) b_nil) b_nil)) b_nil

set_option maxRecDepth 100000 in
set_option maxHeartbeats 1000000 in
theorem fm_else (P : Params) (m : Int) (i : Nat) (row : List (Nat × Nat)) (bc : Option (Nat × Nat)) (perm : List Nat) (hl : perm.length < 1000) :
    blkD (exS O [Str.ofString "perm"] 18 (scIn (hd.heap_39 P) 147)) (forO (stAt (forB (stAt (bodyIn (hd.heap_39 P) 147) 1)) 0)) (stI m i row bc perm) = some (stI m i row bc (perm ++ [if i = 0 then 63 else 45]), .next) := by
  have hz : (perm.map chD).length < 1048576 := by simp; (first | lia | omega)
  have fin : ∀ c : Nat, setV (stI m i row bc perm) (Str.ofString "perm") (.own (perm.map chD ++ [chD c])) = stI m i row bc (perm ++ [c]) := fun c => by
    unfold stI; rw [List.map_append]; rfl
  by_cases h0 : i = 0
  · subst h0
    conv => lhs; arg 2; whnf
    rw [if_pos rfl, ← fin]
    exact b_next (s_ifT (t_cmp rfl (r_var rfl rfl) r_int rfl) (b_next (s_app rfl ⟨rfl, rfl, rfl⟩ (r_str rfl) hz) b_nil)) b_nil
  · have hi : cmpD .Eq (.int (i : Int)) (.int 0) = some false := by
      show some ((i : Int) == 0) = _
      congr 1; simp; exact h0
    conv => lhs; arg 2; whnf
    rw [if_neg h0, ← fin]
    exact b_next (s_ifF (t_cmp rfl (r_var rfl rfl) r_int hi) (b_next (s_app rfl ⟨rfl, rfl, rfl⟩ (r_str rfl) hz) b_nil)) b_nil
theorem fm_set (P : Params) (m : Int) (i : Nat) (row : List (Nat × Nat)) (bc : Option (Nat × Nat)) (perm : List Nat) (p : Nat × Nat) :
    setT (scIn (hd.heap_39 P) 147) (forTg (stAt (forB (stAt (bodyIn (hd.heap_39 P) 147) 1)) 0)) (stI m i row bc perm) (pairD p) = some (stI m i row (some p) perm) := by
  cases bc <;> rfl
theorem fm_row (P : Params) (m : Int) (i : Nat) (row : List (Nat × Nat)) (perm : List Nat) (hl : perm.length < 1000) : ∀ (rest : List (Nat × Nat)) (bc : Option (Nat × Nat)), ∃ bc',
    forD (setT (scIn (hd.heap_39 P) 147) (forTg (stAt (forB (stAt (bodyIn (hd.heap_39 P) 147) 1)) 0))) (fun σ => blkD (exS O [Str.ofString "perm"] 18 (scIn (hd.heap_39 P) 147)) (forB (stAt (forB (stAt (bodyIn (hd.heap_39 P) 147) 1)) 0)) σ)
      (fun σ => blkD (exS O [Str.ofString "perm"] 18 (scIn (hd.heap_39 P) 147)) (forO (stAt (forB (stAt (bodyIn (hd.heap_39 P) 147) 1)) 0)) σ) (rest.map pairD) (stI m i row bc perm) = some (stI m i row bc' (perm ++ [signM m i rest]), .next)
  | [], bc => ⟨bc, f_nil (fm_else hO HI P m i row bc perm hl)⟩
  | p :: rest, bc => by
    obtain ⟨h1, h2⟩ := fm_one hO HI P m i row p perm hl
    rw [List.map_cons]
    cases ht : tstM m i p.1 with
    | true =>
      refine ⟨some p, ?_⟩
      have e : signM m i (p :: rest) = p.2 := by unfold signM; rw [List.find?_cons, ht]; rfl
      rw [e]
      exact f_brk (fm_set hO HI P m i row bc perm p) (h1 ht)
    | false =>
      obtain ⟨bc', ih⟩ := fm_row P m i row perm hl rest (some p)
      refine ⟨bc', ?_⟩
      have e : signM m i (p :: rest) = signM m i rest := by unfold signM; rw [List.find?_cons, ht]
      rw [e]
      exact f_next (fm_set hO HI P m i row bc perm p) (h2 ht) ih
end
end
section
noncomputable def stO (m : Int) (y : Option (Nat × List (Nat × Nat) × Option (Nat × Nat))) (perm : List Nat) : Vars := match y with
  | none => [(Str.ofString "mode", .val (.int m)), (Str.ofString "perm", .own (perm.map chD))]
  | some z => stI m z.1 z.2.1 z.2.2 perm
section
variable {O : Orc} (hO : O.glob = fun x => globs.lookup x) (HI : ∀ m : Int, O.call (.ref 107) [.int m] = some (.int (Builtin.bitAnd m 61440)))
include hO HI
set_option maxRecDepth 100000 in
set_option maxHeartbeats 1000000 in
theorem fm_outer (P : Params) (m : Int) (i : Nat) (row : List (Nat × Nat)) (y : Option (Nat × List (Nat × Nat) × Option (Nat × Nat))) (perm : List Nat) (hl : perm.length < 1000) :
    ∃ σ1, setT (scIn (hd.heap_39 P) 147) (forTg (stAt (bodyIn (hd.heap_39 P) 147) 1)) (stO m y perm) (.tuple [.int (i : Int), .tuple (row.map pairD)]) = some σ1 ∧
      ∃ y', blkD (exS O [Str.ofString "perm"] 19 (scIn (hd.heap_39 P) 147)) (forB (stAt (bodyIn (hd.heap_39 P) 147) 1)) σ1 = some (stO m y' (perm ++ [signM m i row]), .next) := by
  have hr := fun bc => fm_row hO HI P m i row perm hl row bc
  obtain ⟨bc0, hσ⟩ : ∃ bc0, setT (scIn (hd.heap_39 P) 147) (forTg (stAt (bodyIn (hd.heap_39 P) 147) 1)) (stO m y perm) (.tuple [.int (i : Int), .tuple (row.map pairD)]) = some (stI m i row bc0 perm) := by
    rcases y with _ | ⟨i0, row0, bc⟩
    · exact ⟨none, rfl⟩
    · first | with_reducible exact ns bc | cases bc
      · exact ⟨none, rfl⟩
      · exact ⟨some _, rfl⟩
  obtain ⟨bc', h'⟩ := hr bc0
  refine ⟨_, hσ, some (i, row, bc'), ?_⟩
  have e : forB (stAt (bodyIn (hd.heap_39 P) 147) 1) = [stAt (forB (stAt (bodyIn (hd.heap_39 P) 147) 1)) 0] := rfl
  rw [e]
  refine b_next (σ1 := stO m (some (i, row, bc')) (perm ++ [signM m i row])) ?_ b_nil
  show exS _ _ 19 _ _ (.For (forTg (stAt (forB (stAt (bodyIn (hd.heap_39 P) 147) 1)) 0)) _ _ _ _) = _
  obtain ⟨g, c⟩ := O
  subst hO
  exact s_for rfl (r_var rfl (d := .tuple (row.map pairD)) rfl) rfl h'

theorem fm_all (P : Params) (m : Int) (els : Vars → Option (Vars × Fl)) (hels : ∀ σ, els σ = some (σ, .next)) : ∀ (l : List (Nat × List (Nat × Nat))) (y : Option (Nat × List (Nat × Nat) × Option (Nat × Nat))) (perm : List Nat), perm.length + l.length < 1000 → ∃ y',
    forD (setT (scIn (hd.heap_39 P) 147) (forTg (stAt (bodyIn (hd.heap_39 P) 147) 1))) (fun σ => blkD (exS O [Str.ofString "perm"] 19 (scIn (hd.heap_39 P) 147)) (forB (stAt (bodyIn (hd.heap_39 P) 147) 1)) σ) els
      (l.map fun z => D.tuple [.int (z.1 : Int), .tuple (z.2.map pairD)]) (stO m y perm) = some (stO m y' (perm ++ l.map fun z => signM m z.1 z.2), .next)
  | [], y, perm, _ => ⟨y, by rw [List.map_nil, List.map_nil, List.append_nil]; exact f_nil (hels _)⟩
  | z :: l, y, perm, hl => by
    rw [List.length_cons] at hl
    obtain ⟨σ1, h1, y1, h2⟩ := fm_outer hO HI P m z.1 z.2 y perm (by (first | lia | omega))
    obtain ⟨y', ih⟩ := fm_all P m els hels l y1 (perm ++ [signM m z.1 z.2]) (by rw [List.length_append, List.length_singleton]; (first | lia | omega))
    refine ⟨y', ?_⟩
    rw [List.map_cons, List.map_cons]
    have e : perm ++ signM m z.1 z.2 :: (l.map fun z => signM m z.1 z.2) = perm ++ [signM m z.1 z.2] ++ l.map fun z => signM m z.1 z.2 := by simp
    rw [e]
    exact f_next h1 h2 ih
end
end
section
section
variable {prog : Program} {w : World} {P : Params} {p : Program} {loose : List Str} {mg mb : Str → Option Value} {h₀ : Heap}
theorem en_is : enL (listing.map fun r => D.tuple (r.map pairD)) = ((List.range listing.length).map fun i => (i, listing.getD i [])).map fun z => D.tuple [.int (z.1 : Int), .tuple (z.2.map pairD)] := by
  unfold enL
  rw [List.map_map, List.length_map]
  apply List.map_congr_left
  intro i hi
  have := List.mem_range.mp hi
  simp [this]
set_option maxRecDepth 100000 in
theorem b147 (P : Params) : bodyIn (hd.heap_39 P) 147 = stAt (bodyIn (hd.heap_39 P) 147) 0 :: stAt (bodyIn (hd.heap_39 P) 147) 1 :: [stAt (bodyIn (hd.heap_39 P) 147) 2] := rfl
set_option maxRecDepth 100000 in
theorem st147_0 {O : Orc} {n : Nat} (o : OrcOK prog w n (BaseAt h₀) O) (m : Int) : PS prog w n (BaseAt h₀) (exec (stAt (bodyIn (hd.heap_39 P) 147) 0)) (scIn (hd.heap_39 P) 147) [(Str.ofString "mode", .val (.int m))] (stO m none []) .next :=
  asg_own (x := Str.ofString "perm") o rfl
set_option maxRecDepth 100000 in
theorem st147_1 {O : Orc} {n : Nat} (hn : 1 ≤ n) (o : OrcOK prog w n (BaseAt h₀) O) (hO : O.glob = fun x => globs.lookup x) (HI : ∀ m : Int, O.call (.ref 107) [.int m] = some (.int (Builtin.bitAnd m 61440))) (m : Int) :
    ∃ y', PS prog w n (BaseAt h₀) (exec (stAt (bodyIn (hd.heap_39 P) 147) 1)) (scIn (hd.heap_39 P) 147) (stO m none []) (stO m y' (listM m)) .next := by
  obtain ⟨y', e⟩ := fm_all hO HI P m (fun σ => some (σ, .next)) (fun _ => rfl) ((List.range listing.length).map fun i => (i, listing.getD i [])) none [] (by simp; decide)
  rw [← en_is] at e
  have e2 : (((List.range listing.length).map fun i => (i, listing.getD i [])).map fun z => signM m z.1 z.2) = listM m := by rw [List.map_map]; rfl
  rw [List.nil_append, e2] at e
  refine ⟨y', ?_⟩
  refine for_enum (fb := fun σ => blkD (exS O [Str.ofString "perm"] 19 (scIn (hd.heap_39 P) 147)) (forB (stAt (bodyIn (hd.heap_39 P) 147) 1)) σ) (fe := fun σ => some (σ, .next)) (ds := listing.map fun (r : List (Nat × Nat)) => D.tuple (List.map pairD r)) (k := 19) o (ev_all hn o 19).1 rfl rfl (by rw [hO]; rfl) ?_ (fun σ σ' fl e => blk_all hn o 19 e) (fun σ σ' fl e => ?_) e
  · exact r_glob rfl (by rw [hO]; rfl)
  · cases e; exact PS.nil
end
end
section
section
variable {prog : Program} {w : World} {P : Params} {p : Program} {loose : List Str} {mg mb : Str → Option Value} {h₀ : Heap}
set_option maxRecDepth 100000 in
theorem fd147 (P : Params) : FdOK (fdIn (hd.heap_39 P) 147) (bodyIn (hd.heap_39 P) 147) := ⟨rfl, rfl, rfl, rfl, rfl, rfl, rfl, rfl, rfl⟩
set_option maxRecDepth 100000 in
theorem fn147 (Z : Wd P p loose mg mb h₀) : FnAt h₀ 147 (fdIn (hd.heap_39 P) 147) := fn_at Z.X Z.T.nolimit rfl rfl rfl rfl rfl
set_option maxRecDepth 100000 in
theorem bi147 (P : Params) : ∀ us : List Value, us.length = 1 → bindArgs (fdIn (hd.heap_39 P) 147) ⟨us, []⟩ = pure ([Str.ofString "mode"].zip us) := us1 fun v => by
  show bindArgs (fdIn (hd.heap_39 P) 147) ⟨[v], []⟩ = pure [(Str.ofString "mode", v)]
  have e1 : (fdIn (hd.heap_39 P) 147).params = ⟨[], [⟨_, _, _⟩], none, [], [], none, []⟩ := rfl
  have e2 : (fdIn (hd.heap_39 P) 147).defaults = .none := rfl
  generalize fdIn (hd.heap_39 P) 147 = fd at e1 e2
  unfold bindArgs
  rw [e1, e2]
  rfl
set_option maxRecDepth 100000 in
theorem rest147 (P : Params) (O : Orc) (m : Int) (y : Option (Nat × List (Nat × Nat) × Option (Nat × Nat))) : blkD (exS O [Str.ofString "perm"] 20 (scIn (hd.heap_39 P) 147)) [stAt (bodyIn (hd.heap_39 P) 147) 2] (stO m y (listM m)) = some (stO m y (listM m), .ret (.str (listM m))) := by
  have hfl : ((listM m).map fun c => [c]).flatten = listM m := by
    generalize listM m = l
    induction l with
    | nil => rfl
    | cons c l ih => rw [List.map_cons, List.flatten_cons, ih]; rfl
  have hlen : (listM m).length = 10 := by simp [listM, listing]
  have hj : callM (Str.ofString "join") (.str []) [.list ((listM m).map chD)] = some (.str (listM m)) := by
    have e : (listM m).map chD = ((listM m).map fun c => [c]).map .str := by rw [List.map_map]; rfl
    rw [e, call_join (by rw [hfl, hlen]; decide), hfl]
  conv => lhs; arg 2; arg 1; whnf
  refine b_ret (s_ret (r_meth (d := .str []) (ds := [.list ((listM m).map chD)]) rfl (r_str rfl) (r_cons (r_var rfl ?_) r_nil) hj))
  rcases y with _ | z <;> rfl
set_option maxRecDepth 100000 in
theorem hk147 (P : Params) : [Str.ofString "mode"].all (tgtOk (scIn (hd.heap_39 P) 147)) = true := rfl
set_option maxRecDepth 100000 in
theorem c_filemode {O : Orc} {n : Nat} (hn : 1 ≤ n) (Z : Wd P p loose mg mb h₀) (o : OrcOK prog w n (BaseAt h₀) O) (hO : O.glob = fun x => globs.lookup x) (HI : ∀ m : Int, O.call (.ref 107) [.int m] = some (.int (Builtin.bitAnd m 61440))) (m : Int) :
    Ct prog w (n + 1) h₀ (.ref 147) [.int m] (.str (listM m)) := fun {h W vs} b al rl => by
  obtain ⟨v, _, rfl, rv, rfl⟩ := rl
  obtain ⟨y', h1⟩ := st147_1 (P := P) hn o hO HI m
  have h0 := st147_0 (P := P) o m
  have h2 := blk_all hn o 20 (rest147 P O m y')
  have hB := b147 P
  have hb : Bi h₀ (hd.heap_39 P) 147 ⟨[v], []⟩ ([Str.ofString "mode"].zip [v]) := ⟨fun s _ => by
    have e := bi147 P [v] rfl
    generalize fdIn (hd.heap_39 P) 147 = fd at e ⊢
    exact BindsTo.of_eq e⟩
  have hf := fd147 P
  have hF := fn147 Z
  have ps : PS prog w n (BaseAt h₀) (execs (bodyIn (hd.heap_39 P) 147)) (scIn (hd.heap_39 P) 147) [(Str.ofString "mode", .val (.int m))] (stO m y' (listM m)) (.ret (.str (listM m))) := by
    rw [hB]
    exact PS.seq h0 (PS.seq h1 h2)
  have hk := hk147 P
  generalize hd.heap_39 P = K at hb hk hf hF ps
  exact ct_ps (K := K) (a := 147) (xs := [Str.ofString "mode"]) (ds := [D.int m]) (us := [v]) (args := ⟨[v], []⟩) o hf hF hb rfl rfl hk ps b al ⟨v, [], rfl, rv, rfl⟩
end
end
section
noncomputable def sgX (t : Bool) (l : Fin 4) : Nat := (if t then [45, 120, 116, 84] else [45, 120, 115, 83]).getD l.1 0
noncomputable def sgR (b : Bool) : Nat := if b then 114 else 45
noncomputable def sgW (b : Bool) : Nat := if b then 119 else 45
theorem ix_X (t : Bool) (l : Fin 4) : callM (Str.ofString "index") (.str (if t then [45, 120, 116, 84] else [45, 120, 115, 83])) [.str [sgX t l]] = some (.int (l.1 : Int)) := by
  obtain ⟨l, hl⟩ := l
  have : l = 0 ∨ l = 1 ∨ l = 2 ∨ l = 3 := by (first | lia | omega)
  rcases this with rfl | rfl | rfl | rfl <;> cases t <;> rfl
theorem ix_R (b : Bool) : callM (Str.ofString "index") (.str [45, 114]) [.str [sgR b]] = some (.int (if b then 1 else 0)) := by cases b <;> rfl
theorem ix_W (b : Bool) : callM (Str.ofString "index") (.str [45, 119]) [.str [sgW b]] = some (.int (if b then 1 else 0)) := by cases b <;> rfl
end
section
noncomputable def bt (m k : Nat) : Bool := decide (m / 2 ^ k % 2 = 1)
theorem bt_iff (m k : Nat) : (m &&& 2 ^ k = 2 ^ k) ↔ bt m k = true := by
  have e : bt m k = m.testBit k := by unfold bt; rw [Nat.testBit_eq_decide_div_mod_eq]
  rw [e]
  constructor
  · intro h
    have := congrArg (fun z => z.testBit k) h
    simpa [Nat.testBit_and, Nat.testBit_two_pow] using this
  · intro h
    apply Nat.eq_of_testBit_eq
    intro i
    rw [Nat.testBit_and, Nat.testBit_two_pow]
    by_cases c : k = i
    · subst c; simp [h]
    · simp [c]
theorem eq_int {a b : Nat} {c : Bool} (h : a = b ↔ c = true) : (((a : Nat) : Int) == ((b : Nat) : Int)) = c := by
  first | with_reducible exact ns c | cases c
  · have : ¬ a = b := fun q => by have := h.mp q; cases this
    have : ¬ (a : Int) = (b : Int) := by (first | lia | omega)
    exact beq_eq_false_iff_ne.mpr this
  · have : a = b := h.mpr rfl
    rw [this]; exact beq_self_eq_true _
theorem bt_and (m k : Nat) : (((m &&& 2 ^ k : Nat) : Int) == ((2 ^ k : Nat) : Int)) = bt m k := eq_int (bt_iff m k)
theorem bt_two (m a b : Nat) : (((m &&& (2 ^ a ||| 2 ^ b) : Nat) : Int) == ((2 ^ a ||| 2 ^ b : Nat) : Int)) = (bt m a && bt m b) := by
  refine eq_int ?_
  rw [Bool.and_eq_true, ← bt_iff, ← bt_iff]
  constructor
  · intro h
    have g : ∀ i, (m.testBit i && (decide (a = i) || decide (b = i))) = (decide (a = i) || decide (b = i)) := fun i => by
      have := congrArg (fun z => z.testBit i) h
      simpa [Nat.testBit_and, Nat.testBit_or, Nat.testBit_two_pow] using this
    constructor
    · apply Nat.eq_of_testBit_eq
      intro i
      rw [Nat.testBit_and, Nat.testBit_two_pow]
      by_cases c : a = i
      · have := g i; simp [c] at this; simp [c, this]
      · simp [c]
    · apply Nat.eq_of_testBit_eq
      intro i
      rw [Nat.testBit_and, Nat.testBit_two_pow]
      by_cases c : b = i
      · have := g i; simp [c] at this; simp [c, this]
      · simp [c]
  · rintro ⟨h1, h2⟩
    rw [Nat.and_or_distrib_left, h1, h2]
theorem tst_bit (m k idx : Nat) (hi : idx ≠ 0) : tstM (m : Int) idx (2 ^ k) = bt m k := by
  unfold tstM
  rw [if_neg hi, and_nat, bt_and]
theorem tst_two (m a b idx : Nat) (hi : idx ≠ 0) : tstM (m : Int) idx (2 ^ a ||| 2 ^ b) = (bt m a && bt m b) := by
  unfold tstM
  rw [if_neg hi, and_nat, bt_two m a b]
noncomputable def lx (m s x : Nat) : Fin 4 := if bt m s then (if bt m x then 2 else 3) else if bt m x then 1 else 0
theorem sign_R (m k idx : Nat) (hi : idx ≠ 0) : signM (m : Int) idx [(2 ^ k, 114)] = sgR (bt m k) := by
  unfold signM
  rw [List.find?_cons, tst_bit m k idx hi]
  cases bt m k
  · exact if_neg hi
  · rfl
theorem sign_W (m k idx : Nat) (hi : idx ≠ 0) : signM (m : Int) idx [(2 ^ k, 119)] = sgW (bt m k) := by
  unfold signM
  rw [List.find?_cons, tst_bit m k idx hi]
  cases bt m k
  · exact if_neg hi
  · rfl
theorem sign_X (m s x idx : Nat) (hi : idx ≠ 0) (t : Bool) : signM (m : Int) idx [(2 ^ s ||| 2 ^ x, if t then 116 else 115), (2 ^ s, if t then 84 else 83), (2 ^ x, 120)] = sgX t (lx m s x) := by
  unfold signM lx
  rw [List.find?_cons, List.find?_cons, List.find?_cons]
  rw [tst_bit m s idx hi, tst_bit m x idx hi, tst_two m s x idx hi]
  cases bt m s <;> cases bt m x <;> cases t <;> first | rfl | exact if_neg hi
noncomputable def sgnL (t : Nat) (r0 w0 r1 w1 r2 w2 : Bool) (l0 l1 l2 : Fin 4) : List Nat := [t, sgR r0, sgW w0, sgX false l0, sgR r1, sgW w1, sgX false l1, sgR r2, sgW w2, sgX true l2]
theorem listing_is (m : Nat) : listM (m : Int) = sgnL (signM (m : Int) 0 (listing.getD 0 [])) (bt m 8) (bt m 7) (bt m 5) (bt m 4) (bt m 2) (bt m 1) (lx m 11 6) (lx m 10 3) (lx m 9 0) := by
  have e : listM (m : Int) = [signM (m : Int) 0 (listing.getD 0 []), signM (m : Int) 1 [(2 ^ 8, 114)], signM (m : Int) 2 [(2 ^ 7, 119)], signM (m : Int) 3 [(2 ^ 11 ||| 2 ^ 6, if false then 116 else 115), (2 ^ 11, if false then 84 else 83), (2 ^ 6, 120)],
      signM (m : Int) 4 [(2 ^ 5, 114)], signM (m : Int) 5 [(2 ^ 4, 119)], signM (m : Int) 6 [(2 ^ 10 ||| 2 ^ 3, if false then 116 else 115), (2 ^ 10, if false then 84 else 83), (2 ^ 3, 120)],
      signM (m : Int) 7 [(2 ^ 2, 114)], signM (m : Int) 8 [(2 ^ 1, 119)], signM (m : Int) 9 [(2 ^ 9 ||| 2 ^ 0, if true then 116 else 115), (2 ^ 9, if true then 84 else 83), (2 ^ 0, 120)]] := rfl
  rw [e, sign_R m 8 1 (by decide), sign_W m 7 2 (by decide), sign_X m 11 6 3 (by decide) false, sign_R m 5 4 (by decide), sign_W m 4 5 (by decide), sign_X m 10 3 6 (by decide) false, sign_R m 2 7 (by decide), sign_W m 1 8 (by decide), sign_X m 9 0 9 (by decide) true]
  rfl
theorem bt_int (m k : Nat) : (if bt m k then (1 : Int) else 0) = ((m / 2 ^ k % 2 : Nat) : Int) := by
  unfold bt
  by_cases h : m / 2 ^ k % 2 = 1
  · rw [decide_eq_true h, h]; rfl
  · rw [decide_eq_false h]
    have := (Nat.mod_two_eq_zero_or_one (m / 2 ^ k)).resolve_right h
    rw [this]; rfl
theorem lx_big (m s x : Nat) : decide (((lx m s x).1 : Int) > 1) = bt m s := by
  unfold lx
  cases bt m s <;> cases bt m x <;> rfl
noncomputable def inX (l : Fin 4) : Bool := l.1 == 1 || l.1 == 2
theorem in_X (l : Fin 4) : cmpD .In (.int (l.1 : Int)) (.tuple [.int 1, .int 2]) = some (inX l) := by
  rcases (by decide : ∀ l : Fin 4, l = 0 ∨ l = 1 ∨ l = 2 ∨ l = 3) l with rfl | rfl | rfl | rfl <;> rfl
theorem lx_in (m s x : Nat) : (if inX (lx m s x) then (1 : Int) else 0) = ((m / 2 ^ x % 2 : Nat) : Int) := by
  rw [← bt_int]
  unfold lx inX
  cases bt m s <;> cases bt m x <;> rfl
theorem three (a : Nat) : a % 8 = 4 * (a / 4 % 2) + 2 * (a / 2 % 2) + a % 2 := by
  rw [show 8 = 2 * (2 * 2) from rfl, Nat.mod_mul, Nat.mod_mul, Nat.div_div_eq_div_mul, Nat.mul_add, ← Nat.mul_assoc, Nat.add_comm, Nat.add_comm (2 * _)]
theorem three_at (m a b c : Nat) (h1 : a * 4 = c) (h2 : a * 2 = b) : m / a % 8 = 4 * (m / c % 2) + 2 * (m / b % 2) + m / a % 2 := by
  rw [three, Nat.div_div_eq_div_mul, Nat.div_div_eq_div_mul, h1, h2]
noncomputable def rgt (r w : Bool) (l : Fin 4) : Int := 4 * (if r then 1 else 0) + 2 * (if w then 1 else 0) + (if inX l then 1 else 0)
theorem rgt_is (m a b s x : Nat) (h1 : 2 ^ x * 4 = 2 ^ a) (h2 : 2 ^ x * 2 = 2 ^ b) : rgt (bt m a) (bt m b) (lx m s x) = ((m / 2 ^ x % 8 : Nat) : Int) := by
  unfold rgt
  rw [lx_in, bt_int, bt_int, three_at m (2 ^ x) (2 ^ b) (2 ^ a) h1 h2]
  rfl
noncomputable def fileD (m : Nat) : D := .list [.bool (bt m 11), .int ((m / 64 % 8 : Nat) : Int), .bool (bt m 10), .int ((m / 8 % 8 : Nat) : Int), .bool (bt m 9), .int ((m % 8 : Nat) : Int)]
end
section
noncomputable def stS (m : Int) (s : List Nat) (ps : List D) (x : Option (Nat × Int)) : Vars :=
  (Str.ofString "mode", .val (.int m)) :: (Str.ofString "shown", .val (.str s)) :: (Str.ofString "parts", .own ps) ::
    (match x with | some q => [(Str.ofString "k", .val (.int q.1)), (Str.ofString "last", .val (.int q.2))] | none => [])
section
variable {O : Orc} (hO : O.glob = fun x => globs.lookup x)
include hO
set_option maxRecDepth 100000 in
theorem sh_turn (P : Params) (m : Int) (s : List Nat) (k : Nat) (t r w : Bool) (l : Fin 4) (hk : itemD (.tuple [.str [115, 83], .str [115, 83], .str [116, 84]]) (.int k) = some (.str (if t then [116, 84] else [115, 83]))) (h1 : itemD (.str s) (.int (3 * k + 1)) = some (.str [sgR r])) (h2 : itemD (.str s) (.int (3 * k + 2)) = some (.str [sgW w])) (h3 : itemD (.str s) (.int (3 * k + 3)) = some (.str [sgX t l]))
    (ps : List D) (x : Option (Nat × Int)) (hps : ps.length ≤ 10) : ∃ σ1, setT (scIn (hd.heap_39 P) 159) (forTg (stAt (bodyIn (hd.heap_39 P) 159) 2)) (stS m s ps x) (.int k) = some σ1 ∧
    blkD (exS O [Str.ofString "parts"] 19 (scIn (hd.heap_39 P) 159)) (forB (stAt (bodyIn (hd.heap_39 P) 159) 2)) σ1 = some (stS m s (ps ++ [.bool (decide ((l.1 : Int) > 1)), .int (rgt r w l)]) (some (k, (l.1 : Int))), .next) := by
  obtain ⟨g, c⟩ := O
  subst hO
  have hx : callM (Str.ofString "index") (.str (if t then [45, 120, 116, 84] else [45, 120, 115, 83])) [.str [sgX t l]] = some (.int (l.1 : Int)) := ix_X t l
  have ha : binD .Add (.str [45, 120]) (.str (if t then [116, 84] else [115, 83])) = some (.str (if t then [45, 120, 116, 84] else [45, 120, 115, 83])) := by cases t <;> rfl
  generalize sgX t l = z3 at hx h3
  have e2 : ps ++ [.bool (decide ((l.1 : Int) > 1)), .int (rgt r w l)] = ps ++ [.bool (decide ((l.1 : Int) > 1))] ++ [.int (rgt r w l)] := by simp
  rcases x with _ | ⟨x1, x2⟩
  all_goals
    refine ⟨_, rfl, ?_⟩
    conv => lhs; arg 2; whnf
    refine b_next (s_asg rfl rfl (d := .int (l.1 : Int)) ?_) ?_
    · exact r_meth (d := .str (if t then [45, 120, 116, 84] else [45, 120, 115, 83])) (ds := [.str [z3]]) rfl (r_bin (r_str rfl) (r_sub rfl (r_tuple rfl (r_cons (r_str rfl) (r_cons (r_str rfl) (r_cons (r_str rfl) r_nil))) (by (first | exact List.mem_cons_self | exact List.mem_cons_of_mem _ List.mem_cons_self | decide | simp))) (r_var rfl rfl) hk) ha) (r_cons (r_sub rfl (r_var rfl rfl) (r_bin (r_bin r_int (r_var rfl rfl) (bin_mul (by decide))) r_int rfl) h3) r_nil) hx
    · refine b_next (s_app (ds := ps) rfl ⟨rfl, rfl, rfl⟩ (d := .bool (decide ((l.1 : Int) > 1))) (r_cmp rfl (r_var rfl rfl) r_int rfl) (by omega)) ?_
      rw [e2]
      refine b_next (s_app (ds := ps ++ [.bool (decide ((l.1 : Int) > 1))]) rfl ⟨rfl, rfl, rfl⟩ (d := .int (rgt r w l)) ?_ (by simp; (first | lia | omega))) (b_end rfl)
      refine r_bin (r_bin (r_bin r_int (r_meth (d := .str [45, 114]) (ds := [.str [sgR r]]) rfl (r_str rfl) (r_cons (r_sub rfl (r_var rfl rfl) (r_bin (r_bin r_int (r_var rfl rfl) (bin_mul (by decide))) r_int rfl) h1) r_nil) (ix_R r)) (bin_mul (by decide))) (r_bin r_int (r_meth (d := .str [45, 119]) (ds := [.str [sgW w]]) rfl (r_str rfl) (r_cons (r_sub rfl (r_var rfl rfl) (r_bin (r_bin r_int (r_var rfl rfl) (bin_mul (by decide))) r_int rfl) h2) r_nil) (ix_W w)) (bin_mul (by decide))) rfl) (r_ife (c := inX l) (t_cmp rfl (r_var rfl rfl) (r_tuple rfl (r_cons r_int (r_cons r_int r_nil)) (by (first | exact List.mem_cons_self | exact List.mem_cons_of_mem _ List.mem_cons_self | decide | simp))) (in_X l)) r_int r_int) (d := .int (rgt r w l)) ?_
      unfold rgt
      cases inX l <;> rfl
set_option maxRecDepth 100000 in
theorem e_shown (P : Params) (m : Nat) (H : O.call (.ref 147) [.int m] = some (.str (listM m))) : Rets O [Str.ofString "parts"] 20 (hd.heap_39 P) 159 [(Str.ofString "mode", .val (.int m))] (fileD m) := by
  have hl := listing_is m
  generalize signM (m : Int) 0 (listing.getD 0 []) = t0 at hl
  have key : ∀ (l0 l1 l2 : Fin 4) (a b c d e f : Bool), listM m = sgnL t0 a b c d e f l0 l1 l2 → Rets O [Str.ofString "parts"] 20 (hd.heap_39 P) 159 [(Str.ofString "mode", .val (.int m))] (.list [.bool (decide ((l0.1 : Int) > 1)), .int (rgt a b l0), .bool (decide ((l1.1 : Int) > 1)), .int (rgt c d l1), .bool (decide ((l2.1 : Int) > 1)), .int (rgt e f l2)]) := by
    intro l0 l1 l2 a b c d e f hl
    rw [hl] at H
    obtain ⟨σ1, a1, b1⟩ := sh_turn hO P m (sgnL t0 a b c d e f l0 l1 l2) 0 false a b l0 rfl rfl rfl rfl [] none (by (first | exact List.mem_cons_self | exact List.mem_cons_of_mem _ List.mem_cons_self | decide | simp))
    obtain ⟨σ2, a2, b2⟩ := sh_turn hO P m (sgnL t0 a b c d e f l0 l1 l2) 1 false c d l1 rfl rfl rfl rfl _ (some (0, (l0.1 : Int))) (show ([] ++ [D.bool (decide ((l0.1 : Int) > 1)), .int (rgt a b l0)]).length ≤ 10 by simp)
    obtain ⟨σ3, a3, b3⟩ := sh_turn hO P m (sgnL t0 a b c d e f l0 l1 l2) 2 true e f l2 rfl rfl rfl rfl _ (some (1, (l1.1 : Int))) (show (([] ++ [D.bool (decide ((l0.1 : Int) > 1)), .int (rgt a b l0)]) ++ [D.bool (decide ((l1.1 : Int) > 1)), .int (rgt c d l1)]).length ≤ 10 by simp)
    obtain ⟨g, c⟩ := O
    subst hO
    unfold Rets
    apply Exists.intro
    conv => lhs; arg 2; whnf
    refine b_next (s_asg rfl rfl (r_call rfl rfl (r_glob rfl rfl) (r_cons (r_var rfl rfl) r_nil) H)) (b_next (s_own rfl rfl) (b_next (s_for (d := .range 0 3 1) rfl (r_call rfl rfl (r_glob rfl rfl) (r_cons r_int r_nil) rfl) rfl (f_next a1 b1 (f_next a2 b2 (f_next a3 b3 (f_nil rfl))))) ?_))
    exact b_ret (s_ret (r_var rfl rfl))
  have := key _ _ _ _ _ _ _ _ _ hl
  rw [lx_big, lx_big, lx_big, rgt_is m 8 7 11 6 rfl rfl, rgt_is m 5 4 10 3 rfl rfl, rgt_is m 2 1 9 0 rfl rfl, Nat.pow_zero, Nat.div_one] at this
  exact this
end
end
section
theorem and4095 (n : Nat) : Builtin.bitAnd (n : Int) 4095 = ((n % 4096 : Nat) : Int) := by
  have : (4095 : Int) = ((4095 : Nat) : Int) := rfl
  rw [this, and_nat]
  congr 1
  exact Nat.and_two_pow_sub_one_eq_mod n 12
theorem bt_eq (m k d : Nat) (hd : d = 2 ^ k) (hk : k < 12) : ((((m % 4096 : Nat) : Int) / (d : Nat) % 2) == 1) = bt m k := by
  have e : ((m % 4096 : Nat) : Int) / (d : Nat) % 2 = ((m % 4096 / d % 2 : Nat) : Int) := rfl
  rw [e]
  refine (eq_int (b := 1) ?_)
  unfold bt
  have h : m % 4096 / 2 ^ k % 2 = m / 2 ^ k % 2 := by
    have : (4096 : Nat) = 2 ^ k * (2 * 2 ^ (11 - k)) := by rw [Nat.mul_left_comm, ← Nat.pow_add, show k + (11 - k) = 11 by omega]
    rw [this, Nat.mod_mul_right_div_self, Nat.mod_mul_right_mod]
  rw [hd, h]; simp
theorem md_eq (m d : Nat) (h : d * 8 ∣ 4096) : ((m % 4096 : Nat) : Int) / (d : Nat) % 8 = ((m / d % 8 : Nat) : Int) := by
  obtain ⟨z, hz⟩ := h
  have e : ((m % 4096 : Nat) : Int) / (d : Nat) % 8 = ((m % 4096 / d % 8 : Nat) : Int) := rfl
  rw [e, hz, Nat.mul_assoc, Nat.mod_mul_right_div_self, Nat.mod_mul_right_mod]
section
variable {O : Orc} (hO : O.glob = fun x => globs.lookup x)
include hO
set_option maxRecDepth 100000 in
theorem e_told (P : Params) (m : Nat) (H : O.call (.ref 100) [.int m] = some (.int (Builtin.bitAnd m 4095))) : Rets O [] 20 (hd.heap_39 P) 166 [(Str.ofString "mode", .val (.int m))] (fileD m) := by
  rw [and4095] at H
  have b1 := bt_eq m 11 2048 rfl (by decide)
  have b2 := bt_eq m 10 1024 rfl (by decide)
  have b3 := bt_eq m 9 512 rfl (by decide)
  have c1 := md_eq m 64 ⟨8, rfl⟩
  have c2 := md_eq m 8 ⟨64, rfl⟩
  have c3 : ((m % 4096 : Nat) : Int) % 8 = ((m % 8 : Nat) : Int) := congrArg (fun z : Nat => (z : Int)) (Nat.mod_mod_of_dvd m ⟨512, rfl⟩)
  unfold fileD
  rw [← b1, ← b2, ← b3, ← c1, ← c2, ← c3]
  obtain ⟨g, c⟩ := O
  subst hO
  unfold Rets
  apply Exists.intro
  conv => lhs; arg 2; whnf
  refine b_next (s_asg rfl rfl (r_call rfl rfl (r_glob rfl rfl) (r_cons (r_var rfl rfl) r_nil) H)) ?_
  refine b_ret (s_ret (r_list rfl ?_ (by (first | exact List.mem_cons_self | exact List.mem_cons_of_mem _ List.mem_cons_self | decide | simp))))
  refine r_cons (r_cmp rfl (r_bin (r_bin (r_var rfl rfl) r_int (bin_div (by decide))) r_int (bin_mod (by decide))) r_int rfl) ?_
  refine r_cons (r_bin (r_bin (r_var rfl rfl) r_int (bin_div (by decide))) r_int (bin_mod (by decide))) ?_
  refine r_cons (r_cmp rfl (r_bin (r_bin (r_var rfl rfl) r_int (bin_div (by decide))) r_int (bin_mod (by decide))) r_int rfl) ?_
  refine r_cons (r_bin (r_bin (r_var rfl rfl) r_int (bin_div (by decide))) r_int (bin_mod (by decide))) ?_
  refine r_cons (r_cmp rfl (r_bin (r_bin (r_var rfl rfl) r_int (bin_div (by decide))) r_int (bin_mod (by decide))) r_int rfl) ?_
  exact r_cons (r_bin (r_var rfl rfl) r_int (bin_mod (by decide))) r_nil
end
end
section
structure Gm where
  own : Fin 4 → Bool
  nx : Fin 4 → Bool → Fin 4
  key : Fin 4 → Nat
noncomputable abbrev Set4 := Fin 4 → Bool
noncomputable def cnt (U : Set4) : Nat := (U 0).toNat + (U 1).toNat + (U 2).toNat + (U 3).toNat
theorem toNat_le {a b : Bool} (h : a = true → b = true) : a.toNat ≤ b.toNat := by cases a <;> cases b <;> simp_all
theorem cnt_lt {U W : Set4} (h : ∀ v, U v = true → W v = true) (x : Fin 4) (h1 : W x = true) (h2 : U x = false) : cnt U < cnt W := by
  have e : ∀ v, (U v).toNat ≤ (W v).toNat := fun v => toNat_le (h v)
  have e0 := e 0
  have e1 := e 1
  have e2 := e 2
  have e3 := e 3
  have f : (U x).toNat < (W x).toNat := by rw [h1, h2]; decide
  unfold cnt
  rcases (by decide : ∀ v : Fin 4, v = 0 ∨ v = 1 ∨ v = 2 ∨ v = 3) x with rfl | rfl | rfl | rfl
  · exact Nat.add_lt_add_of_lt_of_le (Nat.add_lt_add_of_lt_of_le (Nat.add_lt_add_of_lt_of_le f e1) e2) e3
  · exact Nat.add_lt_add_of_lt_of_le (Nat.add_lt_add_of_lt_of_le (Nat.add_lt_add_of_le_of_lt e0 f) e2) e3
  · exact Nat.add_lt_add_of_lt_of_le (Nat.add_lt_add_of_le_of_lt (Nat.add_le_add e0 e1) f) e3
  · exact Nat.add_lt_add_of_le_of_lt (Nat.add_le_add (Nat.add_le_add e0 e1) e2) f
theorem max_at (key : Fin 4 → Nat) : ∀ l : List (Fin 4), l ≠ [] → ∃ m ∈ l, ∀ v ∈ l, key v ≤ key m
  | [], h => absurd rfl h
  | [a], _ => ⟨a, List.mem_cons_self, fun v m => by rw [List.mem_singleton.mp m]; exact Nat.le_refl _⟩
  | a :: b :: l, _ => by
    obtain ⟨m, hm, h⟩ := max_at key (b :: l) (by (first | exact List.mem_cons_self | exact List.mem_cons_of_mem _ List.mem_cons_self | decide | simp))
    by_cases c : key a ≤ key m
    · exact ⟨m, List.mem_cons_of_mem _ hm, fun v hv => (List.mem_cons.mp hv).elim (fun e => e ▸ c) (h v)⟩
    · exact ⟨a, List.mem_cons_self, fun v hv => (List.mem_cons.mp hv).elim (fun e => e ▸ Nat.le_refl _) fun q => Nat.le_trans (h v q) (by omega)⟩
theorem max_in (key : Fin 4 → Nat) (U : Set4) (x : Fin 4) (hx : U x = true) : ∃ m, U m = true ∧ ∀ v, U v = true → key v ≤ key m := by
  have mem : ∀ v : Fin 4, v ∈ [(0 : Fin 4), 1, 2, 3] := by decide
  obtain ⟨m, hm, h⟩ := max_at key ([(0 : Fin 4), 1, 2, 3].filter U) (List.ne_nil_of_mem (List.mem_filter.mpr ⟨mem x, hx⟩))
  exact ⟨m, (List.mem_filter.mp hm).2, fun v hv => h v (List.mem_filter.mpr ⟨mem v, hv⟩)⟩
noncomputable def par (k : Nat) : Bool := k % 2 == 1
section
variable (G : Gm)
noncomputable def Drw (q : Bool) (U A : Set4) (r : Fin 4 → Nat) (g : Fin 4 → Bool) (v : Fin 4) : Prop :=
  (G.own v = q → A (G.nx v (g v)) = true ∧ r (G.nx v (g v)) < r v) ∧ (G.own v ≠ q → ∀ s, U (G.nx v s) = true → A (G.nx v s) = true ∧ r (G.nx v s) < r v)
noncomputable def Out (q : Bool) (U A : Set4) (v : Fin 4) : Prop :=
  (G.own v = q → ∀ s, U (G.nx v s) = true → A (G.nx v s) = false) ∧ (G.own v ≠ q → ∃ s, U (G.nx v s) = true ∧ A (G.nx v s) = false)
theorem attr_go (q : Bool) (U T : Set4) : ∀ (k : Nat) (A : Set4) (r : Fin 4 → Nat) (g : Fin 4 → Bool) (N : Nat), cnt U ≤ cnt A + k → (∀ v, T v = true → A v = true) → (∀ v, A v = true → U v = true) → (∀ v, A v = true → r v ≤ N) →
    (∀ v, A v = true → T v = false → Drw G q U A r g v) → ∃ A r g, (∀ v, T v = true → A v = true) ∧ (∀ v, A v = true → U v = true) ∧ (∀ v, A v = true → T v = false → Drw G q U A r g v) ∧ ∀ v, U v = true → A v = false → Out G q U A v := by
  intro k
  induction k with
  | zero =>
    intro A r g N hk hT hU hr hd
    refine ⟨A, r, g, hT, hU, hd, fun v h1 h2 => ?_⟩
    have := cnt_lt hU v h1 h2
    omega
  | succ k ih =>
    intro A r g N hk hT hU hr hd
    by_cases hc : ∀ v, U v = true → A v = false → Out G q U A v
    · exact ⟨A, r, g, hT, hU, hd, hc⟩
    · obtain ⟨v, hc⟩ := Classical.not_forall.mp hc
      obtain ⟨h1, hc⟩ := Classical.not_imp.mp hc
      obtain ⟨h2, hc⟩ := Classical.not_imp.mp hc
      -- a move of v into A
      have hs : ∃ s, (G.own v = q → A (G.nx v s) = true) ∧ (G.own v ≠ q → ∀ s, U (G.nx v s) = true → A (G.nx v s) = true) := by
        by_cases ho : G.own v = q
        · have : ∃ s, A (G.nx v s) = true := Classical.byContradiction fun hn => hc ⟨fun _ s _ => by
            cases e : A (G.nx v s)
            · rfl
            · exact absurd ⟨s, e⟩ hn, fun h => absurd ho h⟩
          obtain ⟨s, e⟩ := this
          exact ⟨s, fun _ => e, fun h => absurd ho h⟩
        · refine ⟨true, fun h => absurd h ho, fun _ s hs => ?_⟩
          cases e : A (G.nx v s)
          · exact absurd ⟨fun h => absurd h ho, fun _ => ⟨s, hs, e⟩⟩ hc
          · rfl
      obtain ⟨s, hs1, hs2⟩ := hs
      have av : ∀ {x}, A x = true → x ≠ v := fun {x} e q => by rw [q, h2] at e; cases e
      have nA : ∀ x, A x = true → (if x = v then true else A x) = true := fun x e => by rw [if_neg (av e)]; exact e
      have nr : ∀ x, A x = true → (if x = v then N + 1 else r x) = r x := fun x e => if_neg (av e)
      refine ih (fun x => if x = v then true else A x) (fun x => if x = v then N + 1 else r x) (fun x => if x = v then s else g x) (N + 1) ?_ (fun x e => nA x (hT x e)) (fun x e => ?_) (fun x e => ?_) (fun x e et => ?_)
      · have := cnt_lt (U := A) (W := fun x => if x = v then true else A x) nA v (by (first | exact List.mem_cons_self | exact List.mem_cons_of_mem _ List.mem_cons_self | decide | simp)) h2
        omega
      · by_cases q : x = v
        · rw [q]; exact h1
        · exact hU x (by simpa [q] using e)
      · by_cases q : x = v
        · simp [q]
        · have e' : A x = true := by simpa [q] using e
          simp only [q, if_false]
          exact Nat.le_succ_of_le (hr x e')
      · by_cases q : x = v
        · subst q
          refine ⟨fun ho => ?_, fun ho s' hs' => ?_⟩
          · simp only [if_true]
            have := hs1 ho
            exact ⟨nA _ this, by rw [nr _ this]; exact Nat.lt_succ_of_le (hr _ this)⟩
          · have := hs2 ho s' hs'
            exact ⟨nA _ this, by simp only [if_true]; rw [nr _ this]; exact Nat.lt_succ_of_le (hr _ this)⟩
        · have e' : A x = true := by simpa [q] using e
          obtain ⟨d1, d2⟩ := hd x e' et
          refine ⟨fun ho => ?_, fun ho s' hs' => ?_⟩
          · obtain ⟨a, b⟩ := d1 ho
            simp only [q, if_false]
            exact ⟨nA _ a, by rw [nr _ a]; exact b⟩
          · obtain ⟨a, b⟩ := d2 ho s' hs'
            exact ⟨nA _ a, by simp only [q, if_false]; rw [nr _ a]; exact b⟩
theorem attr (q : Bool) (U T : Set4) (hT : ∀ v, T v = true → U v = true) : ∃ A r g, (∀ v, T v = true → A v = true) ∧ (∀ v, A v = true → U v = true) ∧ (∀ v, A v = true → T v = false → Drw G q U A r g v) ∧ ∀ v, U v = true → A v = false → Out G q U A v :=
  attr_go G q U T (cnt U) T (fun _ => 0) (fun _ => true) 0 (by omega) (fun _ e => e) hT (fun _ _ => Nat.le_refl _) fun v e e' => by rw [e] at e'; cases e'

structure Ring (U P : Set4) (f : Fin 4 → Bool) (w : Nat → Fin 4) (n : Nat) : Prop where
  pos : 0 < n
  per : ∀ i, w (i + n) = w i
  inn : ∀ i, U (w i) = true
  mine : ∀ i, G.own (w i) = P (w i) → w (i + 1) = G.nx (w i) (f (w i))
  any : ∀ i, ∃ s, w (i + 1) = G.nx (w i) s
structure Sol (U P : Set4) (f : Fin 4 → Bool) : Prop where
  a : ∀ v, U v = true → G.own v = P v → U (G.nx v (f v)) = true ∧ P (G.nx v (f v)) = P v
  b : ∀ v, U v = true → G.own v ≠ P v → ∀ s, U (G.nx v s) = true → P (G.nx v s) = P v
  c : ∀ w n, Ring G U P f w n → ∃ i, par (G.key (w i)) = P (w 0) ∧ ∀ j, G.key (w j) ≤ G.key (w i)
end
end
section
section
variable {G : Gm}
theorem Ring.const {U P : Set4} {f : Fin 4 → Bool} {w : Nat → Fin 4} {n : Nat} (R : Ring G U P f w n) (a : ∀ v, U v = true → G.own v = P v → U (G.nx v (f v)) = true ∧ P (G.nx v (f v)) = P v) (b : ∀ v, U v = true → G.own v ≠ P v → ∀ s, U (G.nx v s) = true → P (G.nx v s) = P v) : ∀ i, P (w i) = P (w 0)
  | 0 => rfl
  | i + 1 => by
    rw [← Ring.const R a b i]
    by_cases h : G.own (w i) = P (w i)
    · rw [R.mine i h]; exact (a _ (R.inn i) h).2
    · obtain ⟨s, e⟩ := R.any i
      have := R.inn (i + 1)
      rw [e] at this ⊢
      exact b _ (R.inn i) h s this
theorem Ring.far {U P : Set4} {f : Fin 4 → Bool} {w : Nat → Fin 4} {n : Nat} (R : Ring G U P f w n) (i : Nat) : ∀ k, w (i + k * n) = w i
  | 0 => by simp
  | k + 1 => by rw [Nat.succ_mul, ← Nat.add_assoc, R.per]; exact Ring.far R i k
theorem down {w : Nat → Fin 4} {A : Set4} {r : Fin 4 → Nat} (h : ∀ i, A (w i) = true → A (w (i + 1)) = true ∧ r (w (i + 1)) < r (w i)) : ∀ (k i : Nat), r (w i) ≤ k → A (w i) = true → False
  | 0, i, hk, e => by have := (h i e).2; omega
  | k + 1, i, hk, e => by have := h i e; exact down h k (i + 1) (by omega) this.1
theorem bne_not {a b : Bool} (h : a ≠ b) : a = !b := by cases a <;> cases b <;> simp_all
theorem drw_step {q : Bool} {U A P : Set4} {r : Fin 4 → Nat} {g f : Fin 4 → Bool} {w : Nat → Fin 4} {n : Nat} (R : Ring G U P f w n) {i : Nat} (hp : P (w i) = q) (hf : G.own (w i) = q → f (w i) = g (w i)) (d : Drw G q U A r g (w i)) : A (w (i + 1)) = true ∧ r (w (i + 1)) < r (w i) := by
  by_cases h : G.own (w i) = q
  · rw [R.mine i (h.trans hp.symm), hf h]; exact d.1 h
  · obtain ⟨s, e⟩ := R.any i
    have := R.inn (i + 1)
    rw [e] at this ⊢
    exact d.2 h s this
theorem ziel1 {U A T U' P' : Set4} {p : Bool} {r : Fin 4 → Nat} {g f' e : Fin 4 → Bool} {d : Nat} (hd : par d = p) (hmax : ∀ v, U v = true → G.key v ≤ d) (hT : ∀ v, T v = true ↔ U v = true ∧ G.key v = d) (hA : ∀ v, A v = true → U v = true) (hTA : ∀ v, T v = true → A v = true)
    (hdr : ∀ v, A v = true → T v = false → Drw G p U A r g v) (hU' : ∀ v, U' v = true ↔ U v = true ∧ A v = false) (S : Sol G U' P' f') (hall : ∀ v, U' v = true → P' v = p) (he : ∀ v, U v = true → U (G.nx v (e v)) = true) :
    Sol G U (fun _ => p) (fun v => if U' v = true then f' v else if T v = true then e v else g v) where
  a := fun v hv ho => ⟨by
    by_cases h1 : U' v = true
    · rw [if_pos h1]
      exact ((hU' _).mp (S.a v h1 (ho.trans (hall v h1).symm)).1).1
    · rw [if_neg h1]
      by_cases h2 : T v = true
      · rw [if_pos h2]; exact he v hv
      · rw [if_neg h2]
        have av : A v = true := by
          cases q : A v
          · exact absurd ((hU' v).mpr ⟨hv, q⟩) h1
          · rfl
        exact hA _ ((hdr v av (by simpa using h2)).1 ho).1, rfl⟩
  b := fun v hv ho s hs => rfl
  c := fun w n R => by
    by_cases hh : ∃ i, T (w i) = true
    · obtain ⟨i, hi⟩ := hh
      have := (hT _).mp hi
      exact ⟨i, by rw [this.2]; exact hd, fun j => by rw [this.2]; exact hmax _ (R.inn j)⟩
    · have nT : ∀ i, T (w i) = false := fun i => by
        cases q : T (w i)
        · rfl
        · exact absurd ⟨i, q⟩ hh
      have nU' : ∀ i, A (w i) = true → ¬ U' (w i) = true := fun i h q => by
        have := ((hU' _).mp q).2
        rw [h] at this; cases this
      have nA : ∀ i, A (w i) = false := fun i => by
        cases q : A (w i)
        · rfl
        · refine (down (w := w) (A := A) (r := r) (fun j hj => drw_step (q := p) R rfl (fun ho => ?_) (hdr _ hj (nT j))) _ i (Nat.le_refl _) q).elim
          rw [if_neg (nU' j hj), if_neg (by rw [nT j]; simp)]
      have iU : ∀ i, U' (w i) = true := fun i => (hU' _).mpr ⟨R.inn i, nA i⟩
      obtain ⟨i, h1, h2⟩ := S.c w n ⟨R.pos, R.per, iU, fun i ho => by
        have := R.mine i (ho.trans (hall _ (iU i)))
        rw [if_pos (iU i)] at this
        exact this, R.any⟩
      exact ⟨i, by rw [h1]; exact hall _ (iU 0), h2⟩
end
end
section
section
variable {G : Gm}
theorem ziel2 {U A U' P' T B U2 P2 : Set4} {p q : Bool} {g f' f2 : Fin 4 → Bool} {r : Fin 4 → Nat} (hpq : ∀ b : Bool, b ≠ q ↔ b = p) (hA : ∀ v, U v = true → A v = false → Out G p U A v) (hU' : ∀ v, U' v = true ↔ U v = true ∧ A v = false) (S : Sol G U' P' f')
    (hT : ∀ v, T v = true ↔ U' v = true ∧ P' v = q) (hTB : ∀ v, T v = true → B v = true) (hB : ∀ v, B v = true → U v = true) (hdr : ∀ v, B v = true → T v = false → Drw G q U B r g v) (hO : ∀ v, U v = true → B v = false → Out G q U B v)
    (hU2 : ∀ v, U2 v = true ↔ U v = true ∧ B v = false) (S2 : Sol G U2 P2 f2) :
    Sol G U (fun v => if B v = true then q else P2 v) (fun v => if T v = true then f' v else if B v = true then g v else f2 v) := by
  have pB : ∀ {v}, B v = true → (if B v = true then q else P2 v) = q := fun h => if_pos h
  have pN : ∀ {v}, B v = false → (if B v = true then q else P2 v) = P2 v := fun h => if_neg (by rw [h]; simp)
  -- from T one stays in T
  have tA : ∀ v, T v = true → G.own v = q → T (G.nx v (f' v)) = true := fun v h ho => by
    obtain ⟨h1, h2⟩ := (hT v).mp h
    obtain ⟨a, b⟩ := S.a v h1 (ho.trans h2.symm)
    exact (hT _).mpr ⟨a, b.trans h2⟩
  have tB : ∀ v, T v = true → G.own v ≠ q → ∀ s, U (G.nx v s) = true → T (G.nx v s) = true := fun v h ho s hs => by
    obtain ⟨h1, h2⟩ := (hT v).mp h
    obtain ⟨h3, h4⟩ := (hU' v).mp h1
    have h5 := (hA v h3 h4).1 ((hpq _).mp ho) s hs
    have h6 := (hU' _).mpr ⟨hs, h5⟩
    exact (hT _).mpr ⟨h6, (S.b v h1 (by rw [h2]; exact ho) s h6).trans h2⟩
  have ca : ∀ v, U v = true → G.own v = (if B v = true then q else P2 v) → U (G.nx v (if T v = true then f' v else if B v = true then g v else f2 v)) = true ∧ (if B (G.nx v (if T v = true then f' v else if B v = true then g v else f2 v)) = true then q else P2 (G.nx v (if T v = true then f' v else if B v = true then g v else f2 v))) = (if B v = true then q else P2 v) := fun v hv ho => by
    rcases Bool.eq_false_or_eq_true (B v) with hb | hb; rotate_left
    · have ht : ¬ T v = true := fun h => by rw [hTB v h] at hb; cases hb
      rw [pN hb] at ho ⊢
      rw [if_neg ht, if_neg (by rw [hb]; simp)]
      obtain ⟨a, b⟩ := S2.a v ((hU2 v).mpr ⟨hv, hb⟩) ho
      obtain ⟨a1, a2⟩ := (hU2 _).mp a
      exact ⟨a1, by rw [pN a2]; exact b⟩
    · rw [pB hb] at ho ⊢
      by_cases ht : T v = true
      · rw [if_pos ht]
        have := hTB _ (tA v ht ho)
        exact ⟨hB _ this, pB this⟩
      · rw [if_neg ht, if_pos hb]
        have := ((hdr v hb (by simpa using ht)).1 ho).1
        exact ⟨hB _ this, pB this⟩
  have cb : ∀ v, U v = true → G.own v ≠ (if B v = true then q else P2 v) → ∀ s, U (G.nx v s) = true → (if B (G.nx v s) = true then q else P2 (G.nx v s)) = (if B v = true then q else P2 v) := fun v hv ho s hs => by
    rcases Bool.eq_false_or_eq_true (B v) with hb | hb; rotate_left
    · rw [pN hb] at ho ⊢
      have h2 := (hU2 v).mpr ⟨hv, hb⟩
      rcases Bool.eq_false_or_eq_true (B (G.nx v s)) with hc | hc; rotate_left
      · rw [pN hc]; exact S2.b v h2 ho s ((hU2 _).mpr ⟨hs, hc⟩)
      · rw [pB hc]
        by_cases hq : G.own v = q
        · have := (hO v hv hb).1 hq s hs
          rw [hc] at this; cases this
        · have e1 := (hpq _).mp hq
          by_cases e2 : P2 v = q
          · exact e2.symm
          · exact absurd (e1.trans ((hpq _).mp e2).symm) ho
    · rw [pB hb] at ho ⊢
      by_cases ht : T v = true
      · exact pB (hTB _ (tB v ht ho s hs))
      · exact pB ((hdr v hb (by simpa using ht)).2 ho s hs).1
  refine ⟨ca, cb, fun w n R => ?_⟩
  have cst := R.const ca cb
  by_cases hh : ∃ i, B (w i) = true
  · obtain ⟨i0, hi0⟩ := hh
    have c0 : (if B (w 0) = true then q else P2 (w 0)) = q := (cst i0).symm.trans (pB hi0)
    have cq : ∀ i, (if B (w i) = true then q else P2 (w i)) = q := fun i => (cst i).trans c0
    have stay : ∀ i, T (w i) = true → T (w (i + 1)) = true := fun i h => by
      by_cases ho : G.own (w i) = q
      · have e := R.mine i (ho.trans (cq i).symm)
        rw [if_pos h] at e
        rw [e]; exact tA _ h ho
      · obtain ⟨s, e⟩ := R.any i
        have := R.inn (i + 1)
        rw [e] at this ⊢
        exact tB _ h ho s this
    have ex : ∃ i, T (w i) = true := Classical.byContradiction fun hn => by
      have nT : ∀ i, T (w i) = false := fun i => by
        cases z : T (w i)
        · rfl
        · exact absurd ⟨i, z⟩ hn
      exact down (w := w) (A := B) (r := r) (fun j hj => drw_step (q := q) R (cq j) (fun ho => by rw [if_neg (by rw [nT j]; simp), if_pos hj]) (hdr _ hj (nT j))) _ i0 (Nat.le_refl _) hi0
    obtain ⟨j, hj⟩ := ex
    have up : ∀ k, T (w (j + k)) = true := fun k => by
      induction k with
      | zero => exact hj
      | succ k ih => exact stay _ ih
    have all : ∀ i, T (w i) = true := fun i => by
      have e := R.far i j
      have hn : j ≤ j * n := Nat.le_mul_of_pos_right j R.pos
      have := up (i + j * n - j)
      rw [Nat.add_sub_of_le (Nat.le_trans hn (Nat.le_add_left _ _)), e] at this
      exact this
    have iU : ∀ i, U' (w i) = true ∧ P' (w i) = q := fun i => (hT _).mp (all i)
    obtain ⟨i, h1, h2⟩ := S.c w n ⟨R.pos, R.per, fun i => (iU i).1, fun i ho => by
      have := R.mine i (ho.trans ((iU i).2.trans (cq i).symm))
      rw [if_pos (all i)] at this
      exact this, R.any⟩
    exact ⟨i, h1.trans ((iU 0).2.trans c0.symm), h2⟩
  · have nB : ∀ i, B (w i) = false := fun i => by
      cases z : B (w i)
      · rfl
      · exact absurd ⟨i, z⟩ hh
    obtain ⟨i, h1, h2⟩ := S2.c w n ⟨R.pos, R.per, fun i => (hU2 _).mpr ⟨R.inn i, nB i⟩, fun i ho => by
      have e := R.mine i (ho.trans (pN (nB i)).symm)
      rw [if_neg (fun h => by have := hTB _ h; rw [nB i] at this; cases this), if_neg (by rw [nB i]; simp)] at e
      exact e, R.any⟩
    exact ⟨i, h1.trans (pN (nB 0)).symm, h2⟩
theorem ziel : ∀ (k : Nat) (U : Set4), cnt U ≤ k → (∀ v, U v = true → ∃ s, U (G.nx v s) = true) → ∃ P f, Sol G U P f := by
  intro k
  induction k with
  | zero =>
    intro U hk hs
    have no : ∀ v, U v = true → False := fun v h => by
      have := cnt_lt (U := fun _ => false) (W := U) (fun _ e => by cases e) v h rfl
      exact absurd (Nat.lt_of_lt_of_le this hk) (Nat.not_lt_zero _)
    exact ⟨fun _ => true, fun _ => true, fun v h => (no v h).elim, fun v h => (no v h).elim, fun w n R => (no _ (R.inn 0)).elim⟩
  | succ k ih =>
    intro U hk hs
    by_cases he : ∃ x, U x = true
    · obtain ⟨x, hx⟩ := he
      obtain ⟨m, hm, hmax⟩ := max_in G.key U x hx
      obtain ⟨A, r, g, a1, a2, a3, a4⟩ := attr G (par (G.key m)) U (fun v => U v && G.key v == G.key m) (fun v h => by simp at h; exact h.1)
      have hT : ∀ v, (U v && G.key v == G.key m) = true ↔ U v = true ∧ G.key v = G.key m := fun v => by simp
      have hU' : ∀ v, (U v && !(A v)) = true ↔ U v = true ∧ A v = false := fun v => by simp
      have out_sub : ∀ {q : Bool} {B : Set4}, (∀ v, U v = true → B v = false → Out G q U B v) → ∀ v, (U v && !(B v)) = true → ∃ s, (U (G.nx v s) && !(B (G.nx v s))) = true := fun {q B} h v hv => by
        have hv' : U v = true ∧ B v = false := by simpa using hv
        by_cases ho : G.own v = q
        · obtain ⟨s, e⟩ := hs v hv'.1
          exact ⟨s, by rw [e, (h v hv'.1 hv'.2).1 ho s e]; rfl⟩
        · obtain ⟨s, e, e2⟩ := (h v hv'.1 hv'.2).2 ho
          exact ⟨s, by rw [e, e2]; rfl⟩
      have less : ∀ {B : Set4} {y : Fin 4}, U y = true → B y = true → cnt (fun v => U v && !(B v)) ≤ k := fun {B y} h1 h2 => by
        have := cnt_lt (U := fun v => U v && !(B v)) (W := U) (fun v h => by simp at h; exact h.1) y h1 (by simp [h2])
        exact Nat.le_of_lt_succ (Nat.lt_of_lt_of_le this hk)
      obtain ⟨P', f', S⟩ := ih (fun v => U v && !(A v)) (less hm (a1 m ((hT m).mpr ⟨hm, rfl⟩))) (out_sub a4)
      by_cases hall : ∀ v, (U v && !(A v)) = true → P' v = par (G.key m)
      · have hc : ∃ e : Fin 4 → Bool, ∀ v, U v = true → U (G.nx v (e v)) = true := by
          have : ∀ v, ∃ s, U v = true → U (G.nx v s) = true := fun v => by
            by_cases h : U v = true
            · obtain ⟨s, e⟩ := hs v h; exact ⟨s, fun _ => e⟩
            · exact ⟨true, fun h' => absurd h' h⟩
          exact ⟨fun v => Classical.choose (this v), fun v => Classical.choose_spec (this v)⟩
        obtain ⟨e, he⟩ := hc
        exact ⟨_, _, ziel1 rfl hmax hT a2 a1 a3 hU' S hall he⟩
      · obtain ⟨y, hy⟩ := Classical.not_forall.mp hall
        obtain ⟨hy1, hy2⟩ := Classical.not_imp.mp hy
        have hT2 : ∀ v, ((U v && !(A v)) && P' v == !(par (G.key m))) = true ↔ (U v && !(A v)) = true ∧ P' v = !(par (G.key m)) := fun v => by simp
        obtain ⟨B, r2, g2, b1, b2, b3, b4⟩ := attr G (!(par (G.key m))) U (fun v => (U v && !(A v)) && P' v == !(par (G.key m))) (fun v h => ((hU' v).mp ((hT2 v).mp h).1).1)
        have yB : B y = true := b1 y ((hT2 y).mpr ⟨hy1, bne_not hy2⟩)
        obtain ⟨P2, f2, S2⟩ := ih (fun v => U v && !(B v)) (less ((hU' y).mp hy1).1 yB) (out_sub b4)
        exact ⟨_, _, ziel2 (p := par (G.key m)) (q := !(par (G.key m))) (fun b => by cases b <;> cases par (G.key m) <;> simp) a4 hU' S hT2 b1 b2 b3 b4 (fun v => by simp) S2⟩
    · exact ⟨fun _ => true, fun _ => true, fun v h => absurd ⟨v, h⟩ he, fun v h => absurd ⟨v, h⟩ he, fun w n R => absurd ⟨_, R.inn 0⟩ he⟩
theorem settled (G : Gm) : ∃ P f, Sol G (fun _ => true) P f := ziel 4 _ (by decide) fun v _ => ⟨true, rfl⟩
end
end
section
noncomputable def fins : List (Fin 4) := [0, 1, 2, 3]
theorem mem_fins (v : Fin 4) : v ∈ fins := by revert v; decide
noncomputable def bitN (c : Nat) (v : Nat) : Bool := c / 2 ^ v % 2 == 1
noncomputable def maxK (l : List Nat) : Nat := l.foldl max 0
theorem maxK_go : ∀ (l : List Nat) (a : Nat), a ≤ l.foldl max a ∧ (∀ x ∈ l, x ≤ l.foldl max a) ∧ (l.foldl max a = a ∨ l.foldl max a ∈ l)
  | [], a => ⟨Nat.le_refl _, by simp, .inl rfl⟩
  | x :: l, a => by
    obtain ⟨h1, h2, h3⟩ := maxK_go l (max a x)
    refine ⟨Nat.le_trans (Nat.le_max_left _ _) h1, fun y m => ?_, ?_⟩
    · rcases List.mem_cons.mp m with rfl | m
      · exact Nat.le_trans (Nat.le_max_right _ _) h1
      · exact h2 y m
    · rw [List.foldl_cons]
      rcases h3 with e | e
      · rw [e]
        rcases Nat.le_total a x with q | q
        · rw [Nat.max_eq_right q]; exact .inr List.mem_cons_self
        · rw [Nat.max_eq_left q]; exact .inl rfl
      · exact .inr (List.mem_cons_of_mem _ e)
theorem maxK_is {l : List Nat} {k : Nat} (h : k ∈ l) (hm : ∀ x ∈ l, x ≤ k) : maxK l = k := by
  obtain ⟨_, h2, h3⟩ := maxK_go l 0
  have := h2 k h
  unfold maxK
  rcases h3 with e | e
  · omega
  · have := hm _ e; omega
section
variable (G : Gm)
noncomputable def it (c : Nat) (v : Fin 4) : Nat → Fin 4
  | 0 => v
  | k + 1 => G.nx (it c v k) (bitN c (it c v k).1)
theorem it_add (c : Nat) (v : Fin 4) (a : Nat) : ∀ k, it G c v (a + k) = it G c (it G c v a) k
  | 0 => rfl
  | k + 1 => by
    show G.nx (it G c v (a + k)) (bitN c (it G c v (a + k)).1) = _
    rw [it_add c v a k]; rfl
theorem five : ∀ a b c d e : Fin 4, a = b ∨ a = c ∨ a = d ∨ a = e ∨ b = c ∨ b = d ∨ b = e ∨ c = d ∨ c = e ∨ d = e := by decide +kernel
theorem no5f : ∀ a b c d e : Fin 4, ¬ [a, b, c, d, e].Nodup := by decide +kernel
theorem len_cons {α : Type} {l : List α} {n : Nat} (h : l.length = n + 1) : ∃ a t, l = a :: t ∧ t.length = n := by
  cases l with
  | nil => cases h
  | cons a t => exact ⟨a, t, rfl, Nat.succ.inj h⟩
theorem no5 (l : List (Fin 4)) (h : l.length = 5) : ¬ l.Nodup := by
  obtain ⟨a, _, rfl, h1⟩ := len_cons h
  obtain ⟨b, _, rfl, h2⟩ := len_cons h1
  obtain ⟨c, _, rfl, h3⟩ := len_cons h2
  obtain ⟨d, _, rfl, h4⟩ := len_cons h3
  obtain ⟨e, _, rfl, h5⟩ := len_cons h4
  rw [List.length_eq_zero_iff.mp h5]
  exact no5f a b c d e
theorem it_round (c : Nat) (v : Fin 4) : ∃ n, 0 < n ∧ n ≤ 4 ∧ ∀ i, it G c v (4 + i + n) = it G c v (4 + i) := by
  have key : ∀ i n, it G c v i = it G c v (i + n) → i ≤ 4 → ∀ j, it G c v (4 + j + n) = it G c v (4 + j) := fun i n e hi j => by
    obtain ⟨d, hd⟩ : ∃ d, 4 + j = i + d := ⟨4 + j - i, (Nat.add_sub_of_le (Nat.le_trans hi (Nat.le_add_right 4 j))).symm⟩
    rw [hd, Nat.add_right_comm, it_add, ← e, ← it_add]
  rcases five (it G c v 0) (it G c v 1) (it G c v 2) (it G c v 3) (it G c v 4) with e | e | e | e | e | e | e | e | e | e
  · exact ⟨1, by decide, by decide, key 0 1 e (by decide)⟩
  · exact ⟨2, by decide, by decide, key 0 2 e (by decide)⟩
  · exact ⟨3, by decide, by decide, key 0 3 e (by decide)⟩
  · exact ⟨4, by decide, by decide, key 0 4 e (by decide)⟩
  · exact ⟨1, by decide, by decide, key 1 1 e (by decide)⟩
  · exact ⟨2, by decide, by decide, key 1 2 e (by decide)⟩
  · exact ⟨3, by decide, by decide, key 1 3 e (by decide)⟩
  · exact ⟨1, by decide, by decide, key 2 1 e (by decide)⟩
  · exact ⟨2, by decide, by decide, key 2 2 e (by decide)⟩
  · exact ⟨1, by decide, by decide, key 3 1 e (by decide)⟩
noncomputable def inRing (c : Nat) (v x : Fin 4) : Bool := [it G c v 5, it G c v 6, it G c v 7, it G c v 8].contains x
theorem inRing_iff (c : Nat) (v x : Fin 4) : inRing G c v x = true ↔ ∃ i, it G c v (4 + i) = x := by
  obtain ⟨n, h0, h4, hp⟩ := it_round G c v
  have back : ∀ i, ∃ j, 1 ≤ j ∧ j ≤ 4 ∧ it G c v (4 + i) = it G c v (4 + j) := by
    intro i
    induction i using Nat.strongRecOn with
    | _ i ih =>
      by_cases a : i = 0
      · exact ⟨n, h0, h4, by rw [a]; exact (hp 0).symm⟩
      · by_cases b : i ≤ 4
        · exact ⟨i, by omega, b, rfl⟩
        · obtain ⟨j, a1, a2, a3⟩ := ih (i - n) (by omega)
          refine ⟨j, a1, a2, ?_⟩
          rw [← a3, ← hp (i - n), Nat.add_assoc, Nat.sub_add_cancel (Nat.le_of_lt (Nat.lt_of_le_of_lt h4 (Nat.lt_of_not_le b)))]
  unfold inRing
  rw [List.contains_iff_mem]
  constructor
  · intro h
    simp only [List.mem_cons, List.not_mem_nil, or_false] at h
    rcases h with h | h | h | h
    · exact ⟨1, h.symm⟩
    · exact ⟨2, h.symm⟩
    · exact ⟨3, h.symm⟩
    · exact ⟨4, h.symm⟩
  · rintro ⟨i, rfl⟩
    obtain ⟨j, a1, a2, a3⟩ := back i
    rw [a3]
    have : ∀ j : Fin 5, 1 ≤ j.1 → j.1 = 1 ∨ j.1 = 2 ∨ j.1 = 3 ∨ j.1 = 4 := by decide
    rcases this ⟨j, Nat.lt_succ_of_le a2⟩ a1 with rfl | rfl | rfl | rfl <;> simp
noncomputable def jd (c : Nat) (v : Fin 4) : Bool := par (maxK ((fins.filter (inRing G c v)).map G.key))
variable {G}
theorem jd_sol {P : Set4} {f : Fin 4 → Bool} (S : Sol G (fun _ => true) P f) {c : Nat} {v : Fin 4} (h : ∀ x, G.own x = P v → bitN c x.1 = f x) : jd G c v = P v := by
  have cst : ∀ i, P (it G c v i) = P v := fun i => by
    induction i with
    | zero => rfl
    | succ i ih =>
      rw [← ih]
      by_cases ho : G.own (it G c v i) = P (it G c v i)
      · show P (G.nx _ _) = _
        rw [h _ (ho.trans ih)]
        exact (S.a _ rfl ho).2
      · exact S.b _ rfl ho _ rfl
  obtain ⟨n, h0, _, hp⟩ := it_round G c v
  obtain ⟨i, h1, h2⟩ := S.c (fun i => it G c v (4 + i)) n ⟨h0, fun i => by rw [← hp i, Nat.add_assoc], fun _ => rfl, fun i ho => by
    show G.nx (it G c v (4 + i)) (bitN c (it G c v (4 + i)).1) = _
    rw [h _ (ho.trans (cst _))], fun i => ⟨bitN c (it G c v (4 + i)).1, rfl⟩⟩
  have e : maxK ((fins.filter (inRing G c v)).map G.key) = G.key (it G c v (4 + i)) := by
    refine maxK_is (List.mem_map.mpr ⟨_, List.mem_filter.mpr ⟨mem_fins _, (inRing_iff G c v _).mpr ⟨i, rfl⟩⟩, rfl⟩) fun x m => ?_
    obtain ⟨y, my, rfl⟩ := List.mem_map.mp m
    obtain ⟨j, rfl⟩ := (inRing_iff G c v y).mp (List.mem_filter.mp my).2
    exact h2 j
  unfold jd
  rw [e, h1]
  exact cst 4
variable (G)
noncomputable def winsF : Nat → List (Fin 4) → Bool
  | 0, _ => false
  | k + 1, path =>
    let e (s : Bool) : Bool := if path.contains (G.nx (path.getLastD 0) s) then par (maxK ((path.drop (path.idxOf (G.nx (path.getLastD 0) s))).map G.key)) else winsF k (path ++ [G.nx (path.getLastD 0) s])
    if G.own (path.getLastD 0) then e false || e true else e false && e true
end
end
section
section
variable {G : Gm}
structure Pth (G : Gm) (P : Set4) (f : Fin 4 → Bool) (p : Bool) (l : List (Fin 4)) : Prop where
  ne : 0 < l.length
  nd : l.Nodup
  all : ∀ i, i < l.length → P (l.getD i 0) = p
  lk : ∀ i, i + 1 < l.length → (G.own (l.getD i 0) = p → l.getD (i + 1) 0 = G.nx (l.getD i 0) (f (l.getD i 0))) ∧ ∃ s, l.getD (i + 1) 0 = G.nx (l.getD i 0) s
theorem lastD (l : List (Fin 4)) (h : 0 < l.length) : l.getLastD 0 = l.getD (l.length - 1) 0 := by
  cases l with
  | nil => cases h
  | cons a l => simp [List.getLastD_eq_getLast?, List.getLast?_eq_getElem?, List.getD_eq_getElem?_getD]
theorem drop_mem {l : List (Fin 4)} {i : Nat} {x : Fin 4} : x ∈ l.drop i ↔ ∃ t, i + t < l.length ∧ x = l.getD (i + t) 0 := by
  rw [List.mem_iff_getElem?]
  constructor
  · rintro ⟨t, e⟩
    rw [List.getElem?_drop] at e
    obtain ⟨h, e'⟩ := List.getElem?_eq_some_iff.mp e
    exact ⟨t, h, by simp [List.getD_eq_getElem?_getD, e]⟩
  · rintro ⟨t, h, rfl⟩
    exact ⟨t, by rw [List.getElem?_drop]; simp [List.getD_eq_getElem?_getD, h]⟩
theorem mod_step (n j : Nat) (hn : 0 < n) : (j % n + 1 < n ∧ (j + 1) % n = j % n + 1) ∨ (j % n + 1 = n ∧ (j + 1) % n = 0) := by
  rw [← Nat.mod_add_mod j n 1]
  rcases Nat.lt_or_ge (j % n + 1) n with h | h
  · exact .inl ⟨h, Nat.mod_eq_of_lt h⟩
  · have e : j % n + 1 = n := Nat.le_antisymm (Nat.mod_lt j hn) h
    exact .inr ⟨e, by rw [e, Nat.mod_self]⟩
theorem close {P : Set4} {f : Fin 4 → Bool} (S : Sol G (fun _ => true) P f) {p : Bool} {l : List (Fin 4)} (L : Pth G P f p l) {s : Bool} (hs : G.own (l.getLastD 0) = p → s = f (l.getLastD 0)) (hm : G.nx (l.getLastD 0) s ∈ l) :
    par (maxK ((l.drop (l.idxOf (G.nx (l.getLastD 0) s))).map G.key)) = p := by
  have hi := List.idxOf_lt_length_of_mem hm
  have hv : l.getD (l.idxOf (G.nx (l.getLastD 0) s)) 0 = G.nx (l.getLastD 0) s := by
    rw [List.getD_eq_getElem?_getD, List.getElem?_eq_getElem hi, Option.getD_some, List.getElem_idxOf]
  generalize l.idxOf (G.nx (l.getLastD 0) s) = i at hi hv ⊢
  rw [lastD l L.ne] at hv hs
  have hn : 0 < l.length - i := Nat.sub_pos_of_lt hi
  have step := fun j => mod_step (l.length - i) j hn
  have last : ∀ {x : Nat}, x + 1 = l.length - i → i + x = l.length - 1 := fun {x} a => Nat.eq_sub_of_add_eq (show i + x + 1 = l.length by rw [Nat.add_assoc, a, Nat.add_sub_of_le (Nat.le_of_lt hi)])
  obtain ⟨j, h1, h2⟩ := S.c (fun j => l.getD (i + j % (l.length - i)) 0) (l.length - i) ⟨hn, fun j => by simp, fun _ => rfl, fun j ho => by
    have hl : i + j % (l.length - i) < l.length := Nat.add_lt_of_lt_sub' (Nat.mod_lt j hn)
    rw [L.all _ hl] at ho
    show l.getD (i + (j + 1) % (l.length - i)) 0 = _
    rcases step j with ⟨a, b⟩ | ⟨a, b⟩
    · rw [b, ← Nat.add_assoc]
      exact (L.lk _ (show i + (j % (l.length - i) + 1) < l.length from Nat.add_lt_of_lt_sub' a)).1 ho
    · have e := last a
      rw [b, Nat.add_zero, hv, e, hs (by rw [← e]; exact ho)], fun j => by
    show ∃ s, l.getD (i + (j + 1) % (l.length - i)) 0 = _
    rcases step j with ⟨a, b⟩ | ⟨a, b⟩
    · rw [b, ← Nat.add_assoc]
      exact (L.lk _ (show i + (j % (l.length - i) + 1) < l.length from Nat.add_lt_of_lt_sub' a)).2
    · have e := last a
      exact ⟨s, by rw [b, Nat.add_zero, hv, e]⟩⟩
  have e : maxK ((l.drop i).map G.key) = G.key (l.getD (i + j % (l.length - i)) 0) := by
    refine maxK_is (List.mem_map.mpr ⟨_, drop_mem.mpr ⟨j % (l.length - i), Nat.add_lt_of_lt_sub' (Nat.mod_lt j hn), rfl⟩, rfl⟩) fun x m => ?_
    obtain ⟨y, my, rfl⟩ := List.mem_map.mp m
    obtain ⟨t, ht, rfl⟩ := drop_mem.mp my
    have := h2 t
    simp only [Nat.mod_eq_of_lt (Nat.lt_sub_of_add_lt (Nat.add_comm i t ▸ ht))] at this
    exact this
  rw [e, h1]
  exact L.all _ (by rw [Nat.zero_mod]; exact hi)
theorem snoc {P : Set4} {f : Fin 4 → Bool} (S : Sol G (fun _ => true) P f) {p : Bool} {l : List (Fin 4)} (L : Pth G P f p l) {s : Bool} (hs : G.own (l.getLastD 0) = p → s = f (l.getLastD 0)) (hm : G.nx (l.getLastD 0) s ∉ l) : Pth G P f p (l ++ [G.nx (l.getLastD 0) s]) := by
  have hl := L.ne
  have e0 := lastD l hl
  have pl : P (l.getLastD 0) = p := by rw [e0]; exact L.all _ (by omega)
  have g1 : ∀ i, i < l.length → (l ++ [G.nx (l.getLastD 0) s]).getD i 0 = l.getD i 0 := fun i h => by rw [List.getD_eq_getElem?_getD, List.getD_eq_getElem?_getD, List.getElem?_append_left h]
  have g2 : (l ++ [G.nx (l.getLastD 0) s]).getD l.length 0 = G.nx (l.getLastD 0) s := by simp [List.getD_eq_getElem?_getD]
  refine ⟨by simp, ?_, fun i h => ?_, fun i h => ?_⟩
  · rw [List.nodup_append]
    exact ⟨L.nd, by simp, fun x hx y hy => by rw [List.mem_singleton.mp hy]; intro e; exact hm (e ▸ hx)⟩
  · rw [List.length_append, List.length_singleton] at h
    by_cases q : i < l.length
    · rw [g1 i q]; exact L.all i q
    · rw [show i = l.length by omega, g2]
      by_cases ho : G.own (l.getLastD 0) = p
      · rw [hs ho]; exact (S.a _ rfl (ho.trans pl.symm)).2.trans pl
      · exact (S.b _ rfl (by rw [pl]; exact ho) s rfl).trans pl
  · rw [List.length_append, List.length_singleton] at h
    by_cases q : i + 1 < l.length
    · rw [g1 i (by omega), g1 (i + 1) q]; exact L.lk i q
    · rw [show i + 1 = l.length by omega, g2, g1 i (by omega), show i = l.length - 1 by omega, ← e0]
      exact ⟨fun ho => by rw [hs ho], s, rfl⟩
theorem wins_sol {P : Set4} {f : Fin 4 → Bool} (S : Sol G (fun _ => true) P f) {p : Bool} : ∀ (k : Nat) (l : List (Fin 4)), l.length + k = 5 → Pth G P f p l → winsF G k l = p
  | 0, l, hk, L => absurd L.nd (no5 l hk)
  | k + 1, l, hk, L => by
    have key : ∀ s, (G.own (l.getLastD 0) = p → s = f (l.getLastD 0)) → (if l.contains (G.nx (l.getLastD 0) s) then par (maxK ((l.drop (l.idxOf (G.nx (l.getLastD 0) s))).map G.key)) else winsF G k (l ++ [G.nx (l.getLastD 0) s])) = p := fun s hs => by
      by_cases hm : G.nx (l.getLastD 0) s ∈ l
      · rw [if_pos (by simpa using hm)]
        exact close S L hs hm
      · rw [if_neg (by simpa using hm)]
        exact wins_sol S k _ (by rw [List.length_append, List.length_singleton]; (first | lia | omega)) (snoc S L hs hm)
    have fin : ∀ (o : Bool) (e : Bool → Bool) (fz : Bool), (∀ s, (o = p → s = fz) → e s = p) → (if o then e false || e true else e false && e true) = p := fun o e fz h => by
      cases p
      · cases o
        · have := h fz (fun _ => rfl)
          cases fz <;> simp [this]
        · have h1 := h false (fun q => by cases q)
          have h2 := h true (fun q => by cases q)
          simp [h1, h2]
      · cases o
        · have h1 := h false (fun q => by cases q)
          have h2 := h true (fun q => by cases q)
          simp [h1, h2]
        · have := h fz (fun _ => rfl)
          cases fz <;> simp [this]
    exact fin (G.own (l.getLastD 0)) (fun s => if l.contains (G.nx (l.getLastD 0) s) then par (maxK ((l.drop (l.idxOf (G.nx (l.getLastD 0) s))).map G.key)) else winsF G k (l ++ [G.nx (l.getLastD 0) s])) _ key
theorem wins_start {P : Set4} {f : Fin 4 → Bool} (S : Sol G (fun _ => true) P f) (v : Fin 4) : winsF G 4 [v] = P v :=
  wins_sol S 4 [v] rfl ⟨by simp, by simp, fun i h => by
    have : i = 0 := by simp at h; omega
    subst this; rfl, fun i h => by simp at h⟩
noncomputable def bitsN (f : Fin 4 → Bool) : Nat := (f 0).toNat + 2 * (f 1).toNat + 4 * (f 2).toNat + 8 * (f 3).toNat
theorem bits_all : ∀ a b c d : Bool, a.toNat + 2 * b.toNat + 4 * c.toNat + 8 * d.toNat < 16 ∧ ∀ v : Fin 4, bitN (a.toNat + 2 * b.toNat + 4 * c.toNat + 8 * d.toNat) v.1 = [a, b, c, d].getD v.1 false := by decide +kernel
theorem bitsN_lt (f : Fin 4 → Bool) : bitsN f < 16 := (bits_all (f 0) (f 1) (f 2) (f 3)).1
theorem bitsN_at (f : Fin 4 → Bool) (v : Fin 4) : bitN (bitsN f) v.1 = f v := ((bits_all (f 0) (f 1) (f 2) (f 3)).2 v).trans (by
  rcases (by decide : ∀ v : Fin 4, v = 0 ∨ v = 1 ∨ v = 2 ∨ v = 3) v with rfl | rfl | rfl | rfl <;> rfl)
noncomputable def sureL (J : Nat → Fin 4 → Bool) (places : List (Fin 4)) (wished : Bool) : List (List (Fin 4)) :=
  ((List.range 16).filter fun part => fins.all fun v => !(bitN part v.1 && !(places.contains v))).map fun part =>
    fins.filter fun v => ((List.range 16).filter fun c => places.all fun x => bitN c x.1 == bitN part x.1).all fun c => J c v == wished
theorem sure_of {P : Set4} {f : Fin 4 → Bool} (S : Sol G (fun _ => true) P f) (q : Bool) : fins.filter (fun v => P v == q) ∈ sureL (jd G) (fins.filter fun v => G.own v == q) q := by
  refine List.mem_map.mpr ⟨bitsN fun v => G.own v == q && f v, List.mem_filter.mpr ⟨List.mem_range.mpr (bitsN_lt _), ?_⟩, ?_⟩
  · rw [List.all_eq_true]
    intro v _
    rw [bitsN_at]
    cases h : G.own v == q
    · rfl
    · have : (fins.filter fun v => G.own v == q).contains v = true := by rw [List.contains_iff_mem]; exact List.mem_filter.mpr ⟨mem_fins v, h⟩
      rw [this]; cases f v <;> rfl
  · apply List.filter_congr
    intro v _
    rw [Bool.eq_iff_iff, List.all_eq_true, beq_iff_eq]
    constructor
    · intro h
      -- all moves as f says
      have := h (bitsN f) (List.mem_filter.mpr ⟨List.mem_range.mpr (bitsN_lt _), by
        rw [List.all_eq_true]
        intro x hx
        rw [bitsN_at, bitsN_at, (List.mem_filter.mp hx).2]
        simp⟩)
      rw [beq_iff_eq] at this
      rw [← this]
      exact (jd_sol S fun x _ => bitsN_at f x).symm
    · intro h c hc
      rw [beq_iff_eq, ← h]
      have hc := (List.mem_filter.mp hc).2
      rw [List.all_eq_true] at hc
      refine jd_sol S fun x hx => ?_
      have hq : (G.own x == q) = true := by rw [hx, h]; simp
      have := hc x (List.mem_filter.mpr ⟨mem_fins x, hq⟩)
      rw [bitsN_at, hq] at this
      simpa using this
theorem plain (G : Gm) : fins.filter (fun v => winsF G 4 [v]) ∈ sureL (jd G) (fins.filter fun v => G.own v) true ∧
    fins.filter (fun v => !((fins.filter fun v => winsF G 4 [v]).contains v)) ∈ sureL (jd G) (fins.filter fun v => !(G.own v)) false := by
  obtain ⟨P, f, S⟩ := settled G
  have e1 : (fun v => winsF G 4 [v]) = fun v => P v == true := funext fun v => by rw [wins_start S]; simp
  have e2 : ∀ v, (fins.filter fun v => P v == true).contains v = P v := fun v => by
    rw [Bool.eq_iff_iff, List.contains_iff_mem, List.mem_filter]
    simp [mem_fins]
  have a := sure_of S true
  have b := sure_of S false
  rw [e1]
  refine ⟨by simpa using a, ?_⟩
  have e3 : (fun v => !((fins.filter fun v => P v == true).contains v)) = fun v => P v == false := funext fun v => by rw [e2]; cases P v <;> rfl
  have e4 : (fun v => !(G.own v)) = fun v => G.own v == false := funext fun v => by cases G.own v <;> rfl
  rw [e3, e4]
  exact b
end
end
section
theorem split0 (nm : List Nat) (hz : nm.length ≤ 1000) : itemD (.list ((splitC 47 nm).map D.str)) (.int 0) = some (.str ((splitC 47 nm).headD [])) := by
  have hne := splitC_ne 47 nm
  have hl : ∀ x : List Nat, (splitC 47 x).length ≤ x.length + 1 := fun x => by
    induction x with
    | nil => exact Nat.le_refl _
    | cons k x ih =>
      show (if k = 47 then [] :: splitC 47 x else putC k (splitC 47 x)).length ≤ _
      by_cases q : k = 47
      · rw [if_pos q]; exact Nat.succ_le_succ ih
      · rw [if_neg q]
        cases h : splitC 47 x with
        | nil => exact Nat.succ_le_succ (Nat.zero_le _)
        | cons p r => rw [h] at ih; exact Nat.le_trans ih (Nat.le_succ _)
  have := hl nm
  refine item_map (q := D.str) (i := 0) (by (first | lia | omega)) ?_
  cases h : splitC 47 nm with
  | nil => exact absurd h hne
  | cons p r => rfl
theorem call_split {nm : List Nat} (hz : nm.length ≤ 1000) : callM (Str.ofString "split") (.str nm) [.str [47]] = some (.list ((splitC 47 nm).map D.str)) := by
  show (if nm.length ≤ 1048576 then some (D.list ((splitC 47 nm).map D.str)) else none) = _
  rw [if_pos (by (first | lia | omega))]
theorem call_lower {x : List Nat} (hz : x.length ≤ 1000) (ha : x.all (fun c => decide (c < 128)) = true) : callM (Str.ofString "lower") (.str x) [] = some (.str (x.map lowC)) := by
  show (if x.length ≤ 1048576 ∧ x.all (fun c => decide (c < 128)) = true then some (D.str (x.map lowC)) else none) = _
  rw [if_pos ⟨by (first | lia | omega), ha⟩]
set_option maxRecDepth 100000 in
theorem e_applies (P : Params) {O : Orc} (x : Addr) (ag nm : List Nat) (HA : O.attr (.ref x) (S' "useragents") = some (.list [.str ag])) (h1 : (ag != [42]) = true) (h2 : ag.length ≤ 1000) (h3 : ag.all (fun c => decide (c < 128)) = true) (h4 : nm.length ≤ 1000) (h5 : ((splitC 47 nm).headD []).length ≤ 1000) (h6 : ((splitC 47 nm).headD []).all (fun c => decide (c < 128)) = true) :
    Rets O [] 20 (hd.heap_39 P) 49 [(S' "self", .val (.cst (.ref x))), (S' "useragent", .val (.str nm))] (.bool (inL (ag.map lowC) (((splitC 47 nm).headD []).map lowC))) := by
  apply Exists.intro
  conv => lhs; arg 2; whnf
  refine b_next (s_ifF (t_cmp rfl (r_var rfl rfl) r_none rfl) b_nil) ?_
  refine b_next (s_asg rfl rfl (d := .str (((splitC 47 nm).headD []).map lowC)) ?_) ?_
  · refine r_meth (d := .str ((splitC 47 nm).headD [])) (ds := []) rfl (r_sub rfl (r_meth (d := .str nm) (ds := [.str [47]]) rfl (r_var rfl rfl) (r_cons (r_str rfl) r_nil) (call_split h4)) r_int (split0 nm h4)) r_nil (call_lower h5 h6)
  · cases hb : inL (ag.map lowC) (((splitC 47 nm).headD []).map lowC)
    · refine b_next (s_for rfl (d := .list [.str ag]) (r_attr rfl (r_var rfl rfl) HA) rfl (f_next (σ2 := _) rfl (b_next (s_ifT (t_cmp rfl (r_var rfl rfl) (r_str rfl) (congrArg some h1)) (b_next (s_asg rfl rfl (r_meth (d := .str ag) (ds := []) rfl (r_var rfl rfl) r_nil (call_lower h2 h3))) (b_next (s_ifF (t_cmp rfl (r_var rfl rfl) (r_var rfl rfl) (congrArg some hb)) b_nil) b_nil))) b_nil) (f_nil rfl))) ?_
      exact b_ret (s_ret r_bool)
    · refine b_ret (s_for rfl (d := .list [.str ag]) (r_attr rfl (r_var rfl rfl) HA) rfl (f_ret rfl (b_ret (s_ifT (t_cmp rfl (r_var rfl rfl) (r_str rfl) (congrArg some h1)) (b_next (s_asg rfl rfl (r_meth (d := .str ag) (ds := []) rfl (r_var rfl rfl) r_nil (call_lower h2 h3))) (b_ret (s_ifT (t_cmp rfl (r_var rfl rfl) (r_var rfl rfl) (congrArg some hb)) (b_ret (s_ret r_bool)))))))))
end
section
noncomputable def trD (d : D) : Bool := (truD d).getD false
noncomputable def alStep (y : Int × D) (r : Int × D) : Int × D := if r.1 = 0 then y else if r.1 > y.1 then r else if r.1 = y.1 ∧ trD y.2 = false then (y.1, r.2) else y
noncomputable def stA (x : Addr) (nm : List Nat) (y : Option (Addr × Int) × Int × D) : Vars :=
  (S' "self", .val (.cst (.ref x))) :: (S' "filename", .val (.str nm)) :: (S' "best_match", .val (.int y.2.1)) :: (S' "allowance", .val y.2.2) ::
    (match y.1 with | some q => [(S' "line", .val (.cst (.ref q.1))), (S' "m", .val (.int q.2))] | none => [])
theorem fold_al : ∀ (l : List (Addr × Int × D)) (y : Option (Addr × Int) × Int × D), (l.foldl (fun y r => (some (r.1, r.2.1), alStep y.2 r.2)) y).2 = (l.map (·.2)).foldl alStep y.2
  | [], y => rfl
  | a :: l, y => by rw [List.foldl_cons, fold_al l, List.map_cons, List.foldl_cons]
set_option maxRecDepth 100000 in
theorem e_allow (P : Params) {O : Orc} (x : Addr) (nm : List Nat) (rules : List (Addr × Int × D)) (hz : rules.length ≤ 1000) (HR : O.attr (.ref x) (S' "rulelines") = some (.list (rules.map fun r => .cst (.ref r.1))))
    (HM : ∀ r ∈ rules, O.meth (.ref r.1) (S' "applies_to") [.str nm] = some (.int r.2.1)) (HA : ∀ r ∈ rules, O.attr (.ref r.1) (S' "allowance") = some r.2.2) (HT : ∀ r ∈ rules, truD r.2.2 = some (trD r.2.2)) :
    Rets O [] 20 (hd.heap_39 P) 56 [(S' "self", .val (.cst (.ref x))), (S' "filename", .val (.str nm))] ((rules.map (·.2)).foldl alStep (-1, .bool true)).2 := by
  apply Exists.intro
  conv => lhs; arg 2; whnf
  refine b_next (s_asg rfl rfl (d := .int (-1)) (r_neg r_int)) ?_
  refine b_next (s_asg rfl rfl (d := .bool true) r_bool) ?_
  refine b_next (σ1 := stA x nm (rules.foldl (fun y r => (some (r.1, r.2.1), alStep y.2 r.2)) (none, -1, .bool true))) (s_for rfl (d := .list (rules.map fun r => .cst (.ref r.1))) (r_attr rfl (r_var rfl rfl) HR) rfl ?_) ?_
  · refine f_foldI (S := stA x nm) (y := (none, -1, .bool true)) (emb := fun (r : Addr × Int × D) => D.cst (.ref r.1)) (fun y _ => truD y.2.2 = some (trD y.2.2)) rfl (fun y r hr n hy => ⟨?_, ?_⟩) rfl
    · unfold alStep
      first | dsimp only | simp only
      split
      · exact hy
      · split
        · exact HT r hr
        · split
          · exact HT r hr
          · exact hy
    · obtain ⟨q, bm, al⟩ := y
      obtain ⟨a, m, dv⟩ := r
      have hm := HM _ hr
      have ha := HA _ hr
      first | dsimp only at hm ha hy | simp only at hm ha hy
      have tn : truD al = some (trD al) := hy
      have hst : setV (setV (stA x nm (q, bm, al)) (S' "line") (.val (.cst (.ref a)))) (S' "m") (.val (.int m)) = stA x nm (some (a, m), bm, al) := by
        rcases q with _ | ⟨a0, m0⟩ <;> rfl
      refine ⟨setV (stA x nm (q, bm, al)) (S' "line") (.val (.cst (.ref a))), rfl, b_next (s_asg rfl rfl (d := .int m) (r_methO rfl (r_var rfl (by rw [lookup_setV]; rfl)) (r_cons (r_var rfl (by rw [lookup_setV]; rfl)) r_nil) hm)) ?_⟩
      refine (congrArg (blkD _ _) hst).trans ?_
      by_cases h0 : m = 0
      · refine b_next (s_ifF (t_val rfl (r_var rfl rfl) (by show some (m != 0) = _; rw [h0]; rfl)) b_nil) (b_end ?_)
        unfold stA alStep
        simp only [if_pos h0]
      · have t0 : truD (.int m) = some true := by show some (m != 0) = _; simp [h0]
        by_cases h1 : m > bm
        · refine b_next (s_ifT (t_val rfl (r_var rfl rfl) t0) (b_next (s_ifT (t_cmp rfl (r_var rfl rfl) (r_var rfl rfl) (by show some (decide (m > bm)) = _; rw [decide_eq_true h1])) (b_next (s_asg rfl rfl (r_var rfl rfl)) (b_next (s_asg rfl rfl (r_attr rfl (r_var rfl rfl) ha)) b_nil))) b_nil)) (b_end ?_)
          unfold stA alStep
          simp only [if_neg h0, if_pos h1]
          rfl
        · have c1 : cmpD .Gt (.int m) (.int bm) = some false := by show some (decide (m > bm)) = _; rw [decide_eq_false h1]
          have c2 : cmpD .Eq (.int m) (.int bm) = some (m == bm) := rfl
          by_cases h2 : m = bm ∧ trD al = false
          · have e2 : (m == bm && (!(trD al) && true)) = true := by rw [h2.2, h2.1]; simp
            refine b_next (s_ifT (t_val rfl (r_var rfl rfl) t0) (b_next (s_ifF (t_cmp rfl (r_var rfl rfl) (r_var rfl rfl) c1) (b_next (s_ifT ((t_bool (t_and (t_cmp rfl (r_var rfl rfl) (r_var rfl rfl) c2) (t_and (t_not (t_val rfl (r_var rfl rfl) tn)) t_and0))).trans (congrArg some e2)) (b_next (s_asg rfl rfl (r_attr rfl (r_var rfl rfl) ha)) b_nil)) b_nil)) b_nil)) (b_end ?_)
            unfold stA alStep
            simp only [if_neg h0, if_neg h1, if_pos h2]
            rfl
          · have e2 : (m == bm && (!(trD al) && true)) = false := by
              cases q1 : (m == bm)
              · rfl
              · cases q2 : trD al
                · exact absurd ⟨by simpa using q1, q2⟩ h2
                · rfl
            refine b_next (s_ifT (t_val rfl (r_var rfl rfl) t0) (b_next (s_ifF (t_cmp rfl (r_var rfl rfl) (r_var rfl rfl) c1) (b_next (s_ifF ((t_bool (t_and (t_cmp rfl (r_var rfl rfl) (r_var rfl rfl) c2) (t_and (t_not (t_val rfl (r_var rfl rfl) tn)) t_and0))).trans (congrArg some e2)) b_nil) b_nil)) b_nil)) (b_end ?_)
            unfold stA alStep
            simp only [if_neg h0, if_neg h1, if_neg h2]
  · have e := fold_al rules (none, -1, .bool true)
    first | dsimp only at e | simp only at e
    rw [← e]
    exact b_ret (s_ret (r_var rfl rfl))
end
section
section
variable {prog : Program} {w : World} {P : Params} {p : Program} {loose : List Str} {mg mb : Str → Option Value} {h₀ : Heap}
set_option maxRecDepth 100000 in
theorem fd35 (P : Params) : FdOK (fdIn (hd.heap_39 P) 35) (bodyIn (hd.heap_39 P) 35) := ⟨rfl, rfl, rfl, rfl, rfl, rfl, rfl, rfl, rfl⟩
set_option maxRecDepth 100000 in
theorem fn35 (Z : Wd P p loose mg mb h₀) : FnAt h₀ 35 (fdIn (hd.heap_39 P) 35) := fn_at Z.X Z.T.nolimit rfl rfl rfl rfl rfl
set_option maxRecDepth 100000 in
theorem bi35 (P : Params) : ∀ us : List Value, us.length = 1 → bindArgs (fdIn (hd.heap_39 P) 35) ⟨us, []⟩ = pure ([Str.ofString "self"].zip us) := us1 fun v => by
  show bindArgs (fdIn (hd.heap_39 P) 35) ⟨[v], []⟩ = pure [(Str.ofString "self", v)]
  have e1 : (fdIn (hd.heap_39 P) 35).params = ⟨[], [⟨_, _, _⟩], none, [], [], none, []⟩ := rfl
  have e2 : (fdIn (hd.heap_39 P) 35).defaults = .none := rfl
  generalize fdIn (hd.heap_39 P) 35 = fd at e1 e2
  unfold bindArgs
  rw [e1, e2]
  rfl
set_option maxRecDepth 100000 in
theorem fd49 (P : Params) : FdOK (fdIn (hd.heap_39 P) 49) (bodyIn (hd.heap_39 P) 49) := ⟨rfl, rfl, rfl, rfl, rfl, rfl, rfl, rfl, rfl⟩
set_option maxRecDepth 100000 in
theorem fn49 (Z : Wd P p loose mg mb h₀) : FnAt h₀ 49 (fdIn (hd.heap_39 P) 49) := fn_at Z.X Z.T.nolimit rfl rfl rfl rfl rfl
set_option maxRecDepth 100000 in
theorem bi49 (P : Params) : ∀ us : List Value, us.length = 2 → bindArgs (fdIn (hd.heap_39 P) 49) ⟨us, []⟩ = pure ([Str.ofString "self", Str.ofString "useragent"].zip us) := us2 fun v u => by
  show bindArgs (fdIn (hd.heap_39 P) 49) ⟨[v, u], []⟩ = pure [(Str.ofString "self", v), (Str.ofString "useragent", u)]
  have e1 : (fdIn (hd.heap_39 P) 49).params = ⟨[], [⟨_, _, _⟩, ⟨_, _, _⟩], none, [], [], none, []⟩ := rfl
  have e2 : (fdIn (hd.heap_39 P) 49).defaults = .none := rfl
  generalize fdIn (hd.heap_39 P) 49 = fd at e1 e2
  unfold bindArgs
  rw [e1, e2]
  rfl
set_option maxRecDepth 100000 in
theorem cc49 {O : Orc} {n : Nat} (hn : 1 ≤ n) (Z : Wd P p loose mg mb h₀) (o : OrcOK prog w n (BaseAt h₀) O) {ds : List D} {d : D} {ap : List Str} {k : Nat} (hl : ds.length = 2) (r : Rets O ap k (hd.heap_39 P) 49 ([Str.ofString "self", Str.ofString "useragent"].zip (ds.map .val)) d) : Ct prog w (n + 1) h₀ (.ref 49) ds d :=
  ct_of hn o (fd49 P) (fn49 Z) (fun us e => bi49 P us (by (first | lia | omega))) (by rw [hl]; rfl) rfl rfl r

set_option maxRecDepth 100000 in
theorem fd56 (P : Params) : FdOK (fdIn (hd.heap_39 P) 56) (bodyIn (hd.heap_39 P) 56) := ⟨rfl, rfl, rfl, rfl, rfl, rfl, rfl, rfl, rfl⟩
set_option maxRecDepth 100000 in
theorem fn56 (Z : Wd P p loose mg mb h₀) : FnAt h₀ 56 (fdIn (hd.heap_39 P) 56) := fn_at Z.X Z.T.nolimit rfl rfl rfl rfl rfl
set_option maxRecDepth 100000 in
theorem bi56 (P : Params) : ∀ us : List Value, us.length = 2 → bindArgs (fdIn (hd.heap_39 P) 56) ⟨us, []⟩ = pure ([Str.ofString "self", Str.ofString "filename"].zip us) := us2 fun v u => by
  show bindArgs (fdIn (hd.heap_39 P) 56) ⟨[v, u], []⟩ = pure [(Str.ofString "self", v), (Str.ofString "filename", u)]
  have e1 : (fdIn (hd.heap_39 P) 56).params = ⟨[], [⟨_, _, _⟩, ⟨_, _, _⟩], none, [], [], none, []⟩ := rfl
  have e2 : (fdIn (hd.heap_39 P) 56).defaults = .none := rfl
  generalize fdIn (hd.heap_39 P) 56 = fd at e1 e2
  unfold bindArgs
  rw [e1, e2]
  rfl
set_option maxRecDepth 100000 in
theorem cc56 {O : Orc} {n : Nat} (hn : 1 ≤ n) (Z : Wd P p loose mg mb h₀) (o : OrcOK prog w n (BaseAt h₀) O) {ds : List D} {d : D} {ap : List Str} {k : Nat} (hl : ds.length = 2) (r : Rets O ap k (hd.heap_39 P) 56 ([Str.ofString "self", Str.ofString "filename"].zip (ds.map .val)) d) : Ct prog w (n + 1) h₀ (.ref 56) ds d :=
  ct_of hn o (fd56 P) (fn56 Z) (fun us e => bi56 P us (by (first | lia | omega))) (by rw [hl]; rfl) rfl rfl r

end
set_option maxRecDepth 100000 in
theorem entK (P : Params) : EntK (hd.heap_39 P) 59 35 where
  makes := rfl
  init := rfl
  initT := rfl
  pg := fun _ => rfl
  hd := rfl
  po := rfl
  sa := rfl
  a1 := rfl
  a2 := rfl
  a3 := rfl
  a4 := rfl
  body := .mk _ _ _ _ _ _ _ _ _ _ _ _ _ _ _ _ _ _
noncomputable def laP : Pos := { line := 163, col := 11, endLine := 163, endCol := 59 }
noncomputable def laE (b : List Stmt) : Arguments × Expr × Scope := match b with
  | [.Return (some (.Lambda pr bd sc _)) _] => (pr, bd, sc)
  | _ => default
noncomputable def laPr (P : Params) : Arguments := (laE (bodyIn (hd.heap_39 P) 178)).1
noncomputable def laBd (P : Params) : Expr := (laE (bodyIn (hd.heap_39 P) 178)).2.1
noncomputable def laSc (P : Params) : Scope := (laE (bodyIn (hd.heap_39 P) 178)).2.2
set_option maxRecDepth 100000 in
theorem lacksK (P : Params) : LacksK (hd.heap_39 P) 178 177 laP (laPr P) (laBd P) (laSc P) where
  body := ⟨_, rfl⟩
  names := rfl
  dft := fun _ => rfl
  code := rfl
  k1 := rfl
  k2 := rfl
  hk := rfl
noncomputable def rvK (b : Bool) (j : Int) : Int := if b then j else 0
set_option maxRecDepth 100000 in
theorem e_lack (P : Params) {O : Orc} (x : Addr) (nm : List Nat) (j : Int) (b : Bool) (HM : O.meth (.ref x) (S' "applies_to") [.str nm] = some (.bool b)) :
    evE O 20 (laSc P).names ((S' "name", .val (.str nm)) :: [(S' "kept", .val (.cst (.ref x))), (S' "far", .val (.int j))]) (laBd P) = some (.int (rvK b j)) := by
  conv => lhs; arg 5; whnf
  rw [(lacksK P).names]
  first | with_reducible exact ns b | cases b
  · exact r_ifeF (t_val rfl (r_methO rfl (r_var rfl rfl) (r_cons (r_var rfl rfl) r_nil) HM) rfl) r_int
  · exact r_ifeT (t_val rfl (r_methO rfl (r_var rfl rfl) (r_cons (r_var rfl rfl) r_nil) HM) rfl) (r_var rfl rfl)
end
section
noncomputable def app (ag nm : List Nat) : Bool := inL (ag.map lowC) (((splitC 47 nm).headD []).map lowC)
noncomputable def okT (nm : List Nat) : Bool := decide (nm.length ≤ 1000) && (decide (((splitC 47 nm).headD []).length ≤ 1000) && ((splitC 47 nm).headD []).all (fun c => decide (c < 128)))
theorem okT_is {nm : List Nat} (h : okT nm = true) : nm.length ≤ 1000 ∧ ((splitC 47 nm).headD []).length ≤ 1000 ∧ ((splitC 47 nm).headD []).all (fun c => decide (c < 128)) = true := by
  unfold okT at h
  simp only [Bool.and_eq_true, decide_eq_true_eq] at h
  exact h
inductive DG (g : Gh) (d : Addr) (m : List (Str × Value)) : Prop
  | mk (es n) (get : g d = some (dictOf es n)) (ents : Ents es m)
theorem DG.up {g g' : Gh} {d : Addr} {m : List (Str × Value)} (s : Sub g g') (x : DG g d m) : DG g' d m := let ⟨es, n, e, r⟩ := x; ⟨es, n, s _ _ e, r⟩
theorem DG.of {h : Heap} {W : List Addr} {d : Addr} {m : List (Str × Value)} (n : d ∉ W) (x : DObj h d m) : DG (fz h W) d m := let ⟨es, k, e, r⟩ := x; ⟨es, k, fz_some.mpr ⟨n, e⟩, r⟩
theorem DG.obj {h : Heap} {W : List Addr} {d : Addr} {m : List (Str × Value)} (x : DG (fz h W) d m) : DObj h d m ∧ d ∉ W := let ⟨es, k, e, r⟩ := x; ⟨⟨es, k, (fz_some.mp e).2, r⟩, (fz_some.mp e).1⟩
theorem DG.here {h : Heap} {d : Addr} {m : List (Str × Value)} (x : DG (h.get? ·) d m) : DObj h d m := let ⟨es, k, e, r⟩ := x; ⟨es, k, e, r⟩
inductive KeptX (g : Gh) (x : Addr) (ag : List Nat) : Prop
  | mk (dx m va) (a : g x = some (instObj 59 dx)) (b : DG g dx m) (c : m.lookup (S' "useragents") = some va) (d : m.lookup (S' "applies_to") = none) (e : Rep g (.list [.str ag]) va)
structure KeptAt (g : Gh) (x : Addr) (ag : List Nat) : Prop where
  ex : KeptX g x ag
  ok : (ag != [42]) = true ∧ ag.length ≤ 1000 ∧ ag.all (fun c => decide (c < 128)) = true
theorem KeptAt.up {g g' : Gh} {x : Addr} {ag : List Nat} (s : Sub g g') (k : KeptAt g x ag) : KeptAt g' x ag :=
  let ⟨dx, m, va, a, b, c, d, e⟩ := k.ex; ⟨⟨dx, m, va, s _ _ a, b.up s, c, d, Rep.mono s e⟩, k.ok⟩
noncomputable def asRef : Value → Option Addr
  | .ref a => some a
  | _ => none
theorem asRef_inv {v : Value} {a : Addr} (h : asRef v = some a) : v = .ref a := by cases v <;> first | exact ns h | (cases h; rfl)
noncomputable def OA (x : Addr) (ag : List Nat) : Orc := { glob := fun x => globs.lookup x, call := fun _ _ => none, attr := fun v nm => (asRef v).bind fun a => if a = x ∧ nm = S' "useragents" then some (.list [.str ag]) else none }
noncomputable def meS (g : Addr → List Nat → Option D) (v : Value) (ds : List D) : Option D := (asRef v).bind fun a => one (fun d => (asStr d).bind (g a)) ds
theorem meS_inv {g : Addr → List Nat → Option D} {v : Value} {ds : List D} {d : D} (h : meS g v ds = some d) : ∃ a t, v = .ref a ∧ ds = [.str t] ∧ g a t = some d := by
  obtain ⟨a, ha, h⟩ := bind_inv h
  obtain ⟨e, rfl, h⟩ := one_inv h
  obtain ⟨t, ht, h⟩ := bind_inv h
  cases asRef_inv ha
  cases asStr_inv ht
  exact ⟨a, t, rfl, rfl, h⟩
noncomputable def OB (x : Addr) (ag : List Nat) : Orc := { glob := fun x => globs.lookup x, call := fun _ _ => none, meth := fun v nm ds => meS (fun a t => if a = x ∧ nm = S' "applies_to" ∧ okT t = true then some (.bool (app ag t)) else none) v ds }
theorem handed_list {g : Gh} {ds : List D} {v : Value} (r : Rep g (.list ds) v) : handedIn v = true := by
  obtain ⟨a, vs, rfl, _⟩ := r; rfl
section
variable {prog : Program} {w : World} {P : Params} {p : Program} {loose : List Str} {mg mb : Str → Option Value} {h₁ : Heap}
theorem oa_ok (Z : Wd P p loose mg mb h₁) (n : Nat) {x : Addr} {ag : List Nat} (kx : KeptAt (h₁.get? ·) x ag) : OrcOK prog w n (BaseAt h₁) (OA x ag) := by
  refine orc_gen Z.X Z.T (fun x d e => globs_all P (x, d) (mem_look e)) (fun f ds d e => by cases e) (fun b al e r => by cases e) (fun {h W v nm d} b e => ?_) (fun _ _ e => by cases e) (fun _ e => by cases e) (fun _ e => by cases e)
  obtain ⟨a, ha, e⟩ := bind_inv e
  obtain ⟨⟨rfl, rfl⟩, rfl⟩ := ite_inv e
  cases asRef_inv ha
  obtain ⟨dx, m, va, e1, e2, e3, e4, e5⟩ := kx.ex
  intro A s Q E hk am hq
  have kS : Kp h₁ s.heap := b.1.trans hk
  refine get_inst (Z.X.keeps kS) (kS _ _ e1) (e2.here.at' fun o e => kS _ _ e) ((entK P).pg _) (entK P).hd (entK P).a1 e3 (handed_list e5) (hq va s.heap _ (Kp.refl _) (Rep.mono ?_ e5))
  exact fun a o e => fz_mono hk _ _ (b.sub a o e)
set_option maxRecDepth 100000 in
theorem f49 (P : Params) : findIn (hd.heap_39 P) (.ref 59) (S' "applies_to") = some (some (.ref 49)) ∧ isFn (hd.heap_39 P) (.ref 49) = true ∧ isFd (hd.heap_39 P) 49 = true := ⟨rfl, rfl, rfl⟩
set_option maxRecDepth 100000 in
theorem f56 (P : Params) : findIn (hd.heap_39 P) (.ref 59) (S' "allowance") = some (some (.ref 56)) ∧ isFn (hd.heap_39 P) (.ref 56) = true ∧ isFd (hd.heap_39 P) 56 = true := ⟨rfl, rfl, rfl⟩
theorem fd_at {K : Frag} {h : Heap} (X : K.In h) {a : Addr} (e : isFd K a = true) : ∃ o fd, h.get? a = some o ∧ o.data = .func fd := by
  obtain ⟨o, hl, hd⟩ := isFd_inv e
  exact ⟨o, _, X a _ hl, hd⟩
theorem c_applies (Z : Wd P p loose mg mb h₁) {n : Nat} (hn : 1 ≤ n) {x : Addr} {ag nm : List Nat} (kx : KeptAt (h₁.get? ·) x ag) (hnm : okT nm = true) : Ct prog w (n + 1) h₁ (.ref 49) [.cst (.ref x), .str nm] (.bool (app ag nm)) :=
  cc49 (ap := []) (k := 20) hn Z (oa_ok Z n kx) rfl (e_applies P x ag nm (if_pos ⟨rfl, rfl⟩) kx.ok.1 kx.ok.2.1 kx.ok.2.2 (okT_is hnm).1 (okT_is hnm).2.1 (okT_is hnm).2.2)
theorem ob_ok (Z : Wd P p loose mg mb h₁) {n : Nat} (hn : 1 ≤ n) {x : Addr} {ag : List Nat} (kx : KeptAt (h₁.get? ·) x ag) : OrcOK prog w (n + 1) (BaseAt h₁) (OB x ag) := by
  refine orc_gen Z.X Z.T (fun x d e => globs_all P (x, d) (mem_look e)) (fun f ds d e => by cases e) (fun b al e r => by cases e) (fun _ e => by cases e) (fun {h W v nm ds d} b al e => ?_) (fun _ e => by cases e) (fun _ e => by cases e)
  obtain ⟨a, t, rfl, rfl, e⟩ := meS_inv e
  obtain ⟨⟨rfl, rfl, ht⟩, rfl⟩ := ite_inv e
  obtain ⟨dx, m, va, e1, e2, e3, e4, e5⟩ := kx.ex
  have X1 := Z.X.keeps b.1
  obtain ⟨o, fd, ho, hfd⟩ := fd_at X1 (f49 P).2.2
  refine ⟨49, [.ref a], o, fd, ho, hfd, fun pl A s Q E hk am hq => ?_, fun vs h' k rl => ?_⟩
  · have kS : Kp h₁ s.heap := b.1.trans hk
    exact meth_inst (Z.X.keeps kS) (kS _ _ e1) (e2.here.at' fun o e => kS _ _ e) ((entK P).pg _) (f49 P).1 (f49 P).2.1 e4 (hq _ s.heap s.toks (Kp.refl _) rfl)
  · obtain ⟨u, _, rfl, r, rfl⟩ := rl
    exact c_applies Z hn kx ht (vs := [.ref a, u]) (b.up (Kw.of k).keep fun _ m => .inl m) (al.mono k) ⟨_, _, rfl, rfl, _, _, rfl, r, rfl⟩
end
end
section
structure Rk where
  x : Addr
  ag : List Nat
  j : Int
noncomputable def rvOf (k : Rk) (nm : List Nat) : Int := rvK (app k.ag nm) k.j
structure LamP (pr : Arguments) (bd : Expr) (sc : Scope) : Prop where
  par : ∃ a p, pr = ⟨[], [⟨S' "name", a, p⟩], none, [], [], none, []⟩
  kind : sc.kind = .function
  co : sc.isCoroutine = false
  gen : sc.isGenerator = false
  noCell : sc.names.all (fun p => p.2 != .cell) = true
  loc : sc.names.lookup (S' "name") = some .local
theorem lam_bind {name qual : Str} {pr : Arguments} {bd : Expr} {sc : Scope} {cl : List (Str × Addr)} {pm cv ct : Value} (L : LamP pr bd sc) (u : Value) : bindArgs (kla_fn name qual pr bd sc cl pm cv ct) ⟨[u], []⟩ = pure [(S' "name", u)] := by
  obtain ⟨a, p, rfl⟩ := L.par
  unfold bindArgs
  rfl
theorem lam_OK {name qual : Str} {pr : Arguments} {bd : Expr} {sc : Scope} {cl : List (Str × Addr)} {pm cv ct : Value} (L : LamP pr bd sc) : LamOK (kla_fn name qual pr bd sc cl pm cv ct) bd := ⟨rfl, rfl, rfl, L.kind, L.co, L.gen, L.noCell⟩
set_option maxRecDepth 100000 in
theorem laP_ok (P : Params) : LamP (laPr P) (laBd P) (laSc P) := ⟨⟨_, _, rfl⟩, rfl, rfl, rfl, rfl, rfl⟩
inductive LackX (P : Params) (g : Gh) (rv : Value) (x : Addr) (ag : List Nat) (j : Int) : Prop
  | mk (fr pm c1 c2) (e : rv = .ref fr) (L : LamG g fr (lamQ (hd.heap_39 P) 178) (laPr P) (laBd P) (laSc P) pm [(S' "kept", c1), (S' "far", c2)]) (a : CellG g c1 (.cst (.ref x))) (b : CellG g c2 (.int j)) (n : c1 ≠ c2) (k : KeptAt g x ag)
noncomputable def ReachAt (P : Params) (g : Gh) (rv : Value) (k : Rk) : Prop := LackX P g rv k.x k.ag k.j
inductive RuleX (P : Params) (g : Gh) (a : Addr) (k : Rk) (dv : D) : Prop
  | mk (fd df rv v) (a1 : g a = some (fnObj fd (some df))) (b : DG g df [(S' "applies_to", rv), (S' "allowance", v)]) (c : Rep g dv v) (d : ReachAt P g rv k) (e : handedIn v = true)
structure RuleAt (P : Params) (g : Gh) (a : Addr) (k : Rk) (dv : D) : Prop where
  ex : RuleX P g a k dv
theorem RuleAt.up {P : Params} {g g' : Gh} {a : Addr} {k : Rk} {dv : D} (s : Sub g g') (x : RuleAt P g a k dv) : RuleAt P g' a k dv := by
  obtain ⟨fd, df, rv, v, a1, a2, a3, ⟨fr, pm, c1, c2, e, L, c, d, n, kx⟩, a5⟩ := x.ex
  exact ⟨⟨fd, df, rv, v, s _ _ a1, a2.up s, Rep.mono s a3, ⟨fr, pm, c1, c2, e, L.up s, c.up s, d.up s, n, kx.up s⟩, a5⟩⟩
theorem look2 {a b : Str} {c1 c2 : Addr} (n : a ≠ b) : ∀ y c, ([(a, c1), (b, c2)] : List (Str × Addr)).lookup y = some c → (y = a ∧ c = c1) ∨ (y = b ∧ c = c2) := fun y c e => by
  rw [List.lookup_cons] at e
  cases q : y == a with
  | true => first | exact dead2 (q) e | exact dead2 e (q) | (rw [q] at e; cases e); exact .inl ⟨by simpa using q, rfl⟩
  | false =>
    rw [q] at e
    first | dsimp only at e | simp only at e
    rw [List.lookup_cons] at e
    cases q2 : y == b with
    | true => first | exact dead2 (q2) e | exact dead2 e (q2) | (rw [q2] at e; cases e); exact .inr ⟨by simpa using q2, rfl⟩
    | false => first | exact dead2 (q2) e | exact dead2 e (q2) | (rw [q2] at e; cases e)
section
variable {prog : Program} {w : World} {P : Params} {p : Program} {loose : List Str} {mg mb : Str → Option Value} {h₁ : Heap}
theorem lamG_fn {g : Heap} {f : Addr} {qual : Str} {pr : Arguments} {bd : Expr} {sc : Scope} {pm : Value} {clos : List (Str × Addr)} (lim : g.NoLimit) (x : LamG (g.get? ·) f qual pr bd sc pm clos) : ∃ cv ct, g.get? f = some (fnObj (kla_fn "<lambda>" qual pr bd sc clos pm cv ct) none) ∧ FnAt g f (kla_fn "<lambda>" qual pr bd sc clos pm cv ct) := by
  obtain ⟨c', ctv, c, o, vs, t, a, rfl, d, e, e2⟩ := x.fn
  exact ⟨.ref c, ctv, a, ⟨⟨_, a, rfl⟩, ⟨c, o, vs, t, rfl, d, e, e2⟩, lim⟩⟩
theorem c_lack (Z : Wd P p loose mg mb h₁) {n : Nat} (hn : 1 ≤ n) {fr x c1 c2 : Addr} {ag nm : List Nat} {j : Int} {qual : Str} {pr : Arguments} {bd : Expr} {sc : Scope} {pm : Value} (LP : LamP pr bd sc) (hnames : sc.names = [(S' "name", .local), (S' "far", .free), (S' "kept", .free)])
    (he : ∀ O : Orc, O.meth (.ref x) (S' "applies_to") [.str nm] = some (.bool (app ag nm)) → evE O 20 sc.names ((S' "name", .val (.str nm)) :: [(S' "kept", .val (.cst (.ref x))), (S' "far", .val (.int j))]) bd = some (.int (rvK (app ag nm) j)))
    (L : LamG (h₁.get? ·) fr qual pr bd sc pm [(S' "kept", c1), (S' "far", c2)]) (C1 : CellG (h₁.get? ·) c1 (.cst (.ref x))) (C2 : CellG (h₁.get? ·) c2 (.int j)) (c12 : c1 ≠ c2) (kx : KeptAt (h₁.get? ·) x ag) (hnm : okT nm = true) : Ct prog w (n + 2) h₁ (.ref fr) [.str nm] (.int (rvK (app ag nm) j)) := fun {h W vs} b al rl => by
  obtain ⟨o1, v1, g1, d1, r1⟩ := C1
  obtain ⟨o2, v2, g2, d2, r2⟩ := C2
  obtain ⟨cv, ct, hf, hF⟩ := lamG_fn Z.T.nolimit L
  obtain ⟨u, _, rfl, r, rfl⟩ := rl
  have hsub : Sub (h₁.get? ·) (fz h W) := b.sub
  refine lam_ok (n := n + 1) (k := 20) (by (first | lia | omega)) (ob_ok Z hn kx) (x := S' "name") (fv := [(S' "kept", .val (.cst (.ref x))), (S' "far", .val (.int j))]) (lam_OK LP) hF (fun s _ => BindsTo.of_eq (lam_bind LP u)) ⟨by decide, LP.loc⟩ (fun y bb e => ?_) (fun y e => ?_) (fun y c e => ?_) (fun y z c e e' => ?_) ?_ b al r
  · rw [List.lookup_cons] at e
    cases q : y == S' "kept" with
    | true =>
      first | exact dead2 (q) e | exact dead2 e (q) | (rw [q] at e; cases e)
      rw [show y = S' "kept" by simpa using q]
      exact ⟨c1, _, v1, rfl, by decide, by show sc.names.lookup _ = _; rw [hnames]; rfl, rfl, ⟨o1, b.1 _ _ g1, d1⟩, Rep.mono hsub r1⟩
    | false =>
      rw [q] at e
      first | dsimp only at e | simp only at e
      rw [List.lookup_cons] at e
      cases q2 : y == S' "far" with
      | true =>
        first | exact dead2 (q2) e | exact dead2 e (q2) | (rw [q2] at e; cases e)
        rw [show y = S' "far" by simpa using q2]
        exact ⟨c2, _, v2, rfl, by decide, by show sc.names.lookup _ = _; rw [hnames]; rfl, rfl, ⟨o2, b.1 _ _ g2, d2⟩, Rep.mono hsub r2⟩
      | false => first | exact dead2 (q2) e | exact dead2 e (q2) | (rw [q2] at e; cases e)
  · have e' : sc.names.lookup y = some .free := e
    rw [hnames] at e'
    rw [List.lookup_cons] at e'
    cases q : y == S' "name" with
    | true => first | exact dead2 (q) e' | exact dead2 e' (q) | (rw [q] at e'; cases e')
    | false =>
      rw [q] at e'
      first | dsimp only at e' | simp only at e'
      rw [List.lookup_cons] at e'
      cases q2 : y == S' "far" with
      | true => rw [show y = S' "far" by simpa using q2]; exact ⟨c2, rfl⟩
      | false =>
        rw [q2] at e'
        first | dsimp only at e' | simp only at e'
        rw [List.lookup_cons] at e'
        cases q3 : y == S' "kept" with
        | true => rw [show y = S' "kept" by simpa using q3]; exact ⟨c1, rfl⟩
        | false => first | exact dead2 (q3) e' | exact dead2 e' (q3) | (rw [q3] at e'; cases e')
  · rcases look2 (by decide) y c e with ⟨rfl, rfl⟩ | ⟨rfl, rfl⟩
    · exact ⟨_, b.1 _ _ g1⟩
    · exact ⟨_, b.1 _ _ g2⟩
  · rcases look2 (by decide) y c e with ⟨rfl, rfl⟩ | ⟨rfl, rfl⟩ <;> rcases look2 (by decide) z _ e' with ⟨rfl, q⟩ | ⟨rfl, q⟩
    · rfl
    · exact absurd q c12
    · exact absurd q.symm c12
    · rfl
  · exact he (OB x ag) (if_pos ⟨rfl, rfl, hnm⟩)
theorem c_reach (Z : Wd P p loose mg mb h₁) {n : Nat} (hn : 1 ≤ n) {rv : Value} {k : Rk} {nm : List Nat} (R : ReachAt P (h₁.get? ·) rv k) (hnm : okT nm = true) : (∃ f o fd, rv = .ref f ∧ h₁.get? f = some o ∧ o.data = .func fd) ∧ Ct prog w (n + 2) h₁ rv [.str nm] (.int (rvOf k nm)) := by
  obtain ⟨fr, pm, c1, c2, rfl, L, C1, C2, c12, kx⟩ := R
  obtain ⟨cv, ct, hf, hF⟩ := lamG_fn Z.T.nolimit L
  exact ⟨⟨fr, _, _, rfl, hf, rfl⟩, c_lack Z hn (laP_ok P) (lacksK P).names (fun O hO => e_lack P k.x nm k.j (app k.ag nm) hO) L C1 C2 c12 kx hnm⟩
end
end
section
noncomputable abbrev RI := Addr × Rk × D
inductive RecX (g : Gh) (rec : Addr) (rl : List RI) : Prop
  | mk (dx m va) (a : g rec = some (instObj 59 dx)) (b : DG g dx m) (c : m.lookup (S' "rulelines") = some va) (d : m.lookup (S' "allowance") = none) (e : Rep g (.list (rl.map fun r => .cst (.ref r.1))) va)
structure RecAt (P : Params) (g : Gh) (rec : Addr) (rl : List RI) : Prop where
  ex : RecX g rec rl
  rules : ∀ r ∈ rl, RuleAt P g r.1 r.2.1 r.2.2
  nd : (rl.map (·.1)).Nodup
  len : rl.length ≤ 1000
  tru : ∀ r ∈ rl, truD r.2.2 = some (trD r.2.2)
theorem RecAt.up {P : Params} {g g' : Gh} {rec : Addr} {rl : List RI} (s : Sub g g') (x : RecAt P g rec rl) : RecAt P g' rec rl :=
  let ⟨dx, m, va, a, b, c, d, e⟩ := x.ex; ⟨⟨dx, m, va, s _ _ a, b.up s, c, d, Rep.mono s e⟩, fun r mr => (x.rules r mr).up s, x.nd, x.len, x.tru⟩
noncomputable def ocAttr (rec : Addr) (rl : List RI) (v : Value) (nm : Str) : Option D := (asRef v).bind fun a => if nm = S' "rulelines" then (if a = rec then some (.list (rl.map fun r => .cst (.ref r.1))) else none) else if nm = S' "allowance" then (rl.find? fun r => r.1 == a).map (·.2.2) else none
noncomputable def ocMeth (rl : List RI) (v : Value) (nm : Str) (ds : List D) : Option D := meS (fun a t => if nm = S' "applies_to" ∧ okT t = true then (rl.find? fun r => r.1 == a).map fun r => .int (rvOf r.2.1 t) else none) v ds
noncomputable def OC (rec : Addr) (rl : List RI) : Orc := { glob := fun x => globs.lookup x, call := fun _ _ => none, attr := ocAttr rec rl, meth := ocMeth rl }
theorem oc_lines (rec : Addr) (rl : List RI) : ocAttr rec rl (.ref rec) (S' "rulelines") = some (.list (rl.map fun r => .cst (.ref r.1))) := if_pos rfl
theorem oc_al (rec : Addr) (rl : List RI) (a : Addr) : ocAttr rec rl (.ref a) (S' "allowance") = (rl.find? fun r => r.1 == a).map (·.2.2) := rfl
theorem find_nd : ∀ {rl : List RI} {r : RI}, (rl.map (·.1)).Nodup → r ∈ rl → (rl.find? fun q => q.1 == r.1) = some r
  | [], _, _, m => by cases m
  | q :: rl, r, nd, m => by
    rw [List.map_cons, List.nodup_cons] at nd
    rw [List.find?_cons]
    rcases List.mem_cons.mp m with rfl | m
    · simp
    · have : (q.1 == r.1) = false := beq_eq_false_iff_ne.mpr fun e => nd.1 (by rw [e]; exact List.mem_map.mpr ⟨r, m, rfl⟩)
      rw [this]
      exact find_nd nd.2 m
theorem find_mem {rl : List RI} {a : Addr} {r : RI} (e : (rl.find? fun q => q.1 == a) = some r) : r ∈ rl ∧ r.1 = a := ⟨List.mem_of_find?_eq_some e, by have := List.find?_some e; simpa using this⟩
noncomputable def allowOf (rl : List (Rk × D)) (nm : List Nat) : D := ((rl.map fun r => (rvOf r.1 nm, r.2)).foldl alStep (-1, .bool true)).2
section
variable {prog : Program} {w : World} {P : Params} {p : Program} {loose : List Str} {mg mb : Str → Option Value} {h₁ : Heap}
theorem oc_ok (Z : Wd P p loose mg mb h₁) {n : Nat} (hn : 1 ≤ n) {rec : Addr} {rl : List RI} (R : RecAt P (h₁.get? ·) rec rl) : OrcOK prog w (n + 2) (BaseAt h₁) (OC rec rl) := by
  refine orc_gen Z.X Z.T (fun x d e => globs_all P (x, d) (mem_look e)) (fun f ds d e => by cases e) (fun b al e r => by cases e) (fun {h W v nm d} b e => ?_) (fun {h W v nm ds d} b al e => ?_) (fun _ e => by cases e) (fun _ e => by cases e)
  · obtain ⟨a, ha, e⟩ := bind_inv e
    cases asRef_inv ha
    by_cases hc : nm = S' "rulelines"
    · obtain ⟨rfl, rfl⟩ := ite_inv ((if_pos hc).symm.trans e)
      subst hc
      obtain ⟨dx, m, va, e1, e2, e3, e4, e5⟩ := R.ex
      intro A s Q E hk am hq
      have kS : Kp h₁ s.heap := b.1.trans hk
      exact get_inst (Z.X.keeps kS) (kS _ _ e1) (e2.here.at' fun o e => kS _ _ e) ((entK P).pg _) (entK P).hd (entK P).a2 e3 (handed_list e5) (hq va s.heap _ (Kp.refl _) (Rep.mono (fun a o e => fz_mono hk _ _ (b.sub a o e)) e5))
    · obtain ⟨rfl, e2⟩ := ift_inv ((if_neg hc).symm.trans e)
      obtain ⟨r, hr, rfl⟩ := Option.map_eq_some_iff.mp e2
      obtain ⟨mr, rfl⟩ := find_mem hr
      obtain ⟨fd, df, rv, v, e1, e2, e3, e4, e5⟩ := (R.rules r mr).ex
      intro A s Q E hk am hq
      have kS : Kp h₁ s.heap := b.1.trans hk
      obtain ⟨hh, g, dr, t, os⟩ := s
      exact get_fn (kS _ _ e1) (e2.here.at' fun o e => kS _ _ e) fl_al rfl e5 (hq v hh _ (Kp.refl _) (Rep.mono (fun a o e => fz_mono hk _ _ (b.sub a o e)) e3))
  · obtain ⟨a, t, rfl, rfl, e1⟩ := meS_inv e
    obtain ⟨⟨rfl, ht⟩, e2⟩ := ift_inv e1
    obtain ⟨r, hr, rfl⟩ := Option.map_eq_some_iff.mp e2
    obtain ⟨mr, rfl⟩ := find_mem hr
    obtain ⟨fd, df, rv, v, e1, e2, e3, e4, e5⟩ := (R.rules r mr).ex
    obtain ⟨⟨f, o, fdr, rfl, hf, hfd⟩, hc⟩ := c_reach (prog := prog) (w := w) Z hn e4 ht
    refine ⟨f, [], o, fdr, b.1 _ _ hf, hfd, fun pl A s Q E hk am hq => ?_, fun vs h' k rl => hc (b.up (Kw.of k).keep fun _ m => .inl m) (al.mono k) rl⟩
    have kS : Kp h₁ s.heap := b.1.trans hk
    obtain ⟨hh, g, dr, t, os⟩ := s
    exact meth_fn (kS _ _ e1) (e2.here.at' fun o e => kS _ _ e) fl_at rfl rfl (hq _ hh _ (Kp.refl _) rfl)
theorem oc_all {rec : Addr} {rl : List RI} (R : RecAt P (h₁.get? ·) rec rl) {nm : List Nat} (ht : okT nm = true) : (∀ r ∈ rl, (OC rec rl).meth (.ref r.1) (S' "applies_to") [.str nm] = some (.int (rvOf r.2.1 nm))) ∧ (∀ r ∈ rl, (OC rec rl).attr (.ref r.1) (S' "allowance") = some r.2.2) := by
  refine ⟨fun r m => ?_, fun r m => ?_⟩
  · refine (if_pos ⟨rfl, ht⟩).trans ?_
    rw [find_nd R.nd m]; rfl
  · refine (oc_al rec rl r.1).trans ?_
    rw [find_nd R.nd m]; rfl
theorem c_allow (Z : Wd P p loose mg mb h₁) {n : Nat} (hn : 1 ≤ n) {rec : Addr} {rl : List RI} (R : RecAt P (h₁.get? ·) rec rl) {nm : List Nat} (ht : okT nm = true) : Ct prog w (n + 3) h₁ (.ref 56) [.cst (.ref rec), .str nm] (allowOf (rl.map (·.2)) nm) := by
  obtain ⟨h1, h2⟩ := oc_all R ht
  have key := e_allow P (O := OC rec rl) rec nm (rl.map fun r => (r.1, rvOf r.2.1 nm, r.2.2)) (by rw [List.length_map]; exact R.len) (by rw [List.map_map]; exact oc_lines rec rl)
    (fun r m => by obtain ⟨q, mq, rfl⟩ := List.mem_map.mp m; exact h1 q mq) (fun r m => by obtain ⟨q, mq, rfl⟩ := List.mem_map.mp m; exact h2 q mq) (fun r m => by obtain ⟨q, mq, rfl⟩ := List.mem_map.mp m; exact R.tru q mq)
  have e : ((rl.map fun r => (r.1, rvOf r.2.1 nm, r.2.2)).map (·.2)).foldl alStep (-1, .bool true) = ((rl.map (·.2)).map fun r => (rvOf r.1 nm, r.2)).foldl alStep (-1, .bool true) := by rw [List.map_map, List.map_map]; rfl
  rw [e] at key
  unfold allowOf
  exact fun {h W vs} b al r => cc56 (ds := [.cst (.ref rec), .str nm]) (ap := []) (k := 20) (by (first | lia | omega)) Z (oc_ok Z hn R) rfl key b al r
theorem rec_meth (Z : Wd P p loose mg mb h₁) {n : Nat} (hn : 1 ≤ n) {rec : Addr} {rl : List RI} (R : RecAt P (h₁.get? ·) rec rl) {nm : List Nat} (ht : okT nm = true) {h : Heap} {W : List Addr} (b : BaseAt h₁ h W) (al : Al W h) : ∃ f first o fd, h.get? f = some o ∧ o.data = .func fd ∧ (∀ pl, Gx prog w (n + 3) W (getMethod (.ref rec) (S' "allowance") pl) (fun _ z => z = (.ref f, first)) h) ∧
    ∀ vs h', Kp h h' → RepL (fz h' W) [.str nm] vs → Gv prog w (n + 3) W (PySem.call (.ref f) (first ++ vs)) (allowOf (rl.map (·.2)) nm) h' := by
  obtain ⟨dx, m, va, e1, e2, e3, e4, e5⟩ := R.ex
  have X1 := Z.X.keeps b.1
  obtain ⟨o, fd, ho, hfd⟩ := fd_at X1 (f56 P).2.2
  refine ⟨56, [.ref rec], o, fd, ho, hfd, fun pl A s Q E hk am hq => ?_, fun vs h' k rl' => ?_⟩
  · have kS : Kp h₁ s.heap := b.1.trans hk
    exact meth_inst (Z.X.keeps kS) (kS _ _ e1) (e2.here.at' fun o e => kS _ _ e) ((entK P).pg _) (f56 P).1 (f56 P).2.1 e4 (hq _ s.heap s.toks (Kp.refl _) rfl)
  · obtain ⟨u, _, rfl, r, rfl⟩ := rl'
    exact c_allow Z hn R ht (vs := [.ref rec, u]) (b.up (Kw.of k).keep fun _ m => .inl m) (al.mono k) ⟨_, _, rfl, rfl, _, _, rfl, r, rfl⟩
end
end
section
mutual
theorem Rep.hide {g g' : Gh} (s : ∀ a o, g a = some o → (o.cls = .type "list" ∨ o.cls = .type "tuple" ∨ o.cls = .type "range") → g' a = some o) : ∀ {d : D} {v : Value}, Rep g d v → Rep g' d v
  | .none, _, h => h
  | .bool _, _, h => h
  | .int _, _, h => h
  | .str _, _, h => h
  | .bytes _, _, h => h
  | .cst _, _, h => h
  | .range _ _ _, _, h => by
    obtain ⟨r, t, u, w, e, q⟩ := h
    exact ⟨r, t, u, w, e, s _ _ q (.inr (.inr rfl))⟩
  | .list _, _, h => by
    obtain ⟨a, vs, e, ⟨o, n, q, c, d, z⟩, l⟩ := h
    exact ⟨a, vs, e, ⟨o, n, s _ _ q (.inl c), c, d, z⟩, RepL.hide s l⟩
  | .tuple _, _, h => by
    obtain ⟨a, vs, e, ⟨o, n, q, c, d, z⟩, l⟩ := h
    exact ⟨a, vs, e, ⟨o, n, s _ _ q (.inr (.inl c)), c, d, z⟩, RepL.hide s l⟩
theorem RepL.hide {g g' : Gh} (s : ∀ a o, g a = some o → (o.cls = .type "list" ∨ o.cls = .type "tuple" ∨ o.cls = .type "range") → g' a = some o) : ∀ {ds : List D} {vs : List Value}, RepL g ds vs → RepL g' ds vs
  | [], _, h => h
  | _ :: _, _, h => by
    obtain ⟨v, r, e, a, b⟩ := h
    exact ⟨v, r, e, Rep.hide s a, RepL.hide s b⟩
end
section
variable {prog : Program} {w : World} {n : Nat} {O : Orc} {k : Nat} {h₀ h h' : Heap} {V W0 X T : List Addr} {env : Env} {sc : List (Str × NameKind)} {σ σ' : Vars}
theorem hide_dicts {W J : List Addr} (hJ : ∀ a ∈ J, ∀ o, h.get? a = some o → o.cls = .type "dict") : ∀ a o, fz h W a = some o → (o.cls = .type "list" ∨ o.cls = .type "tuple" ∨ o.cls = .type "range") → fz h (J ++ W) a = some o := fun a o e c => by
  obtain ⟨na, e⟩ := fz_some.mp e
  refine fz_some.mpr ⟨fun m => ?_, e⟩
  rcases List.mem_append.mp m with m | m
  · have := hJ a m o e
    rw [this] at c
    rcases c with c | c | c <;> · simp at c
  · exact na m
theorem FS.hideJ (f : FS (BaseAt h₀) h V W0 X env sc T σ) {J : List Addr} (hJ : ∀ a ∈ J, ∃ o, h.get? a = some o ∧ o.cls = .type "dict") (h0 : ∀ a ∈ J, h₀.get? a = none) (hV : ∀ a ∈ J, a ∉ V) : FS (BaseAt h₀) h V (J ++ W0) X env sc T σ where
  eo := f.eo
  cal := f.cal
  fra := f.fra
  tv := f.tv
  tx := f.tx
  xw := fun a m => by
    rcases List.mem_append.mp (f.xw a m) with q | q
    · exact List.mem_append_left _ q
    · exact List.mem_append_right _ (List.mem_append_right _ q)
  vw := fun a m q => by
    rcases List.mem_append.mp q with q | q
    · exact hV a q m
    · exact f.vw a m q
  al := fun a m => by
    rcases List.mem_append.mp m with m | m
    · exact f.al a (List.mem_append_left _ m)
    · rcases List.mem_append.mp m with m | m
      · obtain ⟨o, e, _⟩ := hJ a m; exact ⟨o, e⟩
      · exact f.al a (List.mem_append_right _ m)
  vo := fun x b e => by
    obtain ⟨ok, v, hv, r⟩ := f.vo x b e
    have hh : ∀ a o, fz h (V ++ W0) a = some o → (o.cls = .type "list" ∨ o.cls = .type "tuple" ∨ o.cls = .type "range") → fz h (V ++ (J ++ W0)) a = some o := fun a o e c => by
      have := hide_dicts (J := J) (fun a m o e => by obtain ⟨o', e', c'⟩ := hJ a m; first | exact dead2 (e) e' | exact dead2 e' (e) | (rw [e] at e'; cases e'); exact c') a o e c
      obtain ⟨na, e⟩ := fz_some.mp this
      refine fz_some.mpr ⟨fun m => na ?_, e⟩
      rcases List.mem_append.mp m with m | m
      · exact List.mem_append_right _ (List.mem_append_left _ m)
      · rcases List.mem_append.mp m with m | m
        · exact List.mem_append_left _ m
        · exact List.mem_append_right _ (List.mem_append_right _ m)
    refine ⟨ok, v, hv, ?_⟩
    cases b with
    | val d => exact Rep.hide hh r
    | own ds =>
      obtain ⟨a, vs, n, e', g, m, n', rl⟩ := r
      refine ⟨a, vs, n, e', g, ?_, n', RepL.hide hh rl⟩
      rcases List.mem_append.mp m with m | m
      · exact List.mem_append_left _ m
      · exact List.mem_append_right _ (List.mem_append_right _ m)
  ownV := f.ownV
  apart := f.apart
  base := ⟨f.base.1, fun a m => by
    rcases List.mem_append.mp m with m | m
    · exact f.base.2 a (List.mem_append_left _ m)
    · rcases List.mem_append.mp m with m | m
      · exact h0 a m
      · exact f.base.2 a (List.mem_append_right _ m)⟩
theorem FS.shrinkV {V' W' : List Addr} (f : FS (BaseAt h₀) h V W0 X env sc T σ) (hV : ∀ a ∈ V', a ∈ V) (hW : ∀ a ∈ W', a ∈ W0) (tV : ∀ a ∈ T, a ∈ V') (hX : ∀ a ∈ X, a ∈ V' ++ W') (ho : ∀ x ds, σ.lookup x ≠ some (.own ds)) : FS (BaseAt h₀) h V' W' X env sc T σ := by
  have sub : ∀ a ∈ V' ++ W', a ∈ V ++ W0 := fun a m => by
    rcases List.mem_append.mp m with m | m
    · exact List.mem_append_left _ (hV a m)
    · exact List.mem_append_right _ (hW a m)
  exact {
    eo := f.eo, cal := f.cal, fra := f.fra, tv := tV, tx := f.tx, xw := hX
    vw := fun a m q => f.vw a (hV a m) (hW a q)
    al := fun a m => f.al a (sub a m)
    vo := fun x b e => by
      obtain ⟨ok, v, hv, r⟩ := f.vo x b e
      refine ⟨ok, v, hv, ?_⟩
      cases b with
      | val d => exact Rep.mono (fz_less sub) r
      | own ds => exact absurd e (ho x ds)
    ownV := fun x ds a e => absurd e (ho x ds)
    apart := fun x y ds es a e => absurd e (ho x ds)
    base := ⟨f.base.1, fun a m => f.base.2 a (sub a m)⟩ }
theorem FS.rebase (f : FS (BaseAt h₀) h V W0 X env sc T σ) : FS (BaseAt (hideAll h (V ++ W0))) h V W0 X env sc T σ :=
  { f with base := ⟨fun a o e => of_hideAll _ e, fun a m => hideAll_none _ m⟩ }
theorem ground_kp {W : List Addr} (b : BaseAt h₀ h W) : Kp h₀ (hideAll h W) := fun a o e => hideAll_get _ (b.1 _ _ e) fun m => by first | exact dead2 (b.2 a m) e | exact dead2 e (b.2 a m) | (rw [b.2 a m] at e; cases e)
theorem call_nm (o : OrcOK prog w n (BaseAt h₀) O) {fn : Str} {p pos : Pos} {a : Addr} {e : Expr} {es : List Expr} (hg : O.glob fn = some (.cst (.ref a))) (hs : sc.lookup fn = some .globalImplicit) (ha : ∃ ob fd, h₀.get? a = some ob ∧ ob.data = .func fd) (hst : (e :: es).any starred = false)
    {A : Around} {s : Shared} {Q : Value → Shared → Prop} {E : Value → Shared → Prop} (f : FS (BaseAt h₀) s.heap V W0 X env sc T σ) (am : Amb A n)
    (hq : ∀ h1 tk1, Kp s.heap h1 → FS (BaseAt h₀) h1 V W0 X env sc T σ → wpAny (model prog w) A (spliced (backTo pos (starEach (e :: es) env))) (fun vs s' => Kp h₀ s'.heap ∧ wpAny (model prog w) A (call (.ref a) vs) Q E s') E { s with heap := h1, toks := tk1 }) :
    wpAny (model prog w) A (eval (.Call (.Name fn p) (e :: es) [] pos) env) Q E s := by
  obtain ⟨ob, fd, h1, h2⟩ := ha
  refine PyProof.Rows.Call_ (name_glob o f.base f.eo hs hg A s _ E (Kp.refl _) am fun v h1' tk1 k1 r1 => ?_) rfl
  first | with_reducible exact ns r1 | cases r1
  have hst' := hst
  rw [List.any_cons, Bool.or_eq_false_iff] at hst'
  have key := hq h1' tk1 k1 (f.kp o k1)
  refine callWith_function (o := ob) (fd := fd) ?_
  rw [star_cons hst'.1] at key ⊢
  exact evalArgs_plain (wpAny_mono key (fun vs s' z => ⟨⟨z.1 _ _ h1, h2⟩, z.2⟩) fun _ _ x => x)
theorem arg_cons {e : Expr} {es : List Expr} {pos : Pos} (hs : starred e = false) {A : Around} {s : Shared} {Q : List Value → Shared → Prop} {E : Value → Shared → Prop}
    (h : wpAny (model prog w) A (eval e env) (fun v s1 => wpAny (model prog w) A (spliced (backTo pos (starEach es env))) (fun vs => Q (v :: vs)) E s1) E s) : wpAny (model prog w) A (spliced (backTo pos (starEach (e :: es) env))) Q E s := by
  rw [star_cons hs]
  exact spliced_cons h
theorem arg_nil {pos : Pos} {A : Around} {s : Shared} {Q : List Value → Shared → Prop} {E : Value → Shared → Prop} (h : Q [] s) : wpAny (model prog w) A (spliced (backTo pos (starEach [] env))) Q E s := spliced_nil h
end
end
section
noncomputable def entM (l1 l2 : Addr) : List (Str × Value) := [(S' "useragents", .ref l1), (S' "rulelines", .ref l2), (S' "delay", .none), (S' "req_rate", .none)]
noncomputable def listO (vs : List Value) (c : Nat) : Obj := { cls := .type "list", dict := none, data := .seq vs.toArray c, slots := #[] }
section
variable {prog : Program} {w : World} {P : Params} {p : Program} {loose : List Str} {mg mb : Str → Option Value} {h₀ : Heap} {O : Orc} {k : Nat} {V W0 X T : List Addr} {env : Env} {sc : List (Str × NameKind)} {σ σ' : Vars}
set_option maxRecDepth 100000 in
theorem keep59 (P : Params) : keepIn (hd.heap_39 P) (.ref 59) = true := rfl
theorem ent_eval (Z : Wd P p loose mg mb h₀) {n : Nat} (hn : 1 ≤ n) (eo : EnvOK env sc) (hsc : sc.lookup (S' "Entry") = some .globalImplicit) {p1 p2 : Pos} {W : List Addr} {A : Around} {s : Shared} {Q : Value → Shared → Prop} {E : Value → Shared → Prop} (b : BaseAt h₀ s.heap W) (al : Al W s.heap) (am : Amb A (n + 2))
    (hq : ∀ x dx l1 l2 h' tk', Kp s.heap h' → (∀ a ∈ [x, dx, l1, l2], s.heap.get? a = none) → [x, dx, l1, l2].Nodup → h'.get? x = some (instObj 59 dx) → DObj h' dx (entM l1 l2) →
      h'.get? l1 = some lobj0 → h'.get? l2 = some lobj0 → Q (.ref x) { s with heap := h', toks := tk' }) : wpAny (model prog w) A (eval (.Call (.Name (S' "Entry") p1) [] [] p2) env) Q E s := by
  have o := o0_ok (prog := prog) (w := w) Z n
  refine PyProof.Rows.Call_ (name_glob (d := .cst (.ref 59)) o b eo hsc rfl A s _ E (Kp.refl _) (am.less (by (first | lia | omega))) fun v h1 tk1 k1 r1 => ?_) rfl
  first | with_reducible exact ns r1 | cases r1
  refine callWith_K0 (K := hd.heap_39 P) (s := { s with heap := h1, toks := tk1 }) (Z.X.keeps (b.1.trans k1)) (keep59 P) ?_
  have hsc35 : [S' "self"].all (tgtOk (scIn (hd.heap_39 P) 35)) = true := rfl
  refine entry_new (s := { s with heap := h1, toks := tk1 }) (entK P) Z.X hn o (fd35 P) (fn35 Z) (bi35 P) hsc35 (b.up (fun c oo _ e => k1 c oo e) fun c m => .inl m) (al.mono k1) am fun x dx l1 l2 h' tk' kk hf nd e1 e2 e3 e4 => ?_
  refine hq x dx l1 l2 h' tk' (k1.trans kk) (fun a m => ?_) nd e1 e2 e3 e4
  have := hf a m
  cases q : s.heap.get? a with
  | none => rfl
  | some ob => first | exact dead2 (show ({ s with heap := h1, toks := tk1 } : Shared).heap.get? a = _ from k1 _ _ q) this | exact dead2 this (show ({ s with heap := h1, toks := tk1 } : Shared).heap.get? a = _ from k1 _ _ q) | (rw [show ({ s with heap := h1, toks := tk1 } : Shared).heap.get? a = _ from k1 _ _ q] at this; cases this)
theorem append_to {l : Addr} {vs : List Value} {c : Nat} {v : Value} {A : Around} {s : Shared} {Q : Value → Shared → Prop} {E : Value → Shared → Prop} (hg : s.heap.get? l = some (listO vs c)) (hz : vs.length < 1000)
    (hq : ∀ c' h', Kw [l] s.heap h' → h'.get? l = some (listO (vs ++ [v]) c') → Q .none { s with heap := h' }) : wpAny (model prog w) A (call (.builtin "list.append") [.ref l, v]) Q E s := by
  refine wpAny_list_append_plain (hsz := by rw [List.size_toArray, sizeLine_eq]; (first | lia | omega)) ⟨c, hg⟩ fun h2 hD2 hs2 => ?_
  obtain ⟨m2, hg2⟩ := hD2
  have e2 : vs.toArray.push v = (vs ++ [v]).toArray := by simp
  rw [e2] at hg2
  exact hq m2 h2 (kw_same hs2 List.mem_cons_self ⟨_, hg2⟩) hg2
theorem list_noCell {h : Heap} {l : Addr} {vs : List Value} {c : Nat} (hg : h.get? l = some (listO vs c)) : ∀ v, ¬ h.IsCell l v := fun v ⟨o, e, q⟩ => by
  rw [hg] at e; cases e; cases q
theorem app_attr {n : Nat} (hn : 1 ≤ n) (o : OrcOK prog w n (BaseAt h₀) O) (Z : Wd P p loose mg mb h₀) {y nm : Str} {p1 p2 apos pos p : Pos} {e : Expr} {d : D} {x dx l : Addr} {m : List (Str × Value)} {vs : List Value} {c : Nat} {A : Around} {s : Shared} {Q : Flow → Shared → Prop} {E : Value → Shared → Prop}
    (f : FS (BaseAt h₀) s.heap V W0 X env sc T σ) (am : Amb A n) (hown : ∀ x ds, σ.lookup x ≠ some (.own ds)) (hy : σ.lookup y = some (.val (.cst (.ref x)))) (hx : s.heap.get? x = some (instObj 59 dx)) (hdx : DObj s.heap dx m) (hl : m.lookup nm = some (.ref l)) (hat : findIn (hd.heap_39 P) (.ref 59) nm = some none)
    (hg : s.heap.get? l = some (listO vs c)) (hlW : l ∈ V ++ W0) (hlT : l ∉ T) (hz : vs.length < 1000) (he : evE O k sc σ e = some d) (hs : starred e = false) (hp : (apos.endLine == pos.line) = true)
    (hq : ∀ u c' h' tk', Kw [l] s.heap h' → h'.get? l = some (listO (vs ++ [u]) c') → Rep (fz h' (V ++ W0)) d u → FS (BaseAt h₀) h' V W0 X env sc T σ → Q .next { s with heap := h', toks := tk' }) :
    wpAny (model prog w) A (exec (.Expr (.Call (.Attribute (.Attribute (.Name y p1) nm p2) (Str.ofString "append") apos) [e] [] pos) p) env) Q E s := by
  have hs' : [e].any starred = false := by simp [hs]
  have hal : allSome (evE O k sc σ) [e] = some [d] := by show (evE O k sc σ e).bind _ = _; rw [he]; rfl
  refine wpAny_Expr_any ?_ (inter_no f.eo.kind)
  refine MethodCall_ (attr_is rfl (name_val (h := s.heap) (W := V ++ W0) f.eo.kind f.vo hy A s _ E (Kp.refl _) am fun u h1 tk1 k1 r1 => ?_)) (method_is rfl hs' (by (first | exact List.mem_cons_self | exact List.mem_cons_of_mem _ List.mem_cons_self | decide | simp)) hp)
  cases r1
  have f1 := f.kp o k1
  refine get_inst (s := { s with heap := h1, toks := tk1 }) (Z.X.keeps f1.base.1) (k1 _ _ hx) (hdx.at' fun o e => k1 _ _ e) ((entK P).pg _) (entK P).hd hat hl rfl ?_
  have gm : ∀ {Q : Value × List Value → Shared → Prop} {pl : Sem Bool} {s1 : Shared}, s1.heap.get? l = some (listO vs c) → Q (.builtin "list.append", [.ref l]) s1 → wpAny (model prog w) A (getMethod (.ref l) (Str.ofString "append") pl) Q E s1 := fun hg hQ => by
    with_reducible exact getMethod_list_append hg rfl rfl hQ
  refine gm (k1 _ _ hg) ?_
  refine callWith_builtin (star_plain hs') (evargs_ok (h := h1) (n := n) (W := V ++ W0) hs' (fun e' _ d' h' kk q => ((ev_all hn o k).1 sc σ e' d' q env h1 (V ++ W0) X f1.eo f1.cal f1.vo f1.al f1.base f1.xw).up kk) hal (Kp.refl _) am fun us h2 tk2 k2 r2 => ?_)
  obtain ⟨u, _, rfl, r2, rfl⟩ := r2
  have f2 := f1.kp o k2
  have hg2 := k2 _ _ (k1 _ _ hg)
  refine append_to (s := { s with heap := h2, toks := tk2 }) hg2 hz fun c' h3 k3 hg3 => ?_
  refine hq u c' h3 tk2 ((Kw.of (k1.trans k2)).trans k3) hg3 (Rep.mono (fz_chg k3.keep hlW) r2) (f2.touch o k3.keep ⟨_, hg3⟩ hlW hlT (list_noCell hg2) fun x ds e => absurd e (hown x ds))
end
end
section
structure Wx (mg : Str → Option Value) (h₀ : Heap) : Prop where
  bm : Bm h₀ mg
  c1 : CodeHd h₀ 177 173
  c2 : CodeHd h₀ 184 180
noncomputable def reP : Pos := { line := 170, col := 15, endLine := 170, endCol := 27 }
structure Tabs (P : Params) (h : Heap) (W : List Addr) : Prop where
  t1 : Tab h W 173 (lamQ (hd.heap_39 P) 178) laP
  t2 : Tab h W 180 (lamQ (hd.heap_39 P) 185) reP
noncomputable abbrev ZT : List Addr := [173, 180]
theorem Tabs.up {P : Params} {h h' : Heap} {W W' : List Addr} (s : Sub (fz h W) (fz h' W')) (k : ∀ a ∈ ZT, ∀ o, h.get? a = some o → h'.get? a = some o) (x : Tabs P h W) : Tabs P h' W' :=
  ⟨x.t1.up s (k _ (by (first | exact List.mem_cons_self | exact List.mem_cons_of_mem _ List.mem_cons_self | decide | simp))), x.t2.up s (k _ (by (first | exact List.mem_cons_self | exact List.mem_cons_of_mem _ List.mem_cons_self | decide | simp)))⟩
theorem Tabs.live {P : Params} {h : Heap} {W : List Addr} (x : Tabs P h W) : ∀ a ∈ ZT, ∃ o, h.get? a = some o := fun a m => by
  rcases List.mem_cons.mp m with rfl | m
  · exact x.t1.live
  · rw [List.mem_singleton.mp m]; exact x.t2.live
theorem isFd_at {K : Frag} {h : Heap} (X : K.In h) {a : Addr} (e : isFd K a = true) : ∃ o fd, h.get? a = some o ∧ o.data = .func fd := fd_at X e
section
variable {prog : Program} {w : World} {P : Params} {p : Program} {loose : List Str} {mg mb : Str → Option Value} {h₀ : Heap} {O : Orc} {k : Nat} {V W0 X T : List Addr} {env : Env} {sc : List (Str × NameKind)} {σ σ' : Vars}
set_option maxRecDepth 100000 in
theorem isFds (P : Params) : isFd (hd.heap_39 P) 178 = true ∧ isFd (hd.heap_39 P) 185 = true ∧ isFd (hd.heap_39 P) 200 = true := ⟨rfl, rfl, rfl⟩
theorem tab_sub {h h' : Heap} {W : List Addr} {P0 : Addr} (k : Kk [P0] h h') (m : P0 ∈ W) : Sub (fz h W) (fz h' W) := fz_kw k fun a q => by rw [List.mem_singleton.mp q]; exact m
theorem FS.out {Base : Heap → List Addr → Prop} {h : Heap} (f : FS Base h V W0 X env sc T σ) {a : Addr} (e : h.get? a = none) : a ∉ V ++ W0 := fun m => by
  obtain ⟨ob, e'⟩ := f.al a m
  rw [e] at e'; cases e'
theorem gone {h h' : Heap} {M : List Addr} {a : Addr} (k : Kk M h h') (e : h'.get? a = none) (m : a ∉ M) : h.get? a = none := by
  cases q : h.get? a with
  | none => rfl
  | some ob => have := k _ _ m q; rw [e] at this; cases this
theorem no_own {x : Str} {d : D} (h : ∀ y ds, σ.lookup y ≠ some (.own ds)) : ∀ y ds, (setV σ x (.val d)).lookup y ≠ some (.own ds) := fun y ds e => by
  rw [lookup_setV] at e
  split at e
  · cases e
  · exact h y ds e
theorem kept_made (Z : Wd P p loose mg mb h₀) {n : Nat} (hn : 1 ≤ n) (o : OrcOK prog w (n + 2) (BaseAt h₀) O) {rest : List Stmt} {p1 p2 p3 p4 p5 p6 p7 p8 p9 : Pos} {e : Expr} {ag : List Nat} {A : Around} {s : Shared} {Q : Flow → Shared → Prop} {E : Value → Shared → Prop}
    (f : FS (BaseAt h₀) s.heap V W0 X env sc T σ) (am : Amb A (n + 2)) (hown : ∀ x ds, σ.lookup x ≠ some (.own ds)) (hsc : sc.lookup (S' "Entry") = some .globalImplicit) (tgk : tgtOk sc (S' "kept") = true)
    (he : ∀ x, evE O k sc (setV σ (S' "kept") (.val (.cst (.ref x)))) e = some (.str ag)) (hs : starred e = false) (hp : (p6.endLine == p7.line) = true) (hag : (ag != [42]) = true ∧ ag.length ≤ 1000 ∧ ag.all (fun c => decide (c < 128)) = true)
    (hq : ∀ x h' tk', Kw T s.heap h' → s.heap.get? x = none → KeptAt (fz h' (V ++ W0)) x ag → FS (BaseAt h₀) h' V W0 X env sc T (setV σ (S' "kept") (.val (.cst (.ref x)))) → wpAny (model prog w) A (execs rest env) Q E { s with heap := h', toks := tk' }) :
    wpAny (model prog w) A (execs (.Assign [.Name (S' "kept") p1] (.Call (.Name (S' "Entry") p2) [] [] p3) p4 :: .Expr (.Call (.Attribute (.Attribute (.Name (S' "kept") p5) (S' "useragents") p8) (Str.ofString "append") p6) [e] [] p7) p9 :: rest) env) Q E s := by
  refine wpAny_execs_cons (wpAny_Assign_Name (ent_eval Z hn f.eo hsc f.base f.al am fun x dx l1 l2 h1 tk1 k1 hf nd hx hdx hl1 hl2 => ?_) rfl)
  simp only [List.nodup_cons, List.mem_cons, List.not_mem_nil, or_false, not_or, not_false_eq_true, List.nodup_nil, and_true] at nd
  obtain ⟨⟨nxd, nxl, _⟩, ⟨ndl, _⟩, _⟩ := nd
  have hfx : s.heap.get? x = none := hf x List.mem_cons_self
  have hfd : s.heap.get? dx = none := hf dx (List.mem_cons_of_mem _ List.mem_cons_self)
  have hfl : s.heap.get? l1 = none := hf l1 (List.mem_cons_of_mem _ (List.mem_cons_of_mem _ List.mem_cons_self))
  have f1 : FS (BaseAt h₀) h1 (l1 :: V) W0 X env sc T σ := f.grow o (Gr.one hfl) k1 fun a m => by
    rcases List.mem_cons.mp m with rfl | m
    · exact ⟨_, hl1⟩
    · obtain ⟨ob, e⟩ := f.al a (List.mem_append_left _ m); exact ⟨ob, k1 _ _ e⟩
  have nT : ∀ {a}, s.heap.get? a = none → a ∉ T := fun {a} e m => f.out e (List.mem_append_left _ (f.tv a m))
  refine store_ok f1.eo f1.fra (tgt_2 tgk) f1.tx fun h2 tk2 k2 F2 hv2 ho2 => ?_
  have f2 := f1.set o k2 F2 (tgt_1 tgk) hv2 ho2 (b := .val (.cst (.ref x))) rfl fun ds a q => by cases q
  have x2 := k2.keep _ _ (nT hfx) hx
  have d2 : DObj h2 dx (entM l1 l2) := hdx.at' fun ob e => k2.keep _ _ (nT hfd) e
  have own2 := no_own (x := S' "kept") (d := .cst (.ref x)) hown
  refine wpAny_execs_cons (app_attr (by omega) o Z (s := { s with heap := h2, toks := tk2 }) (vs := []) (c := 0) f2 am own2 (by rw [lookup_setV]; rfl) x2 d2 (l := l1) rfl (entK P).a1 (k2.keep _ _ (nT hfl) hl1) List.mem_cons_self (nT hfl) (by decide) (he x) hs hp fun u c' h3 tk3 k3 hg3 r3 f3 => ?_)
  have f4 := f3.shrinkV (V' := V) (W' := W0) (fun a m => List.mem_cons_of_mem _ m) (fun a m => m) f.tv f.xw own2
  refine hq x h3 tk3 ?_ hfx ⟨⟨dx, _, .ref l1, fz_some.mpr ⟨f.out hfx, k3.keep _ _ (by simpa using nxl) x2⟩, DG.of (f.out hfd) (d2.at' fun ob e => k3.keep _ _ (by simpa using ndl) e), rfl, rfl, rep_list (vs := [u]) (f.out hfl) ⟨_, hg3, rfl, c', rfl, rfl⟩ ⟨u, [], rfl, ?_, rfl⟩⟩, hag⟩ f4
  · have kw : Kw T s.heap h2 := (Kw.of k1).trans k2
    exact ⟨fun b ob nb e => k3.keep _ _ (fun q => by rw [List.mem_singleton.mp q, hfl] at e; cases e) (kw.keep _ _ nb e), fun b e => k3.live b (kw.live b e)⟩
  · exact r3
theorem rule_part (Z : Wd P p loose mg mb h₀) (Y : Wx mg h₀) {n : Nat} (hn : 1 ≤ n) (o : OrcOK prog w (n + 1) (BaseAt h₀) O) (hgl : O.glob = fun x => globs.lookup x) {rest : List Stmt} {p1 p2 p3 p4 p5 p6 p7 p8 p9 p10 p11 : Pos} {c1 : Nat} {pr : Arguments} {lsc : Scope} {eK eF eV : Expr} {x : Addr} {ag : List Nat} {j : Int} {vb : Bool} {A : Around} {s : Shared} {Q : Flow → Shared → Prop} {E : Value → Shared → Prop}
    (f : FS (BaseAt h₀) s.heap V W0 X env sc T σ) (am : Amb A (n + 1)) (hown : ∀ x ds, σ.lookup x ≠ some (.own ds)) (hl : sc.lookup (S' "_law_reaches") = some .globalImplicit) (tgr : tgtOk sc (S' "rule") = true) (hdf : ∀ env, defaultsOf pr env = ([], [])) (hsc0 : lsc.names = [])
    (hcode : env.code = .ref 184) (hqual : env.qual ++ "<lambda>" = lamQ (hd.heap_39 P) 185) (hZ : ∀ a ∈ ZT, a ∈ W0) (tb : Tabs P s.heap (V ++ W0)) (kx : KeptAt (fz s.heap (V ++ W0)) x ag)
    (h1 : ∀ fa, evE O k sc (setV σ (S' "rule") (.val (.cst (.ref fa)))) eK = some (.cst (.ref x))) (h2 : ∀ fa, evE O k sc (setV σ (S' "rule") (.val (.cst (.ref fa)))) eF = some (.int j)) (h3 : ∀ fa, evE O k sc (setV σ (S' "rule") (.val (.cst (.ref fa)))) eV = some (.bool vb))
    (hs : [eK, eF].any starred = false) (hsw : swapsWith eV (some (.Attribute (.Name (S' "rule") p8) (S' "allowance") p9)) p10.line env = pure false)
    (hq : ∀ fa h' tk', Kw (ZT ++ T) s.heap h' → s.heap.get? fa = none → RuleAt P (fz h' (V ++ W0)) fa ⟨x, ag, j⟩ (.bool vb) → Tabs P h' (V ++ W0) → FS (BaseAt h₀) h' V W0 X env sc T (setV σ (S' "rule") (.val (.cst (.ref fa)))) → wpAny (model prog w) A (execs rest env) Q E { s with heap := h', toks := tk' }) :
    wpAny (model prog w) A (execs (.Assign [.Name (S' "rule") p1] (.Lambda pr (.Constant .none c1 p11) lsc reP) p2 :: .Assign [.Attribute (.Name (S' "rule") p3) (S' "applies_to") p4] (.Call (.Name (S' "_law_reaches") p5) [eK, eF] [] p6) p7 :: .Assign [.Attribute (.Name (S' "rule") p8) (S' "allowance") p9] eV p10 :: rest) env) Q E s := by
  have o0 := o0_ok (prog := prog) (w := w) Z n
  have hn1 : 1 ≤ n + 1 := by omega
  simp only [List.any_cons, List.any_nil, Bool.or_false, Bool.or_eq_false_iff] at hs
  obtain ⟨s1, s2⟩ := hs
  have m1 : (173 : Addr) ∈ V ++ W0 := List.mem_append_right _ (hZ _ (by (first | exact List.mem_cons_self | exact List.mem_cons_of_mem _ List.mem_cons_self | decide | simp)))
  have m2 : (180 : Addr) ∈ V ++ W0 := List.mem_append_right _ (hZ _ (by (first | exact List.mem_cons_self | exact List.mem_cons_of_mem _ List.mem_cons_self | decide | simp)))
  have zT : ∀ {a : Addr}, a ∈ ZT → a ∉ T := fun {a} m q => f.vw a (f.tv a q) (hZ a m)
  have nT : ∀ {a}, s.heap.get? a = none → a ∉ T := fun {a} e m => f.out e (List.mem_append_left _ (f.tv a m))
  have ev : ∀ {hh : Heap} {V' : List Addr} {σ : Vars} {e : Expr} {d : D}, FS (BaseAt h₀) hh V' W0 X env sc T σ → evE O k sc σ e = some d → Gv prog w (n + 1) (V' ++ W0) (eval e env) d hh := fun {hh V' σ e d} g he => (ev_all hn1 o k).1 sc σ e d he env hh (V' ++ W0) X g.eo g.cal g.vo g.al g.base g.xw
  -- the lambda
  refine wpAny_execs_cons (wpAny_Assign_Name (lam_eval o f (hdf env) (clos_nil hsc0) Z.T.g hcode Y.c2 Y.bm m2 (zT (by (first | exact List.mem_cons_self | exact List.mem_cons_of_mem _ List.mem_cons_self | decide | simp))) (by rw [hqual]; exact tb.t2) fun fa c' ctv g2 tk2 f2 kk2 nf2 hf2 nc2 hr2 hT2 => ?_) rfl)
  rw [hqual] at hT2
  have sub2 : Sub (fz s.heap (V ++ W0)) (fz g2 (fa :: V ++ W0)) := fun a ob q => by
    obtain ⟨na, e⟩ := fz_some.mp q
    refine fz_some.mpr ⟨fun z => ?_, kk2 _ _ (fun z => na (by rw [List.mem_singleton.mp z]; exact m2)) e⟩
    rcases List.mem_cons.mp z with z | z
    · rw [z, nf2] at e; cases e
    · exact na z
  have t2 : Tabs P g2 (fa :: V ++ W0) := ⟨tb.t1.up sub2 fun ob e => kk2 _ _ (by decide) e, hT2⟩
  refine store_ok f2.eo f2.fra (tgt_2 tgr) f2.tx fun g3 tk3 k3 F3 hv3 ho3 => ?_
  have f3 := f2.set o k3 F3 (tgt_1 tgr) hv3 ho3 (b := .val (.cst (.ref fa))) rfl fun ds a q => by cases q
  have own3 := no_own (x := S' "rule") (d := .cst (.ref fa)) hown
  have faT : fa ∉ T := nT nf2
  have sub3 : Sub (fz g2 (fa :: V ++ W0)) (fz g3 (fa :: V ++ W0)) := fz_kw k3.keep fun a m => List.mem_append_left _ (f2.tv a m)
  have hf3 := k3.keep _ _ faT hf2
  have t3 : Tabs P g3 (fa :: V ++ W0) := t2.up sub3 fun a m ob e => k3.keep _ _ (zT m) e
  have hru : (setV σ (S' "rule") (.val (.cst (.ref fa)))).lookup (S' "rule") = some (.val (.cst (.ref fa))) := by rw [lookup_setV]; rfl
  -- its reach
  refine wpAny_execs_cons (plainObj_wpAny_Assign_Attribute (call_nm o (a := 178) (s := { s with heap := g3, toks := tk3 }) (by rw [hgl]; rfl) hl (isFd_at Z.X (isFds P).1) (by simp [s1, s2]) f3 am fun g4 tk4 k4 f4 => ?_) rfl)
  refine arg_cons s1 (ev f4 (h1 fa) A { s with heap := g4, toks := tk4 } _ E (Kp.refl _) am fun vK g5 tk5 k5 rK => ?_)
  have f5 := f4.kp o k5
  refine arg_cons s2 (ev f5 (h2 fa) A { s with heap := g5, toks := tk5 } _ E (Kp.refl _) am fun vF g6 tk6 k6 rF => ?_)
  have f6 := f5.kp o k6
  have k36 := (k4.trans k5).trans k6
  have t6 : Tabs P g6 (fa :: V ++ W0) := t3.up (fz_mono k36) fun a _ ob e => k36 _ _ e
  refine arg_nil ⟨f6.base.1, ?_⟩
  refine lacks_made (n := n) (W := fa :: V ++ W0) (s := { s with heap := g6, toks := tk6 }) (lacksK P) o0 (fd178 P) (fn178 Z) (bi178 P) Z.T.g Y.c1 Y.bm f6.base f6.al (List.mem_cons_of_mem _ m1) t6.t1 (Rep.mono (fz_mono k6) rK) rF am fun fr c1 c2 g7 tk7 kk7 nf7 L7 C1 C2 c12 hT7 => ?_
  have f7 : FS (BaseAt h₀) g7 (fa :: V) W0 X env sc T (setV σ (S' "rule") (.val (.cst (.ref fa)))) := f6.touch o kk7 (hT7.live) (List.mem_cons_of_mem _ m1) (zT (by (first | exact List.mem_cons_self | exact List.mem_cons_of_mem _ List.mem_cons_self | decide | simp))) t6.t1.noCell (notOwn f6 (tab_noSeq t6.t1))
  have s67 : Sub (fz g6 (fa :: V ++ W0)) (fz g7 (fa :: V ++ W0)) := tab_sub kk7 (List.mem_cons_of_mem _ m1)
  have t7 : Tabs P g7 (fa :: V ++ W0) := ⟨hT7, t6.t2.up s67 fun ob e => kk7 _ _ (by decide) e⟩
  refine name_val (h := g7) (W := fa :: V ++ W0) f7.eo.kind f7.vo hru A { s with heap := g7, toks := tk7 } _ E (Kp.refl _) am fun u g8 tk8 k8 r8 => ?_
  cases r8
  have f8 := f7.kp o k8
  have fne : ∀ {a : Addr}, a ∈ ZT → fa ≠ a := fun {a} m q => by
    obtain ⟨ob, e⟩ := tb.live a m
    rw [q, e] at nf2; cases nf2
  have hf8 := k8 _ _ (kk7 _ _ (by simpa using fne (a := 173) (by (first | exact List.mem_cons_self | exact List.mem_cons_of_mem _ List.mem_cons_self | decide | simp))) (k36 _ _ hf3))
  refine fn_set0 (s := { s with heap := g8, toks := tk8 }) o f8 hf8 List.mem_cons_self faT fl_at fun g9 tk9 df f9 kk9 nd9 hf9 hd9 => ?_
  have dfT : df ∉ T := fun m => f8.out nd9 (List.mem_append_left _ (List.mem_cons_of_mem _ (f.tv _ m)))
  have sub9 : Sub (fz g8 (fa :: V ++ W0)) (fz g9 (df :: fa :: V ++ W0)) := fun a ob q => by
    obtain ⟨na, e⟩ := fz_some.mp q
    refine fz_some.mpr ⟨fun z => ?_, kk9 _ _ (fun z => na (by rw [z]; exact List.mem_cons_self)) e⟩
    rcases List.mem_cons.mp z with z | z
    · rw [z, nd9] at e; cases e
    · exact na z
  have t9 : Tabs P g9 (df :: fa :: V ++ W0) := (t7.up (fz_mono k8) fun a _ ob e => k8 _ _ e).up sub9 fun a m ob e => kk9 _ _ (fne m).symm e
  -- its verdict
  refine wpAny_execs_cons (asg_attr (s := { s with heap := g9, toks := tk9 }) o f9 am hru (ev f9 (h3 fa)) hsw fun v10 g10 tk10 k10 r10 f10 => ?_)
  refine fn_set1 (s := { s with heap := g10, toks := tk10 }) o f10 (k10 _ _ hf9) (hd9.at' fun ob e => k10 _ _ e) (List.mem_cons_self) dfT (by (first | exact List.mem_cons_self | exact List.mem_cons_of_mem _ List.mem_cons_self | decide | simp)) fl_al fun g11 tk11 f11 kk11 hd11 => ?_
  have sub11 : Sub (fz g10 (df :: fa :: V ++ W0)) (fz g11 (df :: fa :: V ++ W0)) := fun a ob q => by
    obtain ⟨na, e⟩ := fz_some.mp q
    exact fz_some.mpr ⟨na, kk11 _ _ (fun z => na (by rw [z]; exact List.mem_cons_self)) e⟩
  have dne : ∀ {a : Addr}, a ∈ ZT → df ≠ a := fun {a} m q => by
    obtain ⟨ob, e⟩ := t7.live a m
    rw [q, k8 _ _ e] at nd9; cases nd9
  have t11 : Tabs P g11 (df :: fa :: V ++ W0) := (t9.up (fz_mono k10) fun a _ ob e => k10 _ _ e).up sub11 fun a m ob e => kk11 _ _ (dne m).symm e
  have f12 := f11.shrinkV (V' := V) (W' := W0) (fun a m => List.mem_cons_of_mem _ (List.mem_cons_of_mem _ m)) (fun a m => m) f.tv f.xw own3
  have less : Sub (fz g11 (df :: fa :: V ++ W0)) (fz g11 (V ++ W0)) := fz_less fun a m => List.mem_cons_of_mem _ (List.mem_cons_of_mem _ m)
  have s7 : Sub (fz g7 (fa :: V ++ W0)) (fz g11 (V ++ W0)) := Sub.trans (fz_mono k8) (Sub.trans sub9 (Sub.trans (fz_mono k10) (Sub.trans sub11 less)))
  have s0 : Sub (fz s.heap (V ++ W0)) (fz g11 (V ++ W0)) := Sub.trans sub2 (Sub.trans sub3 (Sub.trans (fz_mono k36) (Sub.trans s67 s7)))
  have nd0 : s.heap.get? df = none := gone kk2 (gone k3.keep (gone (fun a ob na e => k8 _ _ (kk7 _ _ na (k36 _ _ e))) nd9 (by simpa using dne (a := 173) (by (first | exact List.mem_cons_self | exact List.mem_cons_of_mem _ List.mem_cons_self | decide | simp)))) dfT) (by simpa using dne (a := 180) (by (first | exact List.mem_cons_self | exact List.mem_cons_of_mem _ List.mem_cons_self | decide | simp)))
  have fd : fa ≠ df := fun q => by rw [← q, hf8] at nd9; cases nd9
  refine hq fa g11 tk11 ?_ nf2 ⟨⟨_, df, .ref fr, v10, fz_some.mpr ⟨f.out nf2, kk11 _ _ fd (k10 _ _ hf9)⟩, DG.of (f.out nd0) hd11, ?_, ⟨fr, _, c1, c2, rfl, L7.up s7, C1.up s7, C2.up s7, c12, kx.up s0⟩, ?_⟩⟩ (t11.up less fun _ _ _ e => e) f12
  · refine ⟨fun a ob na e => ?_, fun a ⟨ob, e⟩ => ?_⟩
    · have nz : a ∉ ZT := fun q => na (List.mem_append_left _ q)
      have nt : a ∉ T := fun q => na (List.mem_append_right _ q)
      have af : a ≠ fa := fun q => by rw [q, nf2] at e; cases e
      have ad : a ≠ df := fun q => by rw [q, nd0] at e; cases e
      exact kk11 _ _ ad (k10 _ _ (kk9 _ _ af (k8 _ _ (kk7 _ _ (fun q => nz (by rw [List.mem_singleton.mp q]; simp)) (k36 _ _ (k3.keep _ _ nt (kk2 _ _ (fun q => nz (by rw [List.mem_singleton.mp q]; simp)) e)))))))
    · by_cases z : a ∈ ZT
      · exact (t11.live a z)
      · by_cases zt : a ∈ T
        · exact f12.al a (List.mem_append_left _ (f.tv a zt))
        · have af : a ≠ fa := fun q => by rw [q, nf2] at e; cases e
          have ad : a ≠ df := fun q => by rw [q, nd0] at e; cases e
          exact ⟨ob, kk11 _ _ ad (k10 _ _ (kk9 _ _ af (k8 _ _ (kk7 _ _ (fun q => z (by rw [List.mem_singleton.mp q]; simp)) (k36 _ _ (k3.keep _ _ zt (kk2 _ _ (fun q => z (by rw [List.mem_singleton.mp q]; simp)) e)))))))⟩
  · cases r10; rfl
  · cases r10; rfl
end
end
section
theorem ints_inv : ∀ {ds : List D} {xs : List Int}, intsD ds = some xs → ds = xs.map .int
  | [], xs, h => by cases h; rfl
  | d :: ds, xs, h => by
    obtain ⟨x, ys, rfl, hy, rfl⟩ := intsD_inv h
    rw [ints_inv hy]; rfl
noncomputable def orcL (l : List (Addr × (List D → Option D))) (f : Value) (ds : List D) : Option D := (asRef f).bind fun a => (l.lookup a).bind fun F => F ds
noncomputable def oneI (g : Int → Option D) (ds : List D) : Option D := one (fun d => (asInt d).bind g) ds
theorem oneI_inv {g : Int → Option D} {ds : List D} {d : D} (h : oneI g ds = some d) : ∃ m, ds = [.int m] ∧ g m = some d := by
  obtain ⟨x, rfl, h⟩ := one_inv h
  obtain ⟨m, hm, h⟩ := bind_inv h
  exact ⟨m, by rw [asInt_inv hm], h⟩
noncomputable def asBytes : D → Option (List UInt8)
  | .bytes b => some b
  | _ => none
theorem asBytes_inv {d : D} {i : List UInt8} (h : asBytes d = some i) : d = .bytes i := by cases d <;> first | (cases h; done) | (cases h; rfl)
noncomputable def oneY (g : List UInt8 → Option D) (ds : List D) : Option D := one (fun d => (asBytes d).bind g) ds
theorem oneY_inv {g : List UInt8 → Option D} {ds : List D} {d : D} (h : oneY g ds = some d) : ∃ b, ds = [.bytes b] ∧ g b = some d := by
  obtain ⟨x, rfl, h⟩ := one_inv h
  obtain ⟨m, hm, h⟩ := bind_inv h
  exact ⟨m, by rw [asBytes_inv hm], h⟩
noncomputable def oneL (g : List Int → Option D) (ds : List D) : Option D := one (fun d => (asList d).bind fun l => (intsD l).bind g) ds
theorem oneL_inv {g : List Int → Option D} {ds : List D} {d : D} (h : oneL g ds = some d) : ∃ xs, ds = [.list (xs.map .int)] ∧ g xs = some d := by
  obtain ⟨x, rfl, h⟩ := one_inv h
  obtain ⟨l, hl, h⟩ := bind_inv h
  obtain ⟨xs, hx, h⟩ := bind_inv h
  exact ⟨xs, by rw [asList_inv hl, ints_inv hx], h⟩
theorem orcL_L {l : List (Addr × (List D → Option D))} {a : Addr} {g : List Int → Option D} {xs : List Int} (h : l.lookup a = some (oneL g)) : orcL l (.ref a) [.list (xs.map .int)] = g xs := by
  show (l.lookup a).bind _ = _
  rw [h]
  show (intsD (xs.map .int)).bind g = g xs
  rw [ints_map]; rfl
noncomputable def no77 : D → Option D
  | .bool b => if b = false then some (.bool b) else none
  | _ => none
theorem no77_inv {ds : List D} {d : D} (h : one no77 ds = some d) : ds = [.bool false] ∧ d = .bool false := by
  obtain ⟨x, rfl, h⟩ := one_inv h
  cases x <;> first | exact ns h | skip
  obtain ⟨rfl, h⟩ := ite_inv h
  exact ⟨rfl, h.symm⟩
noncomputable def c1 : Value → List D → Option D := orcL [(107, oneI fun m => some (.int (Builtin.bitAnd m 61440))), (100, oneI fun m => some (.int (Builtin.bitAnd m 4095))), (70, oneY fun b => some (.bytes b)), (77, one no77)]
noncomputable def O1 : Orc := { glob := fun x => globs.lookup x, call := c1 }
noncomputable def c2 : Value → List D → Option D := orcL [(147, oneI fun m => some (.str (listM m))), (93, oneY fun bs => if bs.length ≤ 1000 ∧ (bFold bs).2.1 = 0 then some (.bytes ((bFold bs).1.map Nat.toUInt8)) else none)]
noncomputable def O2 : Orc := { glob := fun x => globs.lookup x, call := c2 }
section
variable {prog : Program} {w : World} {P : Params} {p : Program} {loose : List Str} {mg mb : Str → Option Value} {h₀ : Heap}
inductive FOK (prog : Program) (w : World) (n : Nat) (P : Params) (h₀ : Heap) (l : List (Addr × (List D → Option D))) : Prop
  | mk (h : ∀ a F, l.lookup a = some F → isFd (hd.heap_39 P) a = true ∧ ∀ ds d, F ds = some d → Ct prog w n h₀ (.ref a) ds d)
theorem FOK.nil {n : Nat} : FOK prog w n P h₀ [] := ⟨fun _ _ e => lk_nil e⟩
theorem FOK.cons {n : Nat} {a : Addr} {F : List D → Option D} {l : List (Addr × (List D → Option D))} (h1 : isFd (hd.heap_39 P) a = true) (h2 : ∀ ds d, F ds = some d → Ct prog w n h₀ (.ref a) ds d) (h3 : FOK prog w n P h₀ l) : FOK prog w n P h₀ ((a, F) :: l) :=
  ⟨fun b G e => by
    rcases lk_cons e with ⟨rfl, rfl⟩ | e
    · exact ⟨h1, h2⟩
    · exact h3.1 b G e⟩
theorem orcL_ok (Z : Wd P p loose mg mb h₀) {n : Nat} {l : List (Addr × (List D → Option D))} (k : FOK prog w n P h₀ l) : OrcOK prog w n (BaseAt h₀) { glob := fun x => globs.lookup x, call := orcL l } := by
  refine orc_ok Z.X Z.T (fun x d e => globs_all P (x, d) (mem_look e)) (fun f ds d e => ?_) (fun {h W f ds d vs} b al e r => ?_) (fun _ _ => rfl) (fun _ _ _ => rfl) (fun _ _ => rfl) (fun _ _ => rfl)
  · obtain ⟨a, ha, e1⟩ := bind_inv e
    obtain ⟨F, hF, e2⟩ := bind_inv e1
    exact ⟨a, asRef_inv ha, (k.1 a F hF).1⟩
  · obtain ⟨a, ha, e1⟩ := bind_inv e
    obtain ⟨F, hF, e2⟩ := bind_inv e1
    cases asRef_inv ha
    exact (k.1 a F hF).2 ds d e2 b al r
set_option maxRecDepth 100000 in
theorem o1_ok (Z : Wd P p loose mg mb h₀) {n : Nat} (hn : 1 ≤ n) : OrcOK prog w (n + 1) (BaseAt h₀) O1 := by
  have o := o0_ok (prog := prog) (w := w) Z n
  refine orcL_ok Z (.cons rfl (fun ds d e => ?_) (.cons rfl (fun ds d e => ?_) (.cons rfl (fun ds d e => ?_) (.cons rfl (fun ds d e => ?_) .nil))))
  · obtain ⟨m, rfl, e⟩ := oneI_inv e
    rw [← Option.some.inj e]
    exact cc107 (ds := [.int m]) (ap := []) (k := 20) hn Z o rfl (e_ifmt P O0 m)
  · obtain ⟨m, rfl, e⟩ := oneI_inv e
    rw [← Option.some.inj e]
    exact cc100 (ds := [.int m]) (ap := []) (k := 20) hn Z o rfl (e_imode P O0 m)
  · obtain ⟨bs, rfl, e⟩ := oneY_inv e
    rw [← Option.some.inj e]
    exact cc70 (ds := [.bytes bs]) (ap := []) (k := 20) hn Z o rfl (e_buffer (O := O0) rfl P bs)
  · obtain ⟨rfl, rfl⟩ := no77_inv e
    exact cc77 (ds := [.bool false]) (ap := []) (k := 20) hn Z o rfl (e_truth (O := O0) rfl P)
set_option maxRecDepth 100000 in
theorem o2_ok (Z : Wd P p loose mg mb h₀) {n : Nat} (hn : 1 ≤ n) : OrcOK prog w (n + 3) (BaseAt h₀) O2 := by
  have o := o1_ok (prog := prog) (w := w) Z (n := n) hn
  have o2 := o1_ok (prog := prog) (w := w) Z (n := n + 1) (by (first | lia | omega))
  refine orcL_ok Z (.cons rfl (fun ds d e => ?_) (.cons rfl (fun ds d e => ?_) .nil))
  · obtain ⟨m, rfl, e⟩ := oneI_inv e
    rw [← Option.some.inj e]
    exact c_filemode (n := n + 2) (by (first | lia | omega)) Z o2 rfl (fun m => rfl) m
  · obtain ⟨bs, rfl, e⟩ := oneY_inv e
    obtain ⟨hc, e⟩ := ite_inv e
    rw [← e]
    exact c_b64 (n := n + 1) (by (first | lia | omega)) Z o rfl ⟨fun b => rfl, rfl⟩ o2 rfl hc.1 hc.2
end
end
section
section
variable (ms : Fin 4 → Nat)
noncomputable def gm : Gm where
  own v := !(bt (ms v) 11)
  nx v b := ⟨(if b then ms v % 8 else ms v / 8 % 8) % 4, Nat.mod_lt _ (by decide)⟩
  key v := if ms v / 64 % 8 = 0 then 1 else 2 * (ms v / 64 % 8) + (if bt (ms v) 10 then 0 else 1)
noncomputable def filesD : D := .list (fins.map fun v => fileD (ms v))
noncomputable abbrev finD (v : Fin 4) : D := .int (v.1 : Int)
noncomputable def ringN (c : Nat) (v : Fin 4) : Nat := ((fins.filter (inRing (gm ms) c v)).map fun x => 2 ^ x.1).sum
end
theorem fins_it : iterD (.range 0 4 1) = some (fins.map finD) := rfl
theorem file_at (ms : Fin 4 → Nat) (v : Fin 4) : itemD (filesD ms) (finD v) = some (fileD (ms v)) := by
  rcases (by decide : ∀ v : Fin 4, v = 0 ∨ v = 1 ∨ v = 2 ∨ v = 3) v with rfl | rfl | rfl | rfl <;> rfl
theorem bit_int (r p : Nat) : (r : Int) / (2 : Int) ^ ((p : Int).toNat) % 2 = ((r / 2 ^ p % 2 : Nat) : Int) := by
  rw [Int.toNat_natCast]
  have : (2 : Int) ^ p = ((2 ^ p : Nat) : Int) := by simp
  rw [this]; rfl
theorem bit_eq1 (r p : Nat) : ((r : Int) / (2 : Int) ^ ((p : Int).toNat) % 2 == 1) = bitN r p := by
  rw [bit_int]
  exact eq_int (b := 1) (by unfold bitN; simp)
theorem bit_eq0 (r p : Nat) : ((r : Int) / (2 : Int) ^ ((p : Int).toNat) % 2 == 0) = !(bitN r p) := by
  rw [bit_int]
  refine eq_int (b := 0) ?_
  unfold bitN
  have : r / 2 ^ p % 2 < 2 := Nat.mod_lt _ (by decide)
  simp
theorem pow_all : ∀ v : Fin 4, (0 : Int) < 2 ^ (((v.1 : Nat) : Int).toNat) ∧ (2 : Int) ^ (((v.1 : Nat) : Int).toNat) < 1073741824 := by decide
theorem pow_small {p : Nat} (h : p < 4) : (0 : Int) < 2 ^ ((p : Int).toNat) ∧ (2 : Int) ^ ((p : Int).toNat) < 1073741824 := pow_all ⟨p, h⟩
theorem move_at (m c : Nat) (v : Fin 4) : itemD (fileD m) (.int (3 + 2 * ((c : Int) / (2 : Int) ^ ((v.1 : Int).toNat) % 2))) = some (.int ((if bitN c v.1 then m % 8 else m / 8 % 8 : Nat) : Int)) := by
  rw [bit_int]
  unfold bitN
  rcases Nat.mod_two_eq_zero_or_one (c / 2 ^ v.1) with e | e <;> · rw [e]; rfl
theorem r_pow {O : Orc} {k : Nat} {sc : List (Str × NameKind)} {σ : Vars} {p q : Pos} {a : Nat} {e : Expr} {v : Nat} (hv : v < 4) (h : evE O k sc σ e = some (.int (v : Int))) : evE O (k + 1) sc σ (.BinOp (.Constant (.int 2) a q) .Pow e p) = some (.int (2 ^ ((v : Int).toNat))) := by
  cases k with
  | zero => cases h
  | succ k => exact r_bin r_int h (bin_pow ⟨by omega, by omega, by decide⟩)
theorem let_all : ∀ v : Fin 4, (26 * (1 - ((v.1 : Nat) : Int) % 2) : Int) = ((26 * (1 - v.1 % 2) : Nat) : Int) := by decide
noncomputable def letN (s p : Nat) : Nat := s + p + 26 * (1 - p % 2)
noncomputable def namedV (r s : Nat) : List Nat := ((List.range 4).filter fun p => bitN r p).map (letN s) ++ [63] ++ ((List.range 4).filter fun p => !(bitN r p)).map (letN s)
noncomputable def stG (ms : Fin 4 → Nat) (c : Nat) (y : Option Nat × Fin 4 × List (Fin 4)) : Vars := (Str.ofString "files", .val (filesD ms)) :: (Str.ofString "choice", .val (.int (c : Int))) :: (Str.ofString "place", .val (finD y.2.1)) ::
  (Str.ofString "passed", .own (y.2.2.map finD)) :: (match y.1 with | some k => [(Str.ofString "step", .val (.int (k : Int)))] | none => [])
noncomputable def gStep (ms : Fin 4 → Nat) (c : Nat) (y : Option Nat × Fin 4 × List (Fin 4)) (i : Nat) : Option Nat × Fin 4 × List (Fin 4) := (some i, (gm ms).nx y.2.1 (bitN c y.2.1.1), y.2.2 ++ [(gm ms).nx y.2.1 (bitN c y.2.1.1)])
theorem any_fin (x : Fin 4) : ∀ l : List (Fin 4), anyD (fun e => eqD 3 e (finD x)) (l.map finD) = some (l.contains x)
  | [] => rfl
  | y :: l => by
    rw [List.map_cons]
    refine bnd (a := (y == x)) ?_ (bnd (any_fin x l) ?_)
    · show some (((y.1 : Int)) == (x.1 : Int)) = _
      rw [eq_int (c := (y == x)) (by simp [Fin.ext_iff])]
    · rw [List.contains_cons, Bool.beq_comm]
section
variable {O : Orc} (hO : O.glob = fun x => globs.lookup x)
include hO
set_option maxRecDepth 100000 in
theorem e_named (P : Params) (r s : Nat) (H : O.call (.ref 171) [.list ((namedV r s).map nI)] = some (.str ((namedV r s).map tab))) :
    Rets O [] 20 (hd.heap_39 P) 190 [(Str.ofString "ring", .val (.int (r : Int))), (Str.ofString "shift", .val (.int (s : Int)))] (.str ((namedV r s).map tab)) := by
  obtain ⟨g, c⟩ := O
  subst hO
  have it4 : iterD (.range 0 4 1) = some ((List.range 4).map fun (i : Nat) => D.int (i : Int)) := rfl
  have ltr : ∀ p ∈ List.range 4, itemD (.list ((List.range 4).map fun p => D.int ((letN s p : Nat) : Int))) (.int (p : Int)) = some (.int ((letN s p : Nat) : Int)) := fun p m => by
    have := List.mem_range.mp m
    exact item_map (q := fun p => D.int ((letN s p : Nat) : Int)) (by decide) (by simp [this])
  apply Exists.intro
  conv => lhs; arg 2; whnf
  refine b_next (s_asg rfl rfl (d := .list ((List.range 4).map fun p => .int ((letN s p : Nat) : Int))) ?_) ?_
  · refine r_comp rfl (r_peek (d := .range 0 4 1) rfl (r_call rfl rfl (r_glob rfl rfl) (r_cons r_int r_nil) rfl) it4) (by decide) (r_clause rfl (cat_m fun p m => ?_)) (by (first | exact List.mem_cons_self | exact List.mem_cons_of_mem _ List.mem_cons_self | decide | simp))
    have hp := List.mem_range.mp m
    refine r_one (c := true) r_ifs0 (r_bin (r_bin (r_var rfl rfl) (r_var rfl rfl) rfl) (r_bin r_int (r_bin r_int (r_bin (r_var rfl rfl) r_int (bin_mod (by decide))) rfl) (bin_mul (by decide))) ?_)
    show some (D.int _) = some (D.int _)
    exact congrArg (fun z => some (D.int ((s : Int) + (p : Int) + z))) (let_all ⟨p, hp⟩)
  refine b_next (s_asg rfl rfl (d := .list (((List.range 4).filter fun p => !(bitN r p)).map fun p => .int ((letN s p : Nat) : Int))) ?_) ?_
  · refine r_comp rfl (r_peek (d := .range 0 4 1) rfl (r_call rfl rfl (r_glob rfl rfl) (r_cons r_int r_nil) rfl) it4) (by decide) (r_clause rfl (cat_fm fun p m => ?_)) ?_
    · have hp := List.mem_range.mp m
      exact r_one (r_ifs1 (t_cmp rfl (r_bin (r_bin (r_var rfl rfl) (r_pow hp (r_var rfl rfl)) (bin_div (pow_small hp))) r_int (bin_mod (by decide))) r_int (congrArg some (bit_eq0 r p)))) (r_sub rfl (r_var rfl rfl) (r_var rfl rfl) (ltr p m))
    · rw [List.length_map]; exact Nat.le_trans (List.length_filter_le _ _) (by decide)
  refine b_ret (s_ret (r_call rfl rfl (r_glob rfl rfl) (r_cons (d := .list ((namedV r s).map nI)) ?_ r_nil) H))
  have e : (namedV r s).map nI = ((List.range 4).filter fun p => bitN r p).map (fun p => D.int ((letN s p : Nat) : Int)) ++ [D.int 63] ++ ((List.range 4).filter fun p => !(bitN r p)).map (fun p => D.int ((letN s p : Nat) : Int)) := by
    unfold namedV
    rw [List.map_append, List.map_append, List.map_map, List.map_map]; rfl
  have len : ∀ q : Nat → Bool, ((List.range 4).filter q).length ≤ 4 := fun q => Nat.le_trans (List.length_filter_le _ _) (by decide)
  rw [e]
  refine r_bin (a := .list (((List.range 4).filter fun p => bitN r p).map (fun p => D.int ((letN s p : Nat) : Int)) ++ [D.int 63])) (r_bin (a := .list (((List.range 4).filter fun p => bitN r p).map (fun p => D.int ((letN s p : Nat) : Int)))) (b := .list [.int 63]) ?_ (r_list rfl (r_cons r_int r_nil) (by decide)) (sum_list ?_)) (r_var rfl rfl) (sum_list ?_)
  · refine r_comp rfl (r_peek (d := .range 0 4 1) rfl (r_call rfl rfl (r_glob rfl rfl) (r_cons r_int r_nil) rfl) it4) (by decide) (r_clause rfl (cat_fm fun p m => ?_)) ?_
    · have hp := List.mem_range.mp m
      exact r_one (r_ifs1 (t_cmp rfl (r_bin (r_bin (r_var rfl rfl) (r_pow hp (r_var rfl rfl)) (bin_div (pow_small hp))) r_int (bin_mod (by decide))) r_int (congrArg some (bit_eq1 r p)))) (r_sub rfl (r_var rfl rfl) (r_var rfl rfl) (ltr p m))
    · rw [List.length_map]; exact Nat.le_trans (List.length_filter_le _ _) (by decide)
  · rw [List.length_map]; exact Nat.le_trans (Nat.add_le_add_right (len _) _) (by decide)
  · rw [List.length_append, List.length_map, List.length_map]; exact Nat.le_trans (Nat.add_le_add (Nat.add_le_add_right (len _) _) (len _)) (by decide)
set_option maxRecDepth 100000 in
theorem e_ring (P : Params) (ms : Fin 4 → Nat) (c : Nat) (v : Fin 4) :
    Rets O [Str.ofString "passed"] 20 (hd.heap_39 P) 195 [(Str.ofString "files", .val (filesD ms)), (Str.ofString "choice", .val (.int (c : Int))), (Str.ofString "place", .val (finD v))] (.int ((ringN ms c v : Nat) : Int)) := by
  obtain ⟨g, cl⟩ := O
  subst hO
  have hfin : (List.range 8).foldl (gStep ms c) (none, v, []) = (some 7, it (gm ms) c v 8, [it (gm ms) c v 1, it (gm ms) c v 2, it (gm ms) c v 3, it (gm ms) c v 4, it (gm ms) c v 5, it (gm ms) c v 6, it (gm ms) c v 7, it (gm ms) c v 8]) := rfl
  apply Exists.intro
  conv => lhs; arg 2; whnf
  refine b_next (s_own rfl rfl) ?_
  refine b_next (σ1 := stG ms c ((List.range 8).foldl (gStep ms c) (none, v, []))) (s_for rfl (d := .range 0 ((8 : Nat) : Int) 1) (r_call rfl rfl (r_glob rfl rfl) (r_cons r_int r_nil) rfl) (it_rangeN (by decide)) ?_) ?_
  · refine f_foldI (S := stG ms c) (y := (none, v, [])) (fun y m => y.2.2.length + m ≤ 60) (by (first | exact List.mem_cons_self | exact List.mem_cons_of_mem _ List.mem_cons_self | decide | simp)) (fun y x hx m hm => ⟨by unfold gStep; simp; omega, ?_⟩) rfl
    obtain ⟨q, u, ps⟩ := y
    have mv := move_at (ms u) c u
    have mo : binD .Mod (.int ((if bitN c u.1 then ms u % 8 else ms u / 8 % 8 : Nat) : Int)) (.int 4) = some (finD ((gm ms).nx u (bitN c u.1))) := (bin_mod (by decide)).trans (by
      show some (D.int _) = some (D.int _)
      congr 2)
    cases q
    all_goals
      refine ⟨_, rfl, b_next (s_asg rfl rfl (d := finD ((gm ms).nx u (bitN c u.1))) (r_bin (r_sub rfl (r_sub rfl (r_var rfl rfl) (r_var rfl rfl) (file_at ms u)) (r_bin r_int (r_bin r_int (r_bin (r_bin (r_var rfl rfl) (r_pow u.2 (r_var rfl rfl)) (bin_div (pow_small u.2))) r_int (bin_mod (by decide))) (bin_mul (by decide))) rfl) mv) r_int mo)) ?_⟩
      refine b_next (s_app rfl ⟨rfl, rfl, rfl⟩ (d := finD ((gm ms).nx u (bitN c u.1))) (r_var rfl rfl) (by simp at hm ⊢; (first | lia | omega))) (b_end ?_)
      unfold stG gStep
      simp only [List.map_append]
      rfl
  · rw [hfin]
    refine b_ret (s_ret (r_call rfl rfl (r_glob rfl rfl) (r_cons (d := .list (((fins.filter (inRing (gm ms) c v)).map fun x => ((2 ^ x.1 : Nat) : Int)).map .int)) ?_ r_nil) ?_))
    · refine r_comp rfl (r_peek (d := .range 0 4 1) rfl (r_call rfl rfl (r_glob rfl rfl) (r_cons r_int r_nil) rfl) fins_it) (by decide) (r_clause rfl ?_) ?_
      · rw [List.map_map]
        refine cat_fm fun x m => r_one (r_ifs1 (t_cmp rfl (r_var rfl rfl) (r_slc (d := .list ([it (gm ms) c v 1, it (gm ms) c v 2, it (gm ms) c v 3, it (gm ms) c v 4, it (gm ms) c v 5, it (gm ms) c v 6, it (gm ms) c v 7, it (gm ms) c v 8].map finD)) (r_var rfl rfl) (r_part r_int) r_part0 rfl) ?_)) ?_
        · exact any_fin x [it (gm ms) c v 5, it (gm ms) c v 6, it (gm ms) c v 7, it (gm ms) c v 8]
        · refine (r_pow x.2 (r_var rfl rfl)).trans ?_
          rw [Int.toNat_natCast]
          simp
      · rw [List.length_map, List.length_map]; exact Nat.le_trans (List.length_filter_le _ _) (by decide)
    · rw [call_sum]
      unfold ringN
      congr 2
      generalize fins.filter (inRing (gm ms) c v) = l
      induction l with
      | nil => rfl
      | cons a l ih => rw [List.map_cons, List.map_cons, List.sum_cons, List.sum_cons, ih]; simp
end
end
section
noncomputable def letsN (m : Nat) : Bool := (((m / 64 % 8 : Nat) : Int) == 0) || !(bt m 10)
noncomputable def prN (m : Nat) : Int × Bool := (((m / 64 % 8 : Nat) : Int), letsN m)
noncomputable def numP (p : Int × Bool) : Int := 2 * p.1 + (if p.2 then 1 else 0)
theorem gtP_num (p q : Int × Bool) : gtP p q = decide (numP p > numP q) := by
  obtain ⟨a, x⟩ := p
  obtain ⟨b, y⟩ := q
  unfold gtP numP
  by_cases h : a = b
  · subst h
    simp only [if_true]
    cases x <;> cases y <;> simp <;> omega
  · simp only [h, if_false]
    by_cases g : a > b
    · rw [decide_eq_true g, eq_comm, decide_eq_true_eq]
      cases x <;> cases y <;> simp <;> omega
    · rw [decide_eq_false g, eq_comm, decide_eq_false_iff_not]
      cases x <;> cases y <;> simp <;> omega
theorem par0 (m : Nat) : par (2 * m) = false := by unfold par; rw [Nat.mul_mod_right]; rfl
theorem par1 (m : Nat) : par (2 * m + 1) = true := by unfold par; rw [Nat.mul_add_mod]; rfl
theorem key_num (ms : Fin 4 → Nat) (v : Fin 4) : numP (prN (ms v)) = (((gm ms).key v : Nat) : Int) ∧ par ((gm ms).key v) = (prN (ms v)).2 := by
  have e : (gm ms).key v = if ms v / 64 % 8 = 0 then 1 else 2 * (ms v / 64 % 8) + (if bt (ms v) 10 then 0 else 1) := rfl
  rw [e]
  unfold numP prN letsN
  by_cases h : ms v / 64 % 8 = 0
  · rw [if_pos h, h]; exact ⟨rfl, rfl⟩
  · rw [if_neg h]
    have hi : (((ms v / 64 % 8 : Nat) : Int) == 0) = false := beq_eq_false_iff_ne.mpr fun q => h (by omega)
    rw [hi]
    cases bt (ms v) 10
    · exact ⟨rfl, par1 _⟩
    · exact ⟨rfl, par0 _⟩
theorem max_key (ms : Fin 4 → Nat) (l : List (Fin 4)) (h : 0 < l.length) : (maxP (l.map fun v => prN (ms v))).2 = par (maxK (l.map (gm ms).key)) := by
  have hl : (l.map fun v => prN (ms v)).length = l.length := List.length_map ..
  have e : (fun i j => gtP ((l.map fun v => prN (ms v)).getD i (0, false)) ((l.map fun v => prN (ms v)).getD j (0, false))) = fun i j => decide ((fun i => numP ((l.map fun v => prN (ms v)).getD i (0, false))) i > (fun i => numP ((l.map fun v => prN (ms v)).getD i (0, false))) j) := funext fun i => funext fun j => gtP_num _ _
  unfold maxP
  rw [e, hl]
  obtain ⟨h1, h2⟩ := argBest_gt (fun i => numP ((l.map fun v => prN (ms v)).getD i (0, false))) (l.length - 1)
  generalize argBest _ _ = i at h1 h2
  have at_ : ∀ j, j < l.length → (l.map fun v => prN (ms v)).getD j (0, false) = prN (ms (l.getD j 0)) := fun j hj => by
    rw [List.getD_eq_getElem?_getD, List.getElem?_map, List.getD_eq_getElem?_getD, List.getElem?_eq_getElem hj]; rfl
  have hi : i < l.length := Nat.lt_of_le_of_lt h1 (Nat.sub_lt h (by decide))
  have km : maxK (l.map (gm ms).key) = (gm ms).key (l.getD i 0) := by
    refine maxK_is (List.mem_map.mpr ⟨_, ?_, rfl⟩) fun x m => ?_
    · rw [List.getD_eq_getElem?_getD, List.getElem?_eq_getElem hi]; exact List.getElem_mem hi
    · obtain ⟨y, my, rfl⟩ := List.mem_map.mp m
      obtain ⟨j, hj, rfl⟩ := List.mem_iff_getElem.mp my
      have := h2 j (Nat.le_sub_one_of_lt hj)
      rw [at_ j hj, at_ i hi, (key_num ms _).1, (key_num ms _).1] at this
      have e2 : l.getD j 0 = l[j] := by rw [List.getD_eq_getElem?_getD, List.getElem?_eq_getElem hj]; rfl
      rw [e2] at this
      exact Int.ofNat_le.mp this
  rw [km, at_ i hi, (key_num ms _).2]
theorem pairs_map : ∀ ps : List (Int × Bool), pairsD (ps.map pairT) = some ps
  | [] => rfl
  | p :: ps => by
    show (some p).bind (fun x => (pairsD (ps.map pairT)).map (x :: ·)) = _
    rw [pairs_map ps]; rfl
theorem call_max {O : Orc} {ps : List (Int × Bool)} (h : 0 < ps.length) : applyD O (.cst (.builtin "max")) [.list (ps.map pairT)] = some (pairT (maxP ps)) := by
  show (pairsD (ps.map pairT)).bind (fun ps => if 0 < ps.length then some (pairT (maxP ps)) else none) = _
  rw [pairs_map]; exact if_pos h
theorem item_last {l : List (Fin 4)} (h : 0 < l.length) (hz : l.length ≤ 100) : itemD (.list (l.map finD)) (.int (-1)) = some (finD (l.getLastD 0)) := by
  have hx : ix (-1) (l.map finD).length = some (l.length - 1) := by
    rw [List.length_map]
    unfold ix
    rw [if_neg (by decide), if_pos (by omega)]
    exact congrArg some (by rw [Int.add_comm]; exact Int.toNat_sub l.length 1)
  show (if (l.map finD).length ≤ 1048576 then (ix (-1) (l.map finD).length).bind (fun j => (l.map finD)[j]?) else none) = _
  rw [if_pos (by rw [List.length_map]; (first | lia | omega)), hx]
  show (l.map finD)[l.length - 1]? = _
  have hi : l.length - 1 < l.length := Nat.sub_lt h (by decide)
  rw [List.getElem?_map, List.getElem?_eq_getElem hi, lastD l h, List.getD_eq_getElem?_getD, List.getElem?_eq_getElem hi]; rfl
theorem find_fin (x : Fin 4) : ∀ l : List (Fin 4), x ∈ l → (l.map fun v => ((v.1 : Nat) : Int)).findIdx? (fun i => i == ((x.1 : Nat) : Int)) = some (l.idxOf x)
  | [], h => by cases h
  | y :: l, h => by
    rw [List.map_cons, List.findIdx?_cons, List.idxOf_cons]
    have e : (((y.1 : Nat) : Int) == ((x.1 : Nat) : Int)) = (y == x) := eq_int (by simp [Fin.ext_iff])
    rw [e]
    cases q : y == x
    · have hm : x ∈ l := by
        rcases List.mem_cons.mp h with rfl | m
        · simp at q
        · exact m
      rw [find_fin x l hm]; rfl
    · rfl
theorem call_index {l : List (Fin 4)} {x : Fin 4} (hz : l.length ≤ 100) (h : x ∈ l) : callM (Str.ofString "index") (.list (l.map finD)) [finD x] = some (.int ((l.idxOf x : Nat) : Int)) := by
  show (if (l.map finD).length ≤ 1048576 then intsD (l.map finD) else none).bind (fun xs => (xs.findIdx? fun i => i == ((x.1 : Nat) : Int)).bind fun (j : Nat) => some (D.int j)) = _
  rw [if_pos (by rw [List.length_map]; (first | lia | omega))]
  have e : l.map finD = (l.map fun v => ((v.1 : Nat) : Int)).map D.int := by rw [List.map_map]; rfl
  rw [e, ints_map]
  show ((l.map fun v => ((v.1 : Nat) : Int)).findIdx? _).bind _ = _
  rw [find_fin x l h]; rfl
noncomputable def endN (ms : Fin 4 → Nat) (k : Nat) (l : List (Fin 4)) (s : Bool) : Bool :=
  if l.contains ((gm ms).nx (l.getLastD 0) s) then par (maxK ((l.drop (l.idxOf ((gm ms).nx (l.getLastD 0) s))).map (gm ms).key)) else winsF (gm ms) k (l ++ [(gm ms).nx (l.getLastD 0) s])
noncomputable def stV (ms : Fin 4 → Nat) (l : List (Fin 4)) (es : List D) (mv : Option (Fin 4)) (rg : Option D) : Vars :=
  (Str.ofString "files", .val (filesD ms)) :: (Str.ofString "path", .val (.list (l.map finD))) :: (Str.ofString "here", .val (fileD (ms (l.getLastD 0)))) :: (Str.ofString "ends", .own es) ::
    (match mv with
    | some v => (Str.ofString "move", .val (finD v)) :: (match rg with | some d => [(Str.ofString "ring", .val d)] | none => [])
    | none => [])
section
variable {O : Orc} (hO : O.glob = fun x => globs.lookup x)
include hO
set_option maxRecDepth 100000 in
theorem w_turn (P : Params) (ms : Fin 4 → Nat) (k : Nat) (l : List (Fin 4)) (hz : l.length ≤ 10) (s : Bool)
    (H : (gm ms).nx (l.getLastD 0) s ∉ l → O.call (.ref 205) [filesD ms, .list ((l ++ [(gm ms).nx (l.getLastD 0) s]).map finD)] = some (.bool (winsF (gm ms) k (l ++ [(gm ms).nx (l.getLastD 0) s]))))
    (es : List D) (he : es.length ≤ 10) (mv : Option (Fin 4)) (rg : Option D) : ∃ rg' σ1, setT (scIn (hd.heap_39 P) 205) (forTg (stAt (bodyIn (hd.heap_39 P) 205) 2)) (stV ms l es mv rg) (finD ((gm ms).nx (l.getLastD 0) s)) = some σ1 ∧
    blkD (exS O [Str.ofString "ends"] 19 (scIn (hd.heap_39 P) 205)) (forB (stAt (bodyIn (hd.heap_39 P) 205) 2)) σ1 = some (stV ms l (es ++ [.bool (endN ms k l s)]) (some ((gm ms).nx (l.getLastD 0) s)) rg', .next) := by
  obtain ⟨g, cl⟩ := O
  subst hO
  have he2 : es.length < 1048576 := by omega
  have h1 : ∃ σ1, setT (scIn (hd.heap_39 P) 205) (forTg (stAt (bodyIn (hd.heap_39 P) 205) 2)) (stV ms l es mv rg) (finD ((gm ms).nx (l.getLastD 0) s)) = some σ1 ∧ σ1 = stV ms l es (some ((gm ms).nx (l.getLastD 0) s)) (mv.bind fun _ => rg) := by
    cases mv with
    | none => exact ⟨_, rfl, rfl⟩
    | some v => exact ⟨_, rfl, rfl⟩
  obtain ⟨σ1, a, rfl⟩ := h1
  unfold endN
  generalize (gm ms).nx (l.getLastD 0) s = x at H a ⊢
  generalize (mv.bind fun _ => rg) = rg1 at a
  by_cases hm : x ∈ l
  · rw [if_pos (List.contains_iff_mem.mpr hm)]
    have hp : 0 < (l.drop (l.idxOf x)).length := by rw [List.length_drop]; have := List.idxOf_lt_length_of_mem hm; omega
    have hd : (l.drop (l.idxOf x)).length ≤ 10 := by rw [List.length_drop]; omega
    have mk := max_key ms _ hp
    refine ⟨some (.list ((l.drop (l.idxOf x)).map fun v => fileD (ms v))), _, a, ?_⟩
    conv => lhs; arg 2; whnf
    cases rg1
    all_goals
      refine b_next (s_ifT (t_cmp rfl (r_var rfl rfl) (r_var rfl rfl) ((any_fin x l).trans (congrArg some (List.contains_iff_mem.mpr hm)))) (b_next (s_asg rfl rfl (d := .list ((l.drop (l.idxOf x)).map fun v => fileD (ms v))) ?_) (b_next (s_app rfl ⟨rfl, rfl, rfl⟩ (d := .bool (par (maxK ((l.drop (l.idxOf x)).map (gm ms).key)))) ?_ he2) (b_end rfl)))) (b_end rfl)
      · refine r_comp rfl (r_peek (d := .list ((l.drop (l.idxOf x)).map finD)) rfl (r_slc (d := .list (l.map finD)) (a := some ((l.idxOf x : Nat) : Int)) (r_var rfl rfl) (r_part (r_meth (d := .list (l.map finD)) (ds := [finD x]) rfl (r_var rfl rfl) (r_cons (r_var rfl rfl) r_nil) (call_index (by omega) hm))) r_part0 ((cut_list (by rw [List.length_map]; (first | lia | omega))).trans ?_)) rfl) (by rw [List.length_map]; (first | lia | omega)) (r_clause rfl (cat_m fun v m => ?_)) (by rw [List.length_map]; (first | lia | omega))
        · rw [slice_from, List.map_drop]
        · exact r_one (c := true) r_ifs0 (r_sub rfl (r_var rfl rfl) (r_var rfl rfl) (file_at ms v))
      · refine r_sub (d := pairT (maxP ((l.drop (l.idxOf x)).map fun v => prN (ms v)))) rfl (r_call rfl rfl (r_glob rfl rfl) (r_cons (d := .list (((l.drop (l.idxOf x)).map fun v => prN (ms v)).map pairT)) ?_ r_nil) (call_max (by rw [List.length_map]; exact hp))) r_int (congrArg (fun b => some (D.bool b)) mk)
        refine r_comp rfl (r_peekV rfl (r_var rfl rfl) rfl) (by rw [List.length_map]; (first | lia | omega)) (r_clause rfl ?_) (by rw [List.length_map, List.length_map]; (first | lia | omega))
        rw [List.map_map]
        refine cat_m fun v m => r_one (c := true) r_ifs0 ((r_tuple rfl (r_cons (r_sub rfl (r_var rfl rfl) r_int rfl) (r_cons (r_or (r_cmp rfl (r_sub rfl (r_var rfl rfl) r_int rfl) r_int rfl) rfl (r_not (r_sub rfl (r_var rfl rfl) r_int rfl) rfl)) r_nil)) (by (first | exact List.mem_cons_self | exact List.mem_cons_of_mem _ List.mem_cons_self | decide | simp))).trans ?_)
        show some (D.tuple [_, if _ = true then _ else _]) = some (D.tuple [_, D.bool (letsN (ms v))])
        unfold letsN
        cases (((ms v / 64 % 8 : Nat) : Int) == 0) <;> rfl
  · have hc : l.contains x = false := by
      cases q : l.contains x
      · rfl
      · exact absurd (List.contains_iff_mem.mp q) hm
    rw [if_neg (by rw [hc]; exact Bool.false_ne_true)]
    refine ⟨rg1, _, a, ?_⟩
    conv => lhs; arg 2; whnf
    have h := H hm
    cases rg1
    all_goals
      refine b_next (s_ifF (t_cmp rfl (r_var rfl rfl) (r_var rfl rfl) ((any_fin x l).trans (congrArg some hc))) (b_next (s_app rfl ⟨rfl, rfl, rfl⟩ (d := .bool (winsF (gm ms) k (l ++ [x]))) ?_ he2) (b_end rfl))) (b_end rfl)
      refine r_call rfl rfl (r_glob rfl rfl) (r_cons (r_var rfl rfl) (r_cons (d := .list ((l ++ [x]).map finD)) ?_ r_nil)) h
      rw [List.map_append]
      exact r_bin (a := .list (l.map finD)) (b := .list [finD x]) (r_var rfl rfl) (r_list rfl (r_cons (r_var rfl rfl) r_nil) (by (first | exact List.mem_cons_self | exact List.mem_cons_of_mem _ List.mem_cons_self | decide | simp))) (sum_list (by rw [List.length_map, List.length_singleton]; (first | lia | omega)))
set_option maxRecDepth 100000 in
theorem e_wins (P : Params) (ms : Fin 4 → Nat) (k : Nat) (l : List (Fin 4)) (h0 : 0 < l.length) (hz : l.length ≤ 10)
    (H : ∀ s, (gm ms).nx (l.getLastD 0) s ∉ l → O.call (.ref 205) [filesD ms, .list ((l ++ [(gm ms).nx (l.getLastD 0) s]).map finD)] = some (.bool (winsF (gm ms) k (l ++ [(gm ms).nx (l.getLastD 0) s])))) :
    Rets O [Str.ofString "ends"] 20 (hd.heap_39 P) 205 [(Str.ofString "files", .val (filesD ms)), (Str.ofString "path", .val (.list (l.map finD)))] (.bool (winsF (gm ms) (k + 1) l)) := by
  obtain ⟨rg1, σ1, a1, b1⟩ := w_turn hO P ms k l hz false (H false) [] (by (first | exact List.mem_cons_self | exact List.mem_cons_of_mem _ List.mem_cons_self | decide | simp)) none none
  obtain ⟨rg2, σ2, a2, b2⟩ := w_turn hO P ms k l hz true (H true) _ (show ([] ++ [D.bool (endN ms k l false)]).length ≤ 10 by simp) (some ((gm ms).nx (l.getLastD 0) false)) rg1
  have ew : winsF (gm ms) (k + 1) l = (if (gm ms).own (l.getLastD 0) then endN ms k l false || endN ms k l true else endN ms k l false && endN ms k l true) := rfl
  have ow : (gm ms).own (l.getLastD 0) = !(bt (ms (l.getLastD 0)) 11) := rfl
  rw [ew, ow]
  obtain ⟨g, cl⟩ := O
  subst hO
  have mo : ∀ s : Bool, binD .Mod (.int ((if s then ms (l.getLastD 0) % 8 else ms (l.getLastD 0) / 8 % 8 : Nat) : Int)) (.int 4) = some (finD ((gm ms).nx (l.getLastD 0) s)) := fun s => (bin_mod (by decide)).trans (by
    show some (D.int _) = some (D.int _)
    congr 2)
  generalize endN ms k l false = e1 at b1 a2 b2 ⊢
  generalize endN ms k l true = e2 at b2 ⊢
  apply Exists.intro
  conv => lhs; arg 2; whnf
  refine b_next (s_asg rfl rfl (r_sub rfl (r_var rfl rfl) (r_sub rfl (r_var rfl rfl) (r_neg r_int) (item_last h0 (by omega))) (file_at ms _))) (b_next (s_own rfl rfl) (b_next (s_for (d := .tuple [finD ((gm ms).nx (l.getLastD 0) false), finD ((gm ms).nx (l.getLastD 0) true)]) rfl ?_ rfl (f_next a1 b1 (f_next a2 b2 (f_nil rfl)))) ?_))
  · exact r_tuple rfl (r_cons (r_bin (r_sub rfl (r_var rfl rfl) r_int rfl) r_int (mo false)) (r_cons (r_bin (r_sub rfl (r_var rfl rfl) r_int rfl) r_int (mo true)) r_nil)) (by (first | exact List.mem_cons_self | exact List.mem_cons_of_mem _ List.mem_cons_self | decide | simp))
  · have r1 : truD (D.bool (bt (ms (l.getLastD 0)) 11)) = some (bt (ms (l.getLastD 0)) 11) := rfl
    cases hb : bt (ms (l.getLastD 0)) 11
    · refine b_ret (s_ret (r_ifeF (t_val rfl (r_sub rfl (r_var rfl rfl) r_int rfl) (r1.trans (congrArg some hb))) (r_cmp rfl r_bool (r_var rfl rfl) ?_)))
      cases e1 <;> cases e2 <;> rfl
    · refine b_ret (s_ret (r_ifeT (t_val rfl (r_sub rfl (r_var rfl rfl) r_int rfl) (r1.trans (congrArg some hb))) (r_cmp rfl r_bool (r_var rfl rfl) ?_)))
      cases e1 <;> cases e2 <;> rfl
end
end
section
noncomputable def judgedD (J : Nat → Fin 4 → Bool) : D := .list ((List.range 16).map fun c => .list (fins.map fun v => .bool (J c v)))
noncomputable def sameL (places : List (Fin 4)) (part : Nat) : List Nat := (List.range 16).filter fun c => places.all fun x => bitN c x.1 == bitN part x.1
noncomputable def partOk (places : List (Fin 4)) (part : Nat) : Bool := fins.all fun v => !(bitN part v.1 && !(places.contains v))
noncomputable def goodL (J : Nat → Fin 4 → Bool) (places : List (Fin 4)) (wished : Bool) (part : Nat) : List (Fin 4) := fins.filter fun v => (sameL places part).all fun c => J c v == wished
noncomputable abbrev natD (n : Nat) : D := .int (n : Int)
noncomputable def startsD (l : List (Fin 4)) : D := .list (l.map finD)
noncomputable def stQ (J : Nat → Fin 4 → Bool) (places : List (Fin 4)) (wished : Bool) (y : Option Nat × Option Nat × List (List (Fin 4))) : Vars :=
  (Str.ofString "judged", .val (judgedD J)) :: (Str.ofString "places", .val (startsD places)) :: (Str.ofString "wished", .val (.bool wished)) :: (Str.ofString "sure", .own (y.2.2.map startsD)) ::
    (match y.1 with
    | some p => (Str.ofString "part", .val (natD p)) :: (match y.2.1 with | some q => [(Str.ofString "same", .val (.list ((sameL places q).map natD)))] | none => [])
    | none => [])
noncomputable def qStep (J : Nat → Fin 4 → Bool) (places : List (Fin 4)) (wished : Bool) (y : Option Nat × Option Nat × List (List (Fin 4))) (p : Nat) : Option Nat × Option Nat × List (List (Fin 4)) :=
  (some p, if partOk places p = true then some p else y.1.bind fun _ => y.2.1, if partOk places p = true then y.2.2 ++ [goodL J places wished p] else y.2.2)
theorem q_fold (J : Nat → Fin 4 → Bool) (places : List (Fin 4)) (wished : Bool) : ∀ (l : List Nat) (y : Option Nat × Option Nat × List (List (Fin 4))), (l.foldl (qStep J places wished) y).2.2 = y.2.2 ++ (l.filter (partOk places)).map (goodL J places wished)
  | [], y => by simp
  | a :: l, y => by
    rw [List.foldl_cons, q_fold J places wished l, List.filter_cons]
    unfold qStep
    cases h : partOk places a
    · simp
    · simp
theorem eq_nil {ds : List D} : cmpD .Eq (.list ds) (.list []) = some (decide (ds = [])) := by
  cases ds with
  | nil => rfl
  | cons d ds => rfl
theorem all_nil {α : Type} (p q : α → Bool) (f : α → D) (l : List α) (h : ∀ x ∈ l, q x = !(p x)) : decide ((l.filter q).map f = []) = l.all p := by
  induction l with
  | nil => rfl
  | cons a l ih =>
    rw [List.filter_cons, List.all_cons, ← ih fun x m => h x (List.mem_cons_of_mem _ m), h a List.mem_cons_self]
    cases p a <;> simp
theorem any_finN (x : Fin 4) (l : List (Fin 4)) : cmpD .NotIn (finD x) (startsD l) = some (!(l.contains x)) := by
  show (anyD (fun e => eqD 3 e (finD x)) (l.map finD)).map (!·) = _
  rw [any_fin]; rfl
theorem cmp_bit1 (x v : Nat) : cmpD .Eq (.int ((x : Int) / (2 : Int) ^ ((v : Int).toNat) % 2)) (.int 1) = some (bitN x v) := congrArg some (bit_eq1 x v)
theorem bit_ne (a b : Nat) (v : Nat) : cmpD .NotEq (.int ((a : Int) / (2 : Int) ^ ((v : Int).toNat) % 2)) (.int ((b : Int) / (2 : Int) ^ ((v : Int).toNat) % 2)) = some (!(bitN a v == bitN b v)) := by
  show some (_ != _) = _
  rw [bit_int, bit_int]
  unfold bitN
  rcases Nat.mod_two_eq_zero_or_one (a / 2 ^ v) with e | e <;> rcases Nat.mod_two_eq_zero_or_one (b / 2 ^ v) with e' | e' <;> · rw [e, e']; rfl
theorem judged_at (J : Nat → Fin 4 → Bool) {c : Nat} (hc : c < 16) : itemD (judgedD J) (natD c) = some (.list (fins.map fun v => .bool (J c v))) :=
  item_map (q := fun c => D.list (fins.map fun v => .bool (J c v))) (by decide) (by simp [hc])
theorem starts_at (f : Fin 4 → D) (v : Fin 4) : itemD (.list (fins.map f)) (finD v) = some (f v) := by
  rcases (by decide : ∀ v : Fin 4, v = 0 ∨ v = 1 ∨ v = 2 ∨ v = 3) v with rfl | rfl | rfl | rfl <;> rfl
theorem range16 : iterD (.range 0 16 1) = some ((List.range 16).map natD) := rfl
theorem fl_le {α : Type} {p : α → Bool} {l : List α} {n : Nat} (h : l.length ≤ n) : (l.filter p).length ≤ n := Nat.le_trans (List.length_filter_le _ _) h
theorem fm_le {α β : Type} {p : α → Bool} {f : α → β} {l : List α} {n : Nat} (h : l.length ≤ n) : ((l.filter p).map f).length ≤ n := by rw [List.length_map]; exact fl_le h
section
variable {O : Orc} (hO : O.glob = fun x => globs.lookup x)
include hO
set_option maxRecDepth 100000 in
theorem e_sure (P : Params) (J : Nat → Fin 4 → Bool) (places : List (Fin 4)) (hz : places.length ≤ 100) (wished : Bool) :
    Rets O [Str.ofString "sure"] 20 (hd.heap_39 P) 210 [(Str.ofString "judged", .val (judgedD J)), (Str.ofString "places", .val (startsD places)), (Str.ofString "wished", .val (.bool wished))] (.list ((sureL J places wished).map startsD)) := by
  obtain ⟨g, cl⟩ := O
  subst hO
  have hp2 : (places.map finD).length ≤ 1048576 := by rw [List.length_map]; omega
  refine ⟨stQ J places wished ((List.range 16).foldl (qStep J places wished) (none, none, [])), ?_⟩
  conv => lhs; arg 2; whnf
  refine b_next (s_own rfl rfl) ?_
  refine b_next (σ1 := stQ J places wished ((List.range 16).foldl (qStep J places wished) (none, none, []))) (s_for rfl (d := .range 0 16 1) (r_call rfl rfl (r_glob rfl rfl) (r_cons r_int r_nil) rfl) range16 ?_) ?_
  · refine f_foldI (S := stQ J places wished) (y := (none, none, [])) (fun y m => y.2.2.length + m ≤ 60) (by (first | exact List.mem_cons_self | exact List.mem_cons_of_mem _ List.mem_cons_self | decide | simp)) (fun y x hx m hm => ⟨?_, ?_⟩) rfl
    · unfold qStep
      split
      · simp only [List.length_append, List.length_singleton]; omega
      · dsimp only; omega
    obtain ⟨q, sm, su⟩ := y
    have hl : (su.map startsD).length < 1048576 := by rw [List.length_map]; dsimp only at hm; omega
    have hst : ∃ σ1, setT (scIn (hd.heap_39 P) 210) (forTg (stAt (bodyIn (hd.heap_39 P) 210) 1)) (stQ J places wished (q, sm, su)) (natD x) = some σ1 ∧ σ1 = stQ J places wished (some x, q.bind fun _ => sm, su) := by
      cases q <;> exact ⟨_, rfl, rfl⟩
    obtain ⟨σ1, a, rfl⟩ := hst
    refine ⟨_, a, ?_⟩
    have eS : stQ J places wished (qStep J places wished (q, sm, su) x) = stQ J places wished (some x, if partOk places x = true then some x else (q.bind fun _ => sm), if partOk places x = true then su ++ [goodL J places wished x] else su) := rfl
    rw [eS]
    generalize (q.bind fun _ => sm) = sm1 at a ⊢
    have hall : decide (((fins.filter fun v => (bitN x v.1 && !(places.contains v))).map finD) = []) = partOk places x := all_nil (fun v => !(bitN x v.1 && !(places.contains v))) _ finD fins fun v _ => by simp
    cases hb : partOk places x
    · rw [hb] at hall
      cases sm1
      all_goals
        refine b_next (s_ifF (t_cmp rfl (r_comp (es := (fins.filter fun v => (bitN x v.1 && !(places.contains v))).map finD) rfl (r_peek (d := .range 0 4 1) rfl (r_call rfl rfl (r_glob rfl rfl) (r_cons r_int r_nil) rfl) fins_it) (by decide) (r_clause rfl (cat_fm fun v m => r_one (r_ifs1 ?_) (r_var rfl rfl))) (fm_le (by decide))) (r_list rfl r_nil (by decide)) (eq_nil.trans (congrArg some hall))) b_nil) (b_end rfl)
        refine (t_bool (t_and (t_cmp rfl (r_bin (r_bin (r_var rfl rfl) (r_pow v.2 (r_var rfl rfl)) (bin_div (pow_small v.2))) r_int (bin_mod (by decide))) r_int (cmp_bit1 x v.1)) (t_and (t_cmp rfl (r_var rfl rfl) (r_var rfl rfl) (any_finN v places)) t_and0))).trans ?_
        rw [Bool.and_true]
    · rw [hb] at hall
      cases sm1
      all_goals
        refine b_next (s_ifT (t_cmp rfl (r_comp (es := (fins.filter fun v => (bitN x v.1 && !(places.contains v))).map finD) rfl (r_peek (d := .range 0 4 1) rfl (r_call rfl rfl (r_glob rfl rfl) (r_cons r_int r_nil) rfl) fins_it) (by decide) (r_clause rfl (cat_fm fun v m => r_one (r_ifs1 ?_) (r_var rfl rfl))) (fm_le (by decide))) (r_list rfl r_nil (by decide)) (eq_nil.trans (congrArg some hall))) (b_next (s_asg rfl rfl (d := .list ((sameL places x).map natD)) ?_) (b_next (s_app rfl ⟨rfl, rfl, rfl⟩ (d := startsD (goodL J places wished x)) ?_ hl) (b_end rfl)))) (b_end ?_)
        · refine (t_bool (t_and (t_cmp rfl (r_bin (r_bin (r_var rfl rfl) (r_pow v.2 (r_var rfl rfl)) (bin_div (pow_small v.2))) r_int (bin_mod (by decide))) r_int (cmp_bit1 x v.1)) (t_and (t_cmp rfl (r_var rfl rfl) (r_var rfl rfl) (any_finN v places)) t_and0))).trans ?_
          rw [Bool.and_true]
        · refine r_comp rfl (r_peek (d := .range 0 16 1) rfl (r_call rfl rfl (r_glob rfl rfl) (r_cons r_int r_nil) rfl) range16) (by decide) (r_clause rfl (cat_fm fun c m => r_one (r_ifs1 ?_) (r_var rfl rfl))) (fm_le (by decide))
          refine (t_cmp rfl (r_comp (es := (places.filter fun v => !(bitN c v.1 == bitN x v.1)).map finD) rfl (r_peekV rfl (r_var rfl rfl) rfl) hp2 (r_clause rfl (cat_fm fun v m => r_one (r_ifs1 (t_cmp rfl (r_bin (r_bin (r_var rfl rfl) (r_pow v.2 (r_var rfl rfl)) (bin_div (pow_small v.2))) r_int (bin_mod (by decide))) (r_bin (r_bin (r_var rfl rfl) (r_pow v.2 (r_var rfl rfl)) (bin_div (pow_small v.2))) r_int (bin_mod (by decide))) (bit_ne c x v.1))) (r_var rfl rfl))) (fm_le (by omega))) (r_list rfl r_nil (by decide)) (eq_nil.trans (congrArg some (all_nil (fun v => bitN c v.1 == bitN x v.1) _ finD places fun v _ => rfl))))
        · refine r_comp rfl (r_peek (d := .range 0 4 1) rfl (r_call rfl rfl (r_glob rfl rfl) (r_cons r_int r_nil) rfl) fins_it) (by decide) (r_clause rfl (cat_fm fun v m => r_one (r_ifs1 ?_) (r_var rfl rfl))) (fm_le (by decide))
          refine (t_cmp rfl (r_comp (es := ((sameL places x).filter fun c => !(J c v == wished)).map natD) rfl (r_peekV rfl (r_var rfl rfl) rfl) (fm_le (by decide)) (r_clause rfl (cat_fm fun c m => r_one (r_ifs1 (t_cmp rfl (r_sub rfl (r_sub rfl (r_var rfl rfl) (r_var rfl rfl) (judged_at J (List.mem_range.mp (List.mem_filter.mp m).1))) (r_var rfl rfl) (starts_at _ v)) (r_var rfl rfl) rfl)) (r_var rfl rfl))) (fm_le (fl_le (by decide)))) (r_list rfl r_nil (by decide)) (eq_nil.trans (congrArg some (all_nil (fun c => J c v == wished) _ natD (sameL places x) fun c _ => rfl))))
        · unfold stQ
          simp only [if_true, List.map_append]
          rfl
  · have e : ((List.range 16).foldl (qStep J places wished) (none, none, [])).2.2 = sureL J places wished := by rw [q_fold]; rfl
    rw [← e]
    generalize (List.range 16).foldl (qStep J places wished) (none, none, []) = Y
    refine b_ret (s_ret ?_)
    exact r_var rfl rfl
end
end
section
noncomputable def fam {ι : Type} (args : ι → List D) (res : ι → D) (ds : List D) : Option D := by classical exact if h : ∃ i, args i = ds then some (res h.choose) else none
theorem fam_inv {ι : Type} {args : ι → List D} {res : ι → D} {ds : List D} {d : D} (h : fam args res ds = some d) : ∃ i, args i = ds ∧ res i = d := by
  unfold fam at h
  split at h
  · rename_i q
    exact ⟨_, q.choose_spec, Option.some.inj h⟩
  · cases h
theorem fam_at {ι : Type} {args : ι → List D} {res : ι → D} (i : ι) (h : ∀ j, args j = args i → res j = res i) : fam args res (args i) = some (res i) := by
  unfold fam
  have q : ∃ j, args j = args i := ⟨i, rfl⟩
  rw [dif_pos q, h _ q.choose_spec]
theorem fin_inj {u v : Fin 4} (h : finD u = finD v) : u = v := Fin.ext (Int.ofNat.inj (D.int.inj h))
theorem fins_inj : ∀ {l l' : List (Fin 4)}, l.map finD = l'.map finD → l = l'
  | [], [], _ => rfl
  | [], _ :: _, h => by cases h
  | _ :: _, [], h => by cases h
  | a :: l, b :: l', h => by
    rw [List.map_cons, List.map_cons] at h
    obtain ⟨h1, h2⟩ := List.cons.inj h
    rw [fin_inj h1, fins_inj h2]
theorem quads_of : ∀ (k : Nat) (l : List Nat), l.length = 4 * k → (∀ v ∈ l, v < 64) → ∃ qs : List Quad, l = qs.flatMap Quad.sixes ∧ (∀ q ∈ qs, q.ok) ∧ qs.length = k
  | 0, l, h, _ => ⟨[], by simpa using List.length_eq_zero_iff.mp (by (first | lia | omega)), (fun q m => by cases m), rfl⟩
  | k + 1, l, h, hv => by
    match l, h, hv with
    | a :: b :: c :: d :: r, h, hv =>
      obtain ⟨qs, e, ok, hl⟩ := quads_of k r (by simp at h; (first | lia | omega)) fun v m => hv v (by simp [m])
      refine ⟨⟨a, b, c, d⟩ :: qs, by rw [List.flatMap_cons, ← e]; rfl, fun q m => ?_, by simp [hl]⟩
      rcases List.mem_cons.mp m with rfl | m
      · exact ⟨hv _ (by (first | exact List.mem_cons_self | exact List.mem_cons_of_mem _ List.mem_cons_self | decide | simp)), hv _ (by (first | exact List.mem_cons_self | exact List.mem_cons_of_mem _ List.mem_cons_self | decide | simp)), hv _ (by (first | exact List.mem_cons_self | exact List.mem_cons_of_mem _ List.mem_cons_self | decide | simp)), hv _ (by (first | exact List.mem_cons_self | exact List.mem_cons_of_mem _ List.mem_cons_self | decide | simp))⟩
      · exact ok q m
theorem written_all (P : Params) (vs : List Nat) (hz : vs.length ≤ 100) (hv : ∀ v ∈ vs, v < 64) : Rets O2 [] 20 (hd.heap_39 P) 171 [(Str.ofString "values", .val (.list (vs.map nI)))] (.str (vs.map tab)) := by
  have hp : padN vs ≤ 3 := by unfold padN; (first | lia | omega)
  have hl : (vs ++ List.replicate (padN vs) 0).length = 4 * ((vs.length + padN vs) / 4) := by
    rw [List.length_append, List.length_replicate]
    exact (Nat.mul_div_cancel' (Nat.dvd_of_mod_eq_zero (pad_0 vs.length))).symm
  obtain ⟨qs, e, ok, hq⟩ := quads_of _ _ hl fun v m => by
    rcases List.mem_append.mp m with m | m
    · exact hv v m
    · have := List.eq_of_mem_replicate m; (first | lia | omega)
  obtain ⟨b1, b2⟩ := b64_quads qs ok
  have ho : ((qs.flatMap Quad.octs).map Nat.toUInt8).length ≤ 1000 := by
    have : (qs.flatMap Quad.octs).length = 3 * qs.length := by
      clear e hq b1 b2 ok
      induction qs with
      | nil => rfl
      | cons q qs ih => rw [List.flatMap_cons, List.length_append, ih]; simp [Quad.octs]; (first | lia | omega)
    rw [List.length_map, this, hq]
    (first | lia | omega)
  refine e_written (O := O2) rfl P vs qs e ok hz ?_
  show (if _ ∧ _ then _ else none : Option D) = _
  rw [if_pos ⟨ho, b2⟩, b1]
theorem nI_ints (xs : List Int) (h : xs.all (fun i => decide (0 ≤ i ∧ i < 64)) = true) : xs.map D.int = (xs.map Int.toNat).map nI := by
  rw [List.map_map]
  apply List.map_congr_left
  intro i m
  have := List.all_eq_true.mp h i m
  simp only [decide_eq_true_eq] at this
  show D.int i = D.int ((i.toNat : Nat) : Int)
  rw [Int.toNat_of_nonneg this.1]
noncomputable def ringA (ms : Fin 4 → Nat) (i : Nat × Fin 4) : List D := [filesD ms, natD i.1, finD i.2]
theorem ring_at (ms : Fin 4 → Nat) (c : Nat) (v : Fin 4) : fam (ringA ms) (fun i => natD (ringN ms i.1 i.2)) [filesD ms, natD c, finD v] = some (natD (ringN ms c v)) :=
  fam_at (args := ringA ms) (c, v) fun j h => by
    obtain ⟨h1, h2⟩ := List.cons.inj (List.cons.inj h).2
    have e1 := Int.ofNat.inj (D.int.inj h1)
    have e2 := fin_inj (List.cons.inj h2).1
    obtain ⟨a, b⟩ := j
    cases e1; cases e2; rfl
noncomputable def wroteF (xs : List Int) : Option D := if xs.length ≤ 100 ∧ xs.all (fun i => decide (0 ≤ i ∧ i < 64)) = true then some (.str (xs.map fun i => tab i.toNat)) else none
noncomputable def c3 (ms : Fin 4 → Nat) : Value → List D → Option D := orcL [
  (152, oneL fun xs => if xs.length ≤ 60 then some (.list ((modesL xs).map .int)) else none),
  (159, oneI fun m => if 0 ≤ m then some (fileD m.toNat) else none),
  (166, oneI fun m => if 0 ≤ m then some (fileD m.toNat) else none),
  (171, oneL wroteF),
  (195, fam (ringA ms) fun i => natD (ringN ms i.1 i.2))]
noncomputable def O3 (ms : Fin 4 → Nat) : Orc := { glob := fun x => globs.lookup x, call := c3 ms }
theorem wrote_at (vs : List Nat) (hz : vs.length ≤ 100) (hv : ∀ v ∈ vs, v < 64) : oneL wroteF [.list (vs.map nI)] = some (.str (vs.map tab)) := by
  have e : vs.map nI = (vs.map fun (n : Nat) => ((n : Nat) : Int)).map D.int := by rw [List.map_map]; rfl
  rw [e]
  show (intsD ((vs.map fun (n : Nat) => ((n : Nat) : Int)).map D.int)).bind wroteF = _
  rw [ints_map]
  show wroteF _ = _
  unfold wroteF
  refine (if_pos ⟨by rw [List.length_map]; exact hz, ?_⟩).trans (by rw [List.map_map]; rfl)
  rw [List.all_eq_true]
  intro i m
  obtain ⟨v, mv, rfl⟩ := List.mem_map.mp m
  have := hv v mv
  exact decide_eq_true ⟨by omega, by omega⟩
section
variable {prog : Program} {w : World} {P : Params} {p : Program} {loose : List Str} {mg mb : Str → Option Value} {h₀ : Heap}
set_option maxRecDepth 100000 in
theorem o3_ok (Z : Wd P p loose mg mb h₀) {n : Nat} (hn : 1 ≤ n) (ms : Fin 4 → Nat) : OrcOK prog w (n + 4) (BaseAt h₀) (O3 ms) := by
  have o := o0_ok (prog := prog) (w := w) Z (n + 3)
  have o2 := o2_ok (prog := prog) (w := w) Z hn
  have o1 := o1_ok (prog := prog) (w := w) Z (n := n + 2) (by omega)
  have hn3 : 1 ≤ n + 3 := by (first | lia | omega)
  refine orcL_ok Z (.cons rfl (fun ds d e => ?_) (.cons rfl (fun ds d e => ?_) (.cons rfl (fun ds d e => ?_) (.cons rfl (fun ds d e => ?_) (.cons rfl (fun ds d e => ?_) .nil)))))
  · obtain ⟨xs, rfl, e2⟩ := oneL_inv e
    obtain ⟨hl, e3⟩ := ite_inv e2
    rw [← e3]
    exact cc152 (ds := [.list (xs.map .int)]) (ap := [Str.ofString "modes"]) (k := 20) hn3 Z o rfl (e_modes (O := O0) rfl P xs hl)
  · obtain ⟨m, rfl, e2⟩ := oneI_inv e
    obtain ⟨h0, e3⟩ := ite_inv e2
    rw [← e3]
    obtain ⟨N, rfl⟩ := Int.eq_ofNat_of_zero_le h0
    exact cc159 (ds := [.int ((N : Nat) : Int)]) (ap := [Str.ofString "parts"]) (k := 20) hn3 Z o2 rfl (e_shown (O := O2) rfl P N rfl)
  · obtain ⟨m, rfl, e2⟩ := oneI_inv e
    obtain ⟨h0, e3⟩ := ite_inv e2
    rw [← e3]
    obtain ⟨N, rfl⟩ := Int.eq_ofNat_of_zero_le h0
    exact cc166 (ds := [.int ((N : Nat) : Int)]) (ap := []) (k := 20) hn3 Z o1 rfl (e_told (O := O1) rfl P N rfl)
  · obtain ⟨xs, rfl, e2⟩ := oneL_inv e
    obtain ⟨hl, e3⟩ := ite_inv e2
    rw [← e3, nI_ints xs hl.2]
    have hw := written_all P (xs.map Int.toNat) (by rw [List.length_map]; exact hl.1) (fun v m => by
      obtain ⟨i, mi, rfl⟩ := List.mem_map.mp m
      have := List.all_eq_true.mp hl.2 i mi
      simp only [decide_eq_true_eq] at this
      omega)
    have e2 : (xs.map Int.toNat).map tab = xs.map fun i => tab i.toNat := by rw [List.map_map]; rfl
    rw [e2] at hw
    intro h W vs b al r
    exact cc171 (ds := [.list ((xs.map Int.toNat).map nI)]) (ap := []) (k := 20) hn3 Z o2 rfl hw b al r
  · obtain ⟨⟨c, v⟩, rfl, rfl⟩ := fam_inv e
    exact cc195 (ds := [filesD ms, natD c, finD v]) (ap := [Str.ofString "passed"]) (k := 20) hn3 Z o rfl (e_ring (O := O0) rfl P ms c v)
noncomputable def winA (ms : Fin 4 → Nat) (l : List (Fin 4)) : List D := [filesD ms, startsD l]
theorem winA_inj {ms : Fin 4 → Nat} {l l' : List (Fin 4)} (h : winA ms l = winA ms l') : l = l' := fins_inj (D.list.inj (List.cons.inj (List.cons.inj h).2).1)
theorem c_wins (Z : Wd P p loose mg mb h₀) {n : Nat} (hn : 1 ≤ n) (ms : Fin 4 → Nat) : ∀ (k : Nat) (l : List (Fin 4)), 0 < l.length → l.Nodup → l.length + k = 5 → Ct prog w (n + k) h₀ (.ref 205) (winA ms l) (.bool (winsF (gm ms) k l))
  | 0, l, h0, nd, hk => absurd nd (no5 l hk)
  | k + 1, l, h0, nd, hk => by
    have o : OrcOK prog w (n + k) (BaseAt h₀) { glob := fun x => globs.lookup x, call := orcL [(205, fam (ι := { s : Bool // (gm ms).nx (l.getLastD 0) s ∉ l }) (fun s => winA ms (l ++ [(gm ms).nx (l.getLastD 0) s.1])) fun s => .bool (winsF (gm ms) k (l ++ [(gm ms).nx (l.getLastD 0) s.1])))] } := by
      refine orcL_ok Z (.cons rfl (fun ds d e => ?_) .nil)
      obtain ⟨s, rfl, rfl⟩ := fam_inv e
      refine c_wins Z hn ms k _ (by (first | exact List.mem_cons_self | exact List.mem_cons_of_mem _ List.mem_cons_self | decide | simp)) ?_ (by rw [List.length_append, List.length_singleton]; (first | lia | omega))
      rw [List.nodup_append]
      exact ⟨nd, by simp, fun x hx y hy => by rw [List.mem_singleton.mp hy]; intro e; exact s.2 (e ▸ hx)⟩
    refine cc205 (ds := winA ms l) (ap := [Str.ofString "ends"]) (k := 20) (by omega) Z o rfl (e_wins rfl P ms k l h0 (by omega) fun s hs => ?_)
    exact fam_at (ι := { s : Bool // (gm ms).nx (l.getLastD 0) s ∉ l }) (args := fun s => winA ms (l ++ [(gm ms).nx (l.getLastD 0) s.1])) (res := fun s => .bool (winsF (gm ms) k (l ++ [(gm ms).nx (l.getLastD 0) s.1]))) ⟨s, hs⟩ fun j e => congrArg (fun q => D.bool (winsF (gm ms) k q)) (winA_inj e)
noncomputable def placesB (ms : Fin 4 → Nat) (b : Bool) : List (Fin 4) := fins.filter fun v => (gm ms).own v == b
noncomputable def sureA (ms : Fin 4 → Nat) (b : Bool) : List D := [judgedD (jd (gm ms)), startsD (placesB ms b), .bool b]
noncomputable def cL (ms : Fin 4 → Nat) : Value → List D → Option D := orcL [
  (152, oneL fun xs => if xs.length ≤ 60 then some (.list ((modesL xs).map .int)) else none),
  (159, oneI fun m => if 0 ≤ m then some (fileD m.toNat) else none),
  (166, oneI fun m => if 0 ≤ m then some (fileD m.toNat) else none),
  (205, fam (fun v => winA ms [v]) fun v => .bool (winsF (gm ms) 4 [v])),
  (210, fam (sureA ms) fun b => .list ((sureL (jd (gm ms)) (placesB ms b) b).map startsD))]
noncomputable def OL (ms : Fin 4 → Nat) : Orc := { glob := fun x => globs.lookup x, call := cL ms }
set_option maxRecDepth 100000 in
theorem ol_ok (Z : Wd P p loose mg mb h₀) {n : Nat} (hn : 1 ≤ n) (ms : Fin 4 → Nat) : OrcOK prog w (n + 4) (BaseAt h₀) (OL ms) := by
  have o := o0_ok (prog := prog) (w := w) Z (n + 3)
  have o3 := o3_ok (prog := prog) (w := w) Z hn ms
  have c3 : ∀ a ds d, (O3 ms).call (.ref a) ds = some d → Ct prog w (n + 4) h₀ (.ref a) ds d := fun a ds d e {h W vs} b al r => o3.call b al e r
  refine orcL_ok Z (.cons rfl (fun ds d e => ?_) (.cons rfl (fun ds d e => ?_) (.cons rfl (fun ds d e => ?_) (.cons rfl (fun ds d e => ?_) (.cons rfl (fun ds d e => ?_) .nil)))))
  · exact c3 152 ds d e
  · exact c3 159 ds d e
  · exact c3 166 ds d e
  · obtain ⟨v, rfl, rfl⟩ := fam_inv e
    exact c_wins Z hn ms 4 [v] (by (first | exact List.mem_cons_self | exact List.mem_cons_of_mem _ List.mem_cons_self | decide | simp)) (by (first | exact List.mem_cons_self | exact List.mem_cons_of_mem _ List.mem_cons_self | decide | simp)) rfl
  · obtain ⟨b, rfl, rfl⟩ := fam_inv e
    exact cc210 (ds := sureA ms b) (ap := [Str.ofString "sure"]) (k := 20) (by omega) Z o rfl (e_sure (O := O0) rfl P (jd (gm ms)) (placesB ms b) (Nat.le_trans (List.length_filter_le _ _) (by decide)) b)
end
end
section
noncomputable def agN (s p : Nat) : Nat := s + p + 26 * (p % 2)
noncomputable def plF (i s : Nat) : Fin 4 := ⟨(i + s) % 4, Nat.mod_lt _ (by decide)⟩
noncomputable def shpOf (ms : Fin 4 → Nat) (s : Nat) (v : Fin 4) : List Nat × Int × D := ([tab (agN s v.1)], ((ms v / 64 % 8 : Nat) : Int), .bool (!(bt (ms v) 10)))
noncomputable def shR (r : RI) : List Nat × Int × D := (r.2.1.ag, r.2.1.j, r.2.2)
noncomputable def shpL (ms : Fin 4 → Nat) (s i : Nat) : List (List Nat × Int × D) := (List.range i).map fun i => shpOf ms s (plF i s)
noncomputable def stRc (ms : Fin 4 → Nat) (s : Nat) (rec : Addr) (y : Option (Nat × Fin 4 × Addr × Addr) × List RI) : Vars :=
  (S' "files", .val (filesD ms)) :: (S' "shift", .val (natD s)) :: (S' "record", .val (.cst (.ref rec))) ::
    (match y.1 with | some q => [(S' "turn", .val (natD q.1)), (S' "place", .val (finD q.2.1)), (S' "kept", .val (.cst (.ref q.2.2.1))), (S' "rule", .val (.cst (.ref q.2.2.2)))] | none => [])
theorem noOwn_of {σ : Vars} (h : ∀ q ∈ σ, isOwnB q.2 = false) : ∀ x ds, σ.lookup x ≠ some (.own ds) := fun x ds e => by
  have := h _ (PySem.mem_of_lookup e)
  cases this
theorem stRc_noOwn (ms : Fin 4 → Nat) (s : Nat) (rec : Addr) (y : Option (Nat × Fin 4 × Addr × Addr) × List RI) : ∀ x ds, (stRc ms s rec y).lookup x ≠ some (.own ds) := noOwn_of (by
  intro q m
  unfold stRc at m
  rcases y with ⟨_ | i, l⟩
  all_goals
    simp only [List.mem_cons, List.not_mem_nil, or_false] at m
    rcases m with rfl | rfl | rfl | rfl | rfl | rfl | rfl <;> rfl)
theorem lk_ne {σ : Vars} {x y : Str} {b : B} (h : (y == x) = false) : (setV σ x b).lookup y = σ.lookup y := by rw [lookup_setV, h]; rfl
theorem lk_eq {σ : Vars} {x : Str} {b : B} : (setV σ x b).lookup x = some b := by rw [lookup_setV]; simp
theorem ag_lt : ∀ (s : Fin 20) (v : Fin 4), agN s.1 v.1 < 64 := by decide +kernel
theorem ag_ok : ∀ v : Fin 64, ([tab v.1] != [42]) = true ∧ [tab v.1].length ≤ 1000 ∧ [tab v.1].all (fun c => decide (c < 128)) = true := by decide +kernel
inductive RecJ (P : Params) (ms : Fin 4 → Nat) (s : Nat) (rec dx l1 lb : Addr) (i : Nat) (rl : List RI) (h : Heap) (W : List Addr) : Prop
  | mk (c) (a : fz h W rec = some (instObj 59 dx)) (b : DG (fz h W) dx (entM l1 lb)) (g : h.get? lb = some (listO (rl.map fun r => .ref r.1) c)) (r : ∀ r ∈ rl, RuleAt P (fz h W) r.1 r.2.1 r.2.2) (n : (rl.map (·.1)).Nodup) (e : rl.map shR = shpL ms s i) (t : Tabs P h W)
section
variable {prog : Program} {w : World} {P : Params} {p : Program} {loose : List Str} {mg mb : Str → Option Value} {h₀ : Heap} {O : Orc} {k : Nat} {V W0 X T : List Addr} {env : Env} {sc : List (Str × NameKind)} {σ σ' : Vars}
theorem FS.moveW {h : Heap} {a : Addr} (f : FS (BaseAt h₀) h (a :: V) W0 X env sc T σ) (h1 : a ∉ V) (h2 : a ∉ T) (hown : ∀ x ds, σ.lookup x ≠ some (.own ds)) : FS (BaseAt h₀) h V (a :: W0) X env sc T σ := by
  have to : ∀ b, b ∈ V ++ a :: W0 → b ∈ a :: V ++ W0 := fun b m => by
    rcases List.mem_append.mp m with m | m
    · exact List.mem_cons_of_mem _ (List.mem_append_left _ m)
    · rcases List.mem_cons.mp m with rfl | m
      · exact List.mem_cons_self
      · exact List.mem_cons_of_mem _ (List.mem_append_right _ m)
  have fro : ∀ b, b ∈ a :: V ++ W0 → b ∈ V ++ a :: W0 := fun b m => by
    rcases List.mem_cons.mp m with rfl | m
    · exact List.mem_append_right _ List.mem_cons_self
    · rcases List.mem_append.mp m with m | m
      · exact List.mem_append_left _ m
      · exact List.mem_append_right _ (List.mem_cons_of_mem _ m)
  exact {
    eo := f.eo, cal := f.cal, fra := f.fra, tx := f.tx
    tv := fun b m => by
      rcases List.mem_cons.mp (f.tv b m) with rfl | q
      · exact absurd m h2
      · exact q
    xw := fun b m => fro b (f.xw b m)
    vw := fun b m q => by
      rcases List.mem_cons.mp q with rfl | q
      · exact h1 m
      · exact f.vw b (List.mem_cons_of_mem _ m) q
    al := fun b m => f.al b (to b m)
    vo := fun x bb e => by
      obtain ⟨ok, v, hv, r⟩ := f.vo x bb e
      refine ⟨ok, v, hv, ?_⟩
      cases bb with
      | val d => exact Rep.mono (fz_less to) r
      | own ds => exact absurd e (hown x ds)
    ownV := fun x ds a e => absurd e (hown x ds)
    apart := fun x y ds es a e => absurd e (hown x ds)
    base := ⟨f.base.1, fun b m => f.base.2 b (to b m)⟩ }
noncomputable abbrev MR (lb : Addr) : List Addr := lb :: ZT
set_option maxRecDepth 100000 in
theorem tg185 (P : Params) : tgtOk (scIn (hd.heap_39 P) 185) (S' "place") = true ∧ tgtOk (scIn (hd.heap_39 P) 185) (S' "kept") = true ∧ tgtOk (scIn (hd.heap_39 P) 185) (S' "rule") = true ∧ tgtOk (scIn (hd.heap_39 P) 185) (S' "turn") = true ∧ tgtOk (scIn (hd.heap_39 P) 185) (S' "record") = true ∧
    (scIn (hd.heap_39 P) 185).lookup (S' "Entry") = some .globalImplicit ∧ (scIn (hd.heap_39 P) 185).lookup (S' "_law_reaches") = some .globalImplicit ∧ (scIn (hd.heap_39 P) 185).lookup (S' "_law_written") = some .globalImplicit ∧ (scIn (hd.heap_39 P) 185).lookup (S' "range") = some .globalImplicit := ⟨rfl, rfl, rfl, rfl, rfl, rfl, rfl, rfl, rfl⟩
set_option maxRecDepth 100000 in
theorem kv185 (P : Params) : kindV ((scIn (hd.heap_39 P) 185).lookup (S' "files")) = true ∧ kindV ((scIn (hd.heap_39 P) 185).lookup (S' "shift")) = true ∧ kindV ((scIn (hd.heap_39 P) 185).lookup (S' "turn")) = true ∧ kindV ((scIn (hd.heap_39 P) 185).lookup (S' "place")) = true ∧ kindV ((scIn (hd.heap_39 P) 185).lookup (S' "kept")) = true ∧ kindV ((scIn (hd.heap_39 P) 185).lookup (S' "rule")) = true := ⟨rfl, rfl, rfl, rfl, rfl, rfl⟩
theorem truD_bool (b : Bool) : truD (.bool b) = some b := rfl
set_option maxRecDepth 100000 in
theorem rec_loop (Z : Wd P p loose mg mb h₀) (Y : Wx mg h₀) {n : Nat} (hn : 1 ≤ n) (ms : Fin 4 → Nat) {sh : Nat} (hsh : sh < 20) {rec dx l1 lb : Addr} {A : Around} {s : Shared} {Q : Flow → Shared → Prop} {E : Value → Shared → Prop}
    (f : FS (BaseAt h₀) s.heap V W0 X env (scIn (hd.heap_39 P) 185) T (stRc ms sh rec (none, []))) (hcode : env.code = .ref 184) (hqual : env.qual ++ "<lambda>" = lamQ (hd.heap_39 P) 185) (hM : ∀ a ∈ MR lb, a ∈ W0) (J : RecJ P ms sh rec dx l1 lb 0 [] s.heap (V ++ W0)) (hlb : lb ∉ ZT) (am : Amb A (n + 4))
    (hq : ∀ y h' tk' V', Kw (MR lb ++ V) s.heap h' → Gr s.heap V V' → FS (BaseAt h₀) h' V' W0 X env (scIn (hd.heap_39 P) 185) T (stRc ms sh rec y) → RecJ P ms sh rec dx l1 lb 4 y.2 h' (V' ++ W0) → Q .next { s with heap := h', toks := tk' }) :
    wpAny (model prog w) A (exec (stAt (bodyIn (hd.heap_39 P) 185) 1) env) Q E s := by
  obtain ⟨tp, tk, tr, tt, _, lE, lR, lW, lN⟩ := tg185 P
  obtain ⟨vF, vS, vT, vP, vK, vR⟩ := kv185 P
  show wpAny (model prog w) A (exec (.For (.Name (S' "turn") _) (.Call (.Name (S' "range") _) [.Constant (.int 4) _ _] [] _)
      [.Assign [.Name (S' "place") _] (.BinOp (.BinOp (.Name (S' "turn") _) .Add (.Name (S' "shift") _) _) .Mod (.Constant (.int 4) _ _) _) _,
       .Assign [.Name (S' "kept") _] (.Call (.Name (S' "Entry") _) [] [] _) _,
       .Expr (.Call (.Attribute (.Attribute (.Name (S' "kept") _) (S' "useragents") _) (Str.ofString "append") _) [.Call (.Name (S' "_law_written") _) [.List [.BinOp (.BinOp (.Name (S' "shift") _) .Add (.Name (S' "place") _) _) .Add (.BinOp (.Constant (.int 26) _ _) .Mult (.BinOp (.Name (S' "place") _) .Mod (.Constant (.int 2) _ _) _) _) _] _] [] _] [] _) _,
       .Assign [.Name (S' "rule") _] (.Lambda _ (.Constant .none _ _) _ reP) _,
       .Assign [.Attribute (.Name (S' "rule") _) (S' "applies_to") _] (.Call (.Name (S' "_law_reaches") _) [.Name (S' "kept") _, .Subscript (.Subscript (.Name (S' "files") _) (.Name (S' "place") _) _) (.Constant (.int 1) _ _) _] [] _) _,
       .Assign [.Attribute (.Name (S' "rule") _) (S' "allowance") _] (.UnaryOp .Not (.Subscript (.Subscript (.Name (S' "files") _) (.Name (S' "place") _) _) (.Constant (.int 2) _ _) _) _) _,
       .Expr (.Call (.Attribute (.Attribute (.Name (S' "record") _) (S' "rulelines") _) (Str.ofString "append") _) [.Name (S' "rule") _] [] _) _] [] _) env) Q E s
  generalize hsc : scIn (hd.heap_39 P) 185 = sc at f hq tp tk tr tt lE lR lW lN vF vS vT vP vK vR ⊢
  have o := o3_ok (prog := prog) (w := w) Z hn ms
  have n4 : 1 ≤ n + 4 := by omega
  refine for_x (k := 20) (ds := (List.range 4).map natD) (M := MR lb) (st := stRc ms sh rec) (y0 := (none, [])) (J := fun i y h W => RecJ P ms sh rec dx l1 lb i y.2 h W) (Rt := fun _ _ _ => False)
    o (ev_all n4 o 20).1 rfl ?_ f am hM ?_ ?_ (fun _ _ _ _ _ e => e) ?_ J hq (fun _ _ _ _ e => e.elim)
  · rw [show evE (O3 ms) 20 sc (stRc ms sh rec (none, [])) _ = some (.range 0 4 1) from r_call rfl rfl (r_glob lN rfl) (r_cons r_int r_nil) rfl]
    rfl
  · intro i d y hd
    exact ⟨_, show (if _ then _ else none) = _ from if_pos tt⟩
  · intro i y h h' W W' s1 kM ⟨c, a, b, g, r, nn, e, t⟩
    exact ⟨c, s1 _ _ a, b.up s1, kM _ (by (first | exact List.mem_cons_self | exact List.mem_cons_of_mem _ List.mem_cons_self | decide | simp)) _ g, fun q m => (r q m).up s1, nn, e, t.up s1 fun a m => kM a (List.mem_cons_of_mem _ m)⟩
  · intro i d y σ1 V W0 X A s Q E hd hset f hM J am hnext _
    have him : i < 4 := by
      have := (List.getElem?_eq_some_iff.mp hd).1
      simpa using this
    have hdi : d = natD i := by
      have : ((List.range 4).map natD)[i]? = some (natD i) := by simp [him]
      rw [this] at hd; cases hd; rfl
    subst hdi
    have hσ1 : σ1 = setV (stRc ms sh rec y) (S' "turn") (.val (natD i)) := (ite_inv hset).2.symm
    have l1' : σ1.lookup (S' "files") = some (.val (filesD ms)) := by rw [hσ1]; exact lk_ne rfl
    have l2' : σ1.lookup (S' "shift") = some (.val (natD sh)) := by rw [hσ1]; exact lk_ne rfl
    have l3' : σ1.lookup (S' "record") = some (.val (.cst (.ref rec))) := by rw [hσ1]; exact lk_ne rfl
    have l4' : σ1.lookup (S' "turn") = some (.val (natD i)) := by rw [hσ1]; exact lk_eq
    have hown : ∀ x ds, σ1.lookup x ≠ some (.own ds) := by rw [hσ1]; exact no_own (stRc_noOwn _ _ _ _)
    have hZ : ∀ a ∈ ZT, a ∈ W0 := fun a m => hM a (List.mem_cons_of_mem _ m)
    have ev : ∀ {hh : Heap} {σ : Vars} {e : Expr} {d : D}, FS (BaseAt h₀) hh V W0 X env sc T σ → evE (O3 ms) 20 sc σ e = some d → Gv prog w (n + 4) (V ++ W0) (eval e env) d hh := fun {hh σ e d} g he => (ev_all n4 o 20).1 sc σ e d he env hh (V ++ W0) X g.eo g.cal g.vo g.al g.base g.xw
    -- place
    refine wpAny_execs_cons (wpAny_Assign_Name (ev (d := finD (plF i sh)) f ?_ A s _ E (Kp.refl _) am fun u h1 tk1 k1 r1 => ?_) rfl)
    · exact r_bin (r_bin (r_var vT l4') (r_var vS l2') rfl) r_int ((bin_mod (by decide)).trans rfl)
    have f1 := f.kp o k1
    refine store_ok f1.eo f1.fra (tgt_2 tp) f1.tx fun h2 tk2 k2 F2 hv2 ho2 => ?_
    have f2 := f1.set o k2 F2 (tgt_1 tp) hv2 ho2 (b := .val (finD (plF i sh))) (BRep.st (b := .val (finD (plF i sh))) k2.keep f1.fra (fun a m => List.mem_append_left _ (f1.tv a m)) r1) fun ds a q => by cases q
    have kw2 : Kw T s.heap h2 := (Kw.of k1).trans k2
    have hown2 := no_own (x := S' "place") (d := finD (plF i sh)) hown
    -- kept
    refine kept_made (n := n + 2) (k := 20) (s := { s with heap := h2, toks := tk2 }) (ag := [tab (agN sh (plF i sh).1)]) Z (by omega) o f2 am hown2 lE tk (fun x => ?_) rfl rfl (ag_ok ⟨agN sh (plF i sh).1, ag_lt ⟨sh, hsh⟩ _⟩) fun x h3 tk3 k3 nx3 kx f3 => ?_
    · have q : agN sh (plF i sh).1 < 64 := ag_lt ⟨sh, hsh⟩ _
      refine r_call rfl rfl (r_glob lW rfl) (r_cons (d := .list ([agN sh (plF i sh).1].map nI)) (r_list rfl (r_cons (r_bin (r_bin (r_var vS ((lk_ne rfl).trans ((lk_ne rfl).trans l2'))) (r_var vP ((lk_ne rfl).trans lk_eq)) rfl) (r_bin r_int (r_bin (r_var vP ((lk_ne rfl).trans lk_eq)) r_int (bin_mod (by decide))) (bin_mul (by decide))) (d := nI (agN sh (plF i sh).1)) ?_) r_nil) (by (first | exact List.mem_cons_self | exact List.mem_cons_of_mem _ List.mem_cons_self | decide | simp))) r_nil) (wrote_at [agN sh (plF i sh).1] (by (first | exact List.mem_cons_self | exact List.mem_cons_of_mem _ List.mem_cons_self | decide | simp)) (by simpa using q))
      show some (D.int _) = some (D.int _)
      congr 2
    have sub2 : Sub (fz s.heap (V ++ W0)) (fz h2 (V ++ W0)) := Sub.trans (fz_mono k1) (fz_kw k2.keep fun a m => List.mem_append_left _ (f.tv a m))
    have sub3 : Sub (fz h2 (V ++ W0)) (fz h3 (V ++ W0)) := fz_kw k3.keep fun a m => List.mem_append_left _ (f.tv a m)
    have kT : ∀ a ∈ MR lb, a ∉ T := fun a m q => f.vw a (f.tv a q) (hM a m)
    obtain ⟨c, ja, jb, jg, jr, jn, je, jt⟩ := J
    have t3 : Tabs P h3 (V ++ W0) := jt.up (Sub.trans sub2 sub3) fun a m ob e => k3.keep _ _ (kT a (List.mem_cons_of_mem _ m)) (kw2.keep _ _ (kT a (List.mem_cons_of_mem _ m)) e)
    have hown3 := no_own (x := S' "kept") (d := .cst (.ref x)) hown2
    have lkF : ∀ fa, (setV (setV (setV σ1 (S' "place") (.val (finD (plF i sh)))) (S' "kept") (.val (.cst (.ref x)))) (S' "rule") (.val (.cst (.ref fa)))).lookup (S' "files") = some (.val (filesD ms)) := fun fa => (lk_ne rfl).trans ((lk_ne rfl).trans ((lk_ne rfl).trans l1'))
    have lkP : ∀ fa, (setV (setV (setV σ1 (S' "place") (.val (finD (plF i sh)))) (S' "kept") (.val (.cst (.ref x)))) (S' "rule") (.val (.cst (.ref fa)))).lookup (S' "place") = some (.val (finD (plF i sh))) := fun fa => (lk_ne rfl).trans ((lk_ne rfl).trans lk_eq)
    -- rule
    refine rule_part (n := n + 3) (k := 20) (s := { s with heap := h3, toks := tk3 }) (x := x) (ag := [tab (agN sh (plF i sh).1)]) (j := ((ms (plF i sh) / 64 % 8 : Nat) : Int)) (vb := !(bt (ms (plF i sh)) 10)) Z Y (by omega) o rfl f3 am hown3 lR tr (fun _ => rfl) rfl hcode hqual hZ t3 kx
      (fun fa => r_var vK ((lk_ne rfl).trans lk_eq)) (fun fa => r_sub rfl (r_sub rfl (r_var vF (lkF fa)) (r_var vP (lkP fa)) (file_at ms _)) r_int rfl) (fun fa => r_not (r_sub rfl (r_sub rfl (r_var vF (lkF fa)) (r_var vP (lkP fa)) (file_at ms _)) r_int rfl) rfl) rfl rfl fun fa h4 tk4 k4 nf4 R4 t4 f4 => ?_
    have hown4 := no_own (x := S' "rule") (d := .cst (.ref fa)) hown3
    have sub4 : Sub (fz h3 (V ++ W0)) (fz h4 (V ++ W0)) := fz_kw k4.keep fun a m => by
      rcases List.mem_append.mp m with m | m
      · exact List.mem_append_right _ (hZ a m)
      · exact List.mem_append_left _ (f.tv a m)
    have s04 := Sub.trans sub2 (Sub.trans sub3 sub4)
    obtain ⟨_, gr4⟩ := fz_some.mp (s04 _ _ ja)
    obtain ⟨d4, _⟩ := (jb.up s04).obj
    have lbT : lb ∉ T := kT lb (by (first | exact List.mem_cons_self | exact List.mem_cons_of_mem _ List.mem_cons_self | decide | simp))
    have g4 : h4.get? lb = some (listO (y.2.map fun r => .ref r.1) c) := k4.keep _ _ (fun q => by
      rcases List.mem_append.mp q with q | q
      · exact hlb q
      · exact lbT q) (k3.keep _ _ lbT (kw2.keep _ _ lbT jg))
    have hyl : y.2.length = i := by
      have := congrArg List.length je
      unfold shpL at this
      simpa using this
    -- record.rulelines.append(rule)
    refine wpAny_execs_cons (app_attr (k := 20) n4 o Z (s := { s with heap := h4, toks := tk4 }) f4 am hown4 ((lk_ne rfl).trans ((lk_ne rfl).trans ((lk_ne rfl).trans l3'))) gr4 d4 (l := lb) rfl (entK P).a2 g4 (List.mem_append_right _ (hM lb (by (first | exact List.mem_cons_self | exact List.mem_cons_of_mem _ List.mem_cons_self | decide | simp)))) lbT (by rw [List.length_map]; (first | lia | omega)) (r_var vR lk_eq) rfl rfl fun u c' h5 tk5 k5 g5 r5 f5 => ?_)
    cases r5
    have sub5 : Sub (fz h4 (V ++ W0)) (fz h5 (V ++ W0)) := fz_kw k5.keep fun a m => by rw [List.mem_singleton.mp m]; exact List.mem_append_right _ (hM lb (by (first | exact List.mem_cons_self | exact List.mem_cons_of_mem _ List.mem_cons_self | decide | simp)))
    have s05 := Sub.trans s04 sub5
    have eσ : setV (setV (setV σ1 (S' "place") (.val (finD (plF i sh)))) (S' "kept") (.val (.cst (.ref x)))) (S' "rule") (.val (.cst (.ref fa))) = stRc ms sh rec (some (i, plF i sh, x, fa), y.2 ++ [(fa, ⟨x, [tab (agN sh (plF i sh).1)], ((ms (plF i sh) / 64 % 8 : Nat) : Int)⟩, .bool !(bt (ms (plF i sh)) 10))]) := by
      rw [hσ1]
      rcases y with ⟨_ | ⟨i0, v0, x0, f0⟩, l⟩ <;> rfl
    rw [eσ] at f5
    have zne : ∀ a ∈ ZT, a ∉ [lb] := fun a m q => hlb (by rw [← List.mem_singleton.mp q]; exact m)
    refine wpAny_execs_nil (hnext _ h5 tk5 V ?_ Gr.refl f5 ⟨c', s05 _ _ ja, jb.up s05, ?_, fun r m => ?_, ?_, ?_, t4.up sub5 fun a m ob e => k5.keep _ _ (zne a m) e⟩)
    · have e1 : Kw (MR lb ++ V) s.heap h3 := (kw2.trans k3).less fun a m => List.mem_append_right _ (f.tv a m)
      have e2 : Kw (MR lb ++ V) h3 h4 := k4.less fun a m => by
        rcases List.mem_append.mp m with m | m
        · exact List.mem_append_left _ (List.mem_cons_of_mem _ m)
        · exact List.mem_append_right _ (f.tv a m)
      exact (e1.trans e2).trans (k5.less fun a m => by rw [List.mem_singleton.mp m]; exact List.mem_append_left _ List.mem_cons_self)
    · rw [List.map_append]; exact g5
    · rcases List.mem_append.mp m with m | m
      · exact (jr r m).up s05
      · rw [List.mem_singleton.mp m]; exact R4.up sub5
    · rw [List.map_append, List.nodup_append]
      refine ⟨jn, by simp, fun a ma b mb => ?_⟩
      obtain ⟨r, mr, rfl⟩ := List.mem_map.mp ma
      rw [List.map_singleton, List.mem_singleton] at mb
      subst mb
      intro q
      obtain ⟨_, _, _, _, g1, _⟩ := ((jr r mr).up (Sub.trans sub2 sub3)).ex
      have := (fz_some.mp g1).2
      rw [q, nf4] at this; cases this
    · unfold shpL at je ⊢
      rw [List.map_append, je, List.range_succ, List.map_append]; rfl
end
end
section
section
variable {prog : Program} {w : World} {P : Params} {p : Program} {loose : List Str} {mg mb : Str → Option Value} {h₀ : Heap} {O : Orc} {k : Nat} {V W0 X T : List Addr} {env : Env} {sc : List (Str × NameKind)} {σ σ' : Vars}
theorem repL_refs (g : Gh) : ∀ rl : List RI, RepL g (rl.map fun r => D.cst (.ref r.1)) (rl.map fun r => .ref r.1)
  | [] => rfl
  | _ :: l => ⟨_, _, rfl, rfl, repL_refs g l⟩
set_option maxRecDepth 100000 in
theorem b185 (P : Params) : bodyIn (hd.heap_39 P) 185 = [stAt (bodyIn (hd.heap_39 P) 185) 0, stAt (bodyIn (hd.heap_39 P) 185) 1, stAt (bodyIn (hd.heap_39 P) 185) 2] ∧ (fdIn (hd.heap_39 P) 185).code = .ref 184 ∧ [S' "files", S' "shift"].all (tgtOk (scIn (hd.heap_39 P) 185)) = true := ⟨rfl, rfl, rfl⟩
set_option maxRecDepth 100000 in
theorem record_call (Z : Wd P p loose mg mb h₀) (Y : Wx mg h₀) {n : Nat} (hn : 1 ≤ n) (ms : Fin 4 → Nat) {sh : Nat} (hsh : sh < 20) {W : List Addr} {vs : List Value} {A : Around} {s : Shared} {Q : Value → Shared → Prop} {E : Value → Shared → Prop}
    (b : BaseAt h₀ s.heap W) (al : Al W s.heap) (hZ : ∀ a ∈ ZT, a ∈ W) (tb : Tabs P s.heap W) (r : RepL (fz s.heap W) [filesD ms, natD sh] vs) (am : Amb A (n + 5))
    (hq : ∀ rec rl h' tk', Kw ZT s.heap h' → Tabs P h' W → RecAt P (fz h' W) rec rl → rl.map shR = shpL ms sh 4 → Q (.ref rec) { s with heap := h', toks := tk' }) :
    wpAny (model prog w) A (call (.ref 185) vs) Q E s := by
  obtain ⟨hb, hco, hk⟩ := b185 P
  obtain ⟨_, _, _, _, tr, lE, _, _, _⟩ := tg185 P
  have o := o3_ok (prog := prog) (w := w) Z hn ms
  refine call_enter (n := n + 4) (xs := [S' "files", S' "shift"]) (ds := [filesD ms, natD sh]) (us := vs) (args := ⟨vs, []⟩) (fd185 P) (fn185 Z) (fun s _ => BindsTo.of_eq (bi185 P vs r.length)) rfl rfl hk b al r am ?_
  intro env T h1 tk1 hec heq hes k1 hTn f amD E'
  have hcode : env.code = .ref 184 := hec.trans hco
  have hqual : env.qual ++ "<lambda>" = lamQ (hd.heap_39 P) 185 := by rw [heq]; rfl
  have hsc : (fdIn (hd.heap_39 P) 185).scope.names = scIn (hd.heap_39 P) 185 := rfl
  rw [hsc] at f
  rw [hb]
  have own0 : ∀ x ds, (([S' "files", S' "shift"].zip (List.map B.val [filesD ms, natD sh])) : Vars).lookup x ≠ some (.own ds) := noOwn_of (by
    intro q m
    have m : q ∈ [(S' "files", B.val (filesD ms)), (S' "shift", B.val (natD sh))] := m
    rcases List.mem_cons.mp m with rfl | m
    · rfl
    · rw [List.mem_singleton.mp m]; rfl)
  have wT : ∀ {a}, a ∈ W → a ∉ T := fun {a} m q => f.vw a (f.tv a q) m
  -- record = Entry()
  refine wpAny_execs_cons ?_
  show wpAny (model prog w) _ (exec (.Assign [.Name (S' "record") _] (.Call (.Name (S' "Entry") _) [] [] _) _) env) _ E' _
  refine wpAny_Assign_Name (ent_eval (n := n + 2) (s := { s with heap := h1, toks := tk1 }) Z (by omega) f.eo lE f.base f.al amD fun rec dx l1 lb h2 tk2 k2 hf nd hx hdx hl1 hlb => ?_) rfl
  simp only [List.nodup_cons, List.mem_cons, List.not_mem_nil, or_false, not_or, not_false_eq_true, List.nodup_nil, and_true] at nd
  obtain ⟨⟨nxd, _, nxb⟩, ⟨_, ndb⟩, _⟩ := nd
  have hfx : h1.get? rec = none := hf rec List.mem_cons_self
  have hfd : h1.get? dx = none := hf dx (List.mem_cons_of_mem _ List.mem_cons_self)
  have hfb : h1.get? lb = none := hf lb (List.mem_cons_of_mem _ (List.mem_cons_of_mem _ (List.mem_cons_of_mem _ List.mem_cons_self)))
  have f2 : FS (BaseAt h₀) h2 (lb :: T) W [] env (scIn (hd.heap_39 P) 185) T _ := f.grow o (Gr.one hfb) k2 fun a m => by
    rcases List.mem_cons.mp m with rfl | m
    · exact ⟨_, hlb⟩
    · obtain ⟨ob, e⟩ := f.al a (List.mem_append_left _ m); exact ⟨ob, k2 _ _ e⟩
  have nT : ∀ {a}, h1.get? a = none → a ∉ T := fun {a} e m => f.out e (List.mem_append_left _ (f.tv a m))
  have nW : ∀ {a}, h1.get? a = none → a ∉ W := fun {a} e m => f.out e (List.mem_append_right _ m)
  refine store_ok f2.eo f2.fra (tgt_2 tr) f2.tx fun h3 tk3 k3 F3 hv3 ho3 => ?_
  have f3 := (f2.set o k3 F3 (tgt_1 tr) hv3 ho3 (b := .val (.cst (.ref rec))) rfl fun ds a q => by cases q).moveW (nT hfb) (nT hfb) (no_own own0)
  have nl : lb ∉ ZT := fun m => nW hfb (hZ _ m)
  have hM : ∀ a ∈ MR lb, a ∈ lb :: W := fun a m => by
    rcases List.mem_cons.mp m with rfl | m
    · exact List.mem_cons_self
    · exact List.mem_cons_of_mem _ (hZ a m)
  have sub1 : Sub (fz s.heap W) (fz h1 (T ++ W)) := fz_gr ⟨fun a m => List.mem_append_right _ m, fun a m => by
    rcases List.mem_append.mp m with m | m
    · exact .inr (hTn a m)
    · exact .inl m⟩ k1
  have sub3 : Sub (fz h1 (T ++ W)) (fz h3 (T ++ lb :: W)) := fun a ob q => by
    obtain ⟨na, e⟩ := fz_some.mp q
    have nt : a ∉ T := fun z => na (List.mem_append_left _ z)
    refine fz_some.mpr ⟨fun z => ?_, k3.keep _ _ nt (k2 _ _ e)⟩
    rcases List.mem_append.mp z with z | z
    · exact nt z
    · rcases List.mem_cons.mp z with rfl | z
      · rw [hfb] at e; cases e
      · exact na (List.mem_append_right _ z)
  have t3 : Tabs P h3 (T ++ lb :: W) := tb.up (Sub.trans sub1 sub3) fun a m ob e => k3.keep _ _ (wT (hZ a m)) (k2 _ _ (k1 _ _ e))
  have up3 : ∀ {a ob}, h1.get? a = none → h2.get? a = some ob → h3.get? a = some ob := fun {a ob} n e => k3.keep _ _ (nT n) e
  have out3 : ∀ {a}, h1.get? a = none → a ≠ lb → a ∉ T ++ lb :: W := fun {a} n nb m => by
    rcases List.mem_append.mp m with m | m
    · exact nT n m
    · rcases List.mem_cons.mp m with rfl | m
      · exact nb rfl
      · exact nW n m
  have J0 : RecJ P ms sh rec dx l1 lb 0 [] h3 (T ++ lb :: W) := ⟨0, fz_some.mpr ⟨out3 hfx nxb, up3 hfx hx⟩, DG.of (out3 hfd ndb) (hdx.at' fun ob e => up3 hfd e), up3 hfb hlb, (fun r m => by cases m), List.nodup_nil, rfl, t3⟩
  refine wpAny_execs_cons (rec_loop (V := T) (W0 := lb :: W) (s := { s with heap := h3, toks := tk3 }) Z Y hn ms hsh f3 hcode hqual hM J0 nl amD fun y h4 tk4 V4 k4 g4 f4 J4 => ?_)
  -- return record
  refine wpAny_execs_cons (wpAny_Return_some ?_)
  show wpAny (model prog w) _ (eval (.Name (S' "record") _) env) _ E' _
  refine name_val (h := h4) (W := V4 ++ lb :: W) (d := .cst (.ref rec)) f4.eo.kind f4.vo rfl _ { s with heap := h4, toks := tk4 } _ E' (Kp.refl _) amD fun u h5 tk5 k5 r5 => ?_
  cases r5
  obtain ⟨c, ja, jb, jg, jr, jn, je, jt⟩ := J4
  have lessW : Sub (fz h4 (V4 ++ lb :: W)) (fz h5 W) := Sub.trans (fz_less fun a m => List.mem_append_right _ (List.mem_cons_of_mem _ m)) (fz_mono k5)
  have nlb : lb ∉ W := nW hfb
  refine hq rec y.2 h5 tk5 ?_ (jt.up lessW fun a _ ob e => k5 _ _ e) ⟨⟨dx, _, .ref lb, lessW _ _ ja, jb.up lessW, rfl, rfl, rep_list nlb ⟨_, k5 _ _ jg, rfl, c, rfl, rfl⟩ (repL_refs _ y.2)⟩, fun q m => (jr q m).up lessW, jn, ?_, fun q m => ?_⟩ je
  · refine ⟨fun a ob na e => ?_, fun a ⟨ob, e⟩ => ?_⟩
    · have e1 := k1 _ _ e
      have nt : a ∉ T := fun m => by rw [hTn a m] at e; cases e
      have nb : a ≠ lb := fun q => by rw [q, hfb] at e1; cases e1
      exact k5 _ _ (k4.keep _ _ (fun m => by
        rcases List.mem_append.mp m with m | m
        · rcases List.mem_cons.mp m with rfl | m
          · exact nb rfl
          · exact na m
        · exact nt m) (k3.keep _ _ nt (k2 _ _ e1)))
    · obtain ⟨o5, e5⟩ := k4.live a (k3.live a ⟨ob, k2 _ _ (k1 _ _ e)⟩)
      exact ⟨o5, k5 _ _ e5⟩
  · have := congrArg List.length je
    unfold shpL at this
    rw [List.length_map, List.length_map, List.length_range] at this
    rw [this]; decide
  · have mq : shR q ∈ shpL ms sh 4 := je ▸ List.mem_map.mpr ⟨q, m, rfl⟩
    obtain ⟨i, _, e⟩ := List.mem_map.mp mq
    have e2 : q.2.2 = .bool (!(bt (ms (plF i sh)) 10)) := (congrArg (fun z : List Nat × Int × D => z.2.2) e).symm
    rw [e2]; rfl
end
end
section
noncomputable def nmOf (r s : Nat) : List Nat := (namedV r s).map tab
noncomputable def vdD (ms : Fin 4 → Nat) (s r : Nat) : D := (((shpL ms s 4).map fun q => (rvK (app q.1 (nmOf r s)) q.2.1, q.2.2)).foldl alStep (-1, .bool true)).2
theorem allow_vd {ms : Fin 4 → Nat} {s r : Nat} {rl : List RI} (h : rl.map shR = shpL ms s 4) : allowOf (rl.map (·.2)) (nmOf r s) = vdD ms s r := by
  unfold allowOf vdD
  rw [← h, List.map_map, List.map_map]
  rfl
theorem app_is : ∀ (s : Fin 20) (r : Fin 16) (v : Fin 4), app [tab (agN s.1 v.1)] (nmOf r.1 s.1) = bitN r.1 v.1 := by decide +kernel
theorem okT_nm : ∀ (s : Fin 20) (r : Fin 16), okT (nmOf r.1 s.1) = true ∧ (namedV r.1 s.1).length ≤ 100 ∧ ∀ v ∈ namedV r.1 s.1, v < 64 := by decide +kernel
noncomputable abbrev SS := Option (Fin 7 × Bool)
noncomputable def encS : SS → Int × D
  | none => (-1, .bool true)
  | some q => (((q.1.1 + 1 : Nat) : Int), .bool q.2)
noncomputable def keyS : SS → Nat
  | none => 1
  | some q => 2 * (q.1.1 + 1) + q.2.toNat
noncomputable def keyE (m : Nat) (b : Bool) : Nat := if m = 0 then 1 else 2 * m + b.toNat
noncomputable def stepS (y : SS) (m : Fin 8) (b : Bool) : SS := if m.1 = 0 then y else if keyS y < keyE m.1 b then some (⟨m.1 - 1, by omega⟩, b) else y
noncomputable def chkS (a b : Int × D) : Bool := a.1 == b.1 && (match a.2 with
  | .bool x => (asBool b.2).elim false fun y => x == y
  | _ => false)
theorem chkS_eq {a b : Int × D} (h : chkS a b = true) : a = b := by
  obtain ⟨i, d⟩ := a
  obtain ⟨j, e⟩ := b
  unfold chkS at h
  rw [Bool.and_eq_true, beq_iff_eq] at h
  obtain ⟨rfl, h⟩ := h
  cases d <;> first | (cases h; done) | skip
  cases q : asBool e with
  | none => rw [show asBool (i, e).2 = asBool e from rfl, q] at h; cases h
  | some y =>
    rw [show asBool (i, e).2 = asBool e from rfl, q] at h
    rw [asBool_inv q, beq_iff_eq.mp h]
theorem stepS_all : ∀ (m : Fin 8) (b : Bool), (chkS (alStep (encS none) ((m.1 : Int), .bool b)) (encS (stepS none m b)) && keyS (stepS none m b) == max (keyS none) (keyE m.1 b)) = true ∧
    ∀ (m' : Fin 7) (b' : Bool), (chkS (alStep (encS (some (m', b'))) ((m.1 : Int), .bool b)) (encS (stepS (some (m', b')) m b)) && keyS (stepS (some (m', b')) m b) == max (keyS (some (m', b'))) (keyE m.1 b)) = true := by decide +kernel
theorem stepS_is (y : SS) (m : Fin 8) (b : Bool) : alStep (encS y) ((m.1 : Int), .bool b) = encS (stepS y m b) ∧ keyS (stepS y m b) = max (keyS y) (keyE m.1 b) := by
  have h : (chkS (alStep (encS y) ((m.1 : Int), .bool b)) (encS (stepS y m b)) && keyS (stepS y m b) == max (keyS y) (keyE m.1 b)) = true := by
    cases y with
    | none => exact (stepS_all m b).1
    | some q => exact (stepS_all m b).2 q.1 q.2
  rw [Bool.and_eq_true, beq_iff_eq] at h
  exact ⟨chkS_eq h.1, h.2⟩
theorem trS_all : ∀ (m : Fin 7) (b : Bool), par (keyS (some (m, b))) = b := by decide +kernel
theorem encS_tr (y : SS) : (encS y).2 = .bool (par (keyS y)) := by
  cases y with
  | none => rfl
  | some q => exact congrArg D.bool (trS_all q.1 q.2).symm
theorem good_fold {α : Type} (f : α → Fin 8 × Bool) : ∀ (l : List α) (y : SS), ∃ z, (l.map fun a => (((f a).1.1 : Int), D.bool (f a).2)).foldl alStep (encS y) = encS z ∧ keyS z = (l.map fun a => keyE (f a).1.1 (f a).2).foldl max (keyS y)
  | [], y => ⟨y, rfl, rfl⟩
  | a :: l, y => by
    obtain ⟨e1, e2⟩ := stepS_is y (f a).1 (f a).2
    rw [List.map_cons, List.foldl_cons, List.map_cons, List.foldl_cons, e1, ← e2]
    exact good_fold f l _
theorem plF_mod (i s : Nat) : plF i s = plF i (s % 4) := Fin.ext (by show (i + s) % 4 = (i + s % 4) % 4; rw [Nat.add_mod_mod])
theorem plF_fin : ∀ (s v : Fin 4), ∃ i ∈ List.range 4, plF i s.1 = v := by decide +kernel
theorem plF_all (s : Nat) (v : Fin 4) : ∃ i ∈ List.range 4, plF i s = v := by
  obtain ⟨i, hi, e⟩ := plF_fin ⟨s % 4, Nat.mod_lt _ (by decide)⟩ v
  exact ⟨i, hi, (plF_mod i s).trans e⟩
theorem key_pos (ms : Fin 4 → Nat) (v : Fin 4) : 1 ≤ (gm ms).key v := by
  show 1 ≤ (if ms v / 64 % 8 = 0 then 1 else 2 * (ms v / 64 % 8) + (if bt (ms v) 10 then 0 else 1))
  split
  · exact Nat.le_refl _
  · rename_i h
    exact Nat.le_trans (Nat.le_trans (Nat.pos_of_ne_zero h) (Nat.le_mul_of_pos_left _ (by decide))) (Nat.le_add_right _ _)
theorem vd_is (ms : Fin 4 → Nat) (s : Fin 20) (r : Fin 16) {x : Fin 4} (hx : bitN r.1 x.1 = true) : vdD ms s.1 r.1 = .bool (par (maxK ((fins.filter fun v => bitN r.1 v.1).map (gm ms).key))) := by
  have e : ((shpL ms s.1 4).map fun q => (rvK (app q.1 (nmOf r.1 s.1)) q.2.1, q.2.2)) = (List.range 4).map fun i => (((if bitN r.1 (plF i s.1).1 then ⟨ms (plF i s.1) / 64 % 8, Nat.mod_lt _ (by decide)⟩ else 0 : Fin 8).1 : Int), D.bool (!(bt (ms (plF i s.1)) 10))) := by
    unfold shpL
    rw [List.map_map]
    apply List.map_congr_left
    intro i _
    show (rvK (app [tab (agN s.1 (plF i s.1).1)] (nmOf r.1 s.1)) _, _) = _
    rw [app_is s r (plF i s.1)]
    cases bitN r.1 (plF i s.1).1 <;> rfl
  obtain ⟨z, g, k⟩ := good_fold (fun i => ((if bitN r.1 (plF i s.1).1 then ⟨ms (plF i s.1) / 64 % 8, Nat.mod_lt _ (by decide)⟩ else 0 : Fin 8), !(bt (ms (plF i s.1)) 10))) (List.range 4) none
  unfold vdD
  rw [e]
  show ((((List.range 4).map _).foldl alStep (encS none))).2 = _
  rw [g, encS_tr, k]
  congr 2
  have hmap : ((List.range 4).map fun i => keyE (if bitN r.1 (plF i s.1).1 then ⟨ms (plF i s.1) / 64 % 8, Nat.mod_lt _ (by decide)⟩ else 0 : Fin 8).1 (!(bt (ms (plF i s.1)) 10))) = (List.range 4).map fun i => if bitN r.1 (plF i s.1).1 then (gm ms).key (plF i s.1) else 1 := List.map_congr_left fun i _ => by
    show _ = if bitN r.1 (plF i s.1).1 then (if ms (plF i s.1) / 64 % 8 = 0 then 1 else 2 * (ms (plF i s.1) / 64 % 8) + (if bt (ms (plF i s.1)) 10 then 0 else 1)) else 1
    cases bitN r.1 (plF i s.1).1
    · rfl
    · cases bt (ms (plF i s.1)) 10 <;> rfl
  show List.foldl max 1 _ = _
  rw [hmap]
  obtain ⟨h1, h2, h3⟩ := maxK_go ((List.range 4).map fun i => if bitN r.1 (plF i s.1).1 then (gm ms).key (plF i s.1) else 1) 1
  generalize List.foldl max 1 _ = M at h1 h2 h3
  have up : ∀ v : Fin 4, bitN r.1 v.1 = true → (gm ms).key v ≤ M := fun v hv => by
    obtain ⟨i, hi, rfl⟩ := plF_all s.1 v
    have := h2 _ (List.mem_map.mpr ⟨i, hi, rfl⟩)
    rw [if_pos hv] at this
    exact this
  have mem : ∀ v : Fin 4, bitN r.1 v.1 = true → (gm ms).key v ∈ (fins.filter fun v => bitN r.1 v.1).map (gm ms).key := fun v hv => List.mem_map.mpr ⟨v, List.mem_filter.mpr ⟨mem_fins v, hv⟩, rfl⟩
  have one : M = 1 → M ∈ (fins.filter fun v => bitN r.1 v.1).map (gm ms).key := fun e => by
    have a := up x hx
    have b := key_pos ms x
    have : M = (gm ms).key x := by omega
    rw [this]; exact mem x hx
  refine (maxK_is ?_ fun y my => ?_).symm
  · rcases h3 with e | m
    · exact one e
    · obtain ⟨i, _, e⟩ := List.mem_map.mp m
      cases hb : bitN r.1 (plF i s.1).1
      · rw [hb] at e
        exact one e.symm
      · rw [hb] at e
        rw [← e]
        exact mem _ hb
  · obtain ⟨v, mv, rfl⟩ := List.mem_map.mp my
    exact up v (List.mem_filter.mp mv).2
theorem ring_go : ∀ q : Fin 4 → Bool, ((fins.filter q).map fun x => 2 ^ x.1).sum = (q 0).toNat + 2 * (q 1).toNat + 4 * (q 2).toNat + 8 * (q 3).toNat := fun q => by
  unfold fins
  rw [List.filter_cons, List.filter_cons, List.filter_cons, List.filter_cons, List.filter_nil]
  cases q 0 <;> cases q 1 <;> cases q 2 <;> cases q 3 <;> rfl
theorem ring_bits (ms : Fin 4 → Nat) (c : Nat) (v : Fin 4) : ringN ms c v < 16 ∧ ∀ x : Fin 4, bitN (ringN ms c v) x.1 = inRing (gm ms) c v x := by
  have e : ringN ms c v = bitsN (inRing (gm ms) c v) := ring_go _
  rw [e]
  exact ⟨bitsN_lt _, fun x => bitsN_at _ x⟩
theorem vd_ring (ms : Fin 4 → Nat) {s : Nat} (hs : s < 20) (c : Nat) (v : Fin 4) : vdD ms s (ringN ms c v) = .bool (jd (gm ms) c v) := by
  obtain ⟨h1, h2⟩ := ring_bits ms c v
  have hx : bitN (ringN ms c v) (it (gm ms) c v 5).1 = true := by
    rw [h2]
    exact (inRing_iff (gm ms) c v _).mpr ⟨1, rfl⟩
  have := vd_is ms ⟨s, hs⟩ ⟨ringN ms c v, h1⟩ hx
  dsimp only at this
  rw [this]
  unfold jd
  congr 4
  exact List.filter_congr fun x _ => h2 x
end
section
noncomputable abbrev KV := List (Int × Value)
noncomputable def asB (v : Value) : Option D := match v with
  | .bool b => some (.bool b)
  | _ => none
theorem asB_inv {v : Value} {d : D} (h : asB v = some d) : ∃ b, v = .bool b ∧ d = .bool b := by cases v <;> first | exact ns h | (cases h; exact ⟨_, rfl, rfl⟩)
noncomputable def dItem (kd : Addr) (m : KV) (v : Value) (j : D) : Option D := (asRef v).bind fun a => if a = kd then (asInt j).bind fun k => (valueAt m k).bind asB else none
noncomputable def dHas (kd : Addr) (m : KV) (v : Value) (j : D) : Option Bool := (asRef v).bind fun a => if a = kd then (asInt j).map fun k => (valueAt m k).isSome else none
noncomputable def OdD (O : Orc) (kd : Addr) (m : KV) : Orc := { O with item := dItem kd m, has := dHas kd m }
section
variable {prog : Program} {w : World} {n : Nat} {O : Orc} {k : Nat} {h₁ h h' : Heap} {V W0 X T : List Addr} {env : Env} {sc : List (Str × NameKind)} {σ σ' : Vars} {kd : Addr} {m : KV}
noncomputable abbrev DicAt (prog : Program) (w : World) (h : Heap) (kd : Addr) (m : KV) : Prop := h.DictOf (PySem.intKind prog w) kd m
inductive BaseD (prog : Program) (w : World) (h₁ : Heap) (kd : Addr) (m : KV) (h : Heap) (W : List Addr) : Prop
  | mk (b : BaseAt h₁ h W) (n : kd ∉ W) (d : DicAt prog w h kd m)
theorem DicAt.at' (x : DicAt prog w h kd m) (k : ∀ o, h.get? kd = some o → h'.get? kd = some o) : DicAt prog w h' kd m := by
  obtain ⟨o, e, r⟩ := Heap.dictOf_iff.mp x
  exact Heap.dictOf_iff.mpr ⟨o, k _ e, r⟩
theorem DicAt.obj (x : DicAt prog w h kd m) : ∃ o es ep, h.get? kd = some o ∧ o.cls = .type "dict" ∧ o.data = .dict es ep := by
  obtain ⟨o, e, es, ep, c, d, _⟩ := Heap.dictOf_iff.mp x
  exact ⟨o, es, ep, e, c.1, d⟩
theorem DicAt.noCell (x : DicAt prog w h kd m) : ∀ v, ¬ h.IsCell kd v := fun v ⟨o, e, q⟩ => by
  obtain ⟨o', es, ep, e', _, d⟩ := x.obj
  rw [e] at e'; cases e'
  rw [d] at q; cases q
theorem DicAt.noSeq (x : DicAt prog w h kd m) : ∀ o, h.get? kd = some o → ∀ vs m, o.data ≠ .seq vs m := fun o e vs m q => by
  obtain ⟨o', es, ep, e', _, d⟩ := x.obj
  rw [e] at e'; cases e'
  rw [d] at q; cases q
theorem asInt_rep {g : Gh} {j : D} {u : Value} {i : Int} (h : asInt j = some i) (r : Rep g j u) : ∃ t, u = .int i t := by
  rw [asInt_inv h] at r
  exact r
theorem odd_ok (o : OrcOK prog w n (BaseAt h₁) O) (hs : (kd == sysModules) = false) : OrcOK prog w n (BaseD prog w h₁ kd m) (OdD O kd m) where
  up := fun ⟨b, nn, d⟩ k g => by
    obtain ⟨oo, _, _, e, _, _⟩ := d.obj
    exact ⟨b.up k g, fun q => (g _ q).elim nn (fun z => by rw [z] at e; cases e), d.at' fun ob e => k _ _ nn e⟩
  name := fun ⟨b, _, _⟩ e => o.name b e
  fn := fun ⟨b, _, _⟩ e => o.fn b e
  call := fun ⟨b, _, _⟩ al e r => o.call b al e r
  attr := fun ⟨b, _, _⟩ e => o.attr b e
  meth := fun ⟨b, _, _⟩ al e => o.meth b al e
  item := fun {h W v u j d} ⟨b, _, dd⟩ e r value slice => by
    obtain ⟨a, ha, e1⟩ := bind_inv e
    obtain ⟨rfl, e2⟩ := ift_inv e1
    cases asRef_inv ha
    obtain ⟨i, hi, e3⟩ := bind_inv e2
    obtain ⟨v1, hv, e4⟩ := bind_inv e3
    obtain ⟨c, rfl, rfl⟩ := asB_inv e4
    obtain ⟨t, rfl⟩ := asInt_rep hi r
    exact tail_ok (T := "dict") (fun s hk => Heap.DictOf.typeIs (dd.at' fun ob e => hk _ _ e)) slot_dict_getitem.lookup fun A s Q E hk am hq =>
      wpAny_getItem_of (intKind_is prog w i t) (Heap.DictOf.mapOf (dd.at' fun ob e => hk _ _ e)) hv (hq (.bool c) s.heap _ (Kp.refl _) rfl)
  has := fun {h W v u j c} ⟨b, _, dd⟩ e r => by
    obtain ⟨a, ha, e1⟩ := bind_inv e
    obtain ⟨rfl, e2⟩ := ift_inv e1
    cases asRef_inv ha
    obtain ⟨i, hi, rfl⟩ := Option.map_eq_some_iff.mp e2
    obtain ⟨t, rfl⟩ := asInt_rep hi r
    refine ⟨fun A s Q E hk am hq => ?_, fun A s Q E hk am hq => ?_⟩
    · have hD : DicAt prog w s.heap a m := dd.at' fun ob e => hk _ _ e
      exact wpAny_in_of (intKind_is prog w i t) hs hD.mapOf (hq (.bool _) s.heap _ (Kp.refl _) rfl)
    · have hD : DicAt prog w s.heap a m := dd.at' fun ob e => hk _ _ e
      exact wpAny_notIn_of (intKind_is prog w i t) hs hD.mapOf (hq (.bool _) s.heap _ (Kp.refl _) rfl)
noncomputable def lessA (kd : Addr) (l : List Addr) : List Addr := l.filter fun a => !(a == kd)
theorem lessA_iff {l : List Addr} {a : Addr} : a ∈ lessA kd l ↔ a ∈ l ∧ a ≠ kd := by
  unfold lessA
  rw [List.mem_filter]
  simp
theorem Holds.lessX {X' : List Addr} {x : Str} {v : Value} (s : ∀ a ∈ X', a ∈ X) (hv : Holds h X env x v) : Holds h X' env x v := by
  rcases hv with ⟨a, n, m, z, e⟩ | ⟨a, e, z, n, d⟩
  · exact .inl ⟨a, fun q => n (s _ q), m, z, e⟩
  · exact .inr ⟨a, e, z, fun q => n (s _ q), d⟩
theorem FS.drop (f : FS (BaseAt h₁) h V W0 X env sc T σ) (hV : kd ∉ V) (dd : DicAt prog w h kd m) : FS (BaseD prog w h₁ kd m) h V (lessA kd W0) (lessA kd X) env sc T σ := by
  have to : ∀ a, a ∈ V ++ lessA kd W0 → a ∈ V ++ W0 := fun a m => by
    rcases List.mem_append.mp m with m | m
    · exact List.mem_append_left _ m
    · exact List.mem_append_right _ (lessA_iff.mp m).1
  have lx : ∀ {x v}, Holds h X env x v → Holds h (lessA kd X) env x v := fun hv => hv.lessX fun a m => (lessA_iff.mp m).1
  have one : ∀ {x b v}, σ.lookup x = some b → Holds h (lessA kd X) env x v → Holds h X env x v := fun {x b v} e hv => by
    obtain ⟨_, u, hu, _⟩ := f.vo x _ e
    have := (lx hu).one hv
    subst this
    exact hu
  exact {
    eo := f.eo, cal := f.cal, fra := f.fra, tv := f.tv
    tx := fun a m q => f.tx a m (lessA_iff.mp q).1
    xw := fun a q => by
      obtain ⟨q, ne⟩ := lessA_iff.mp q
      rcases List.mem_append.mp (f.xw a q) with z | z
      · exact List.mem_append_left _ z
      · exact List.mem_append_right _ (lessA_iff.mpr ⟨z, ne⟩)
    vw := fun a m q => f.vw a m (lessA_iff.mp q).1
    al := fun a m => f.al a (to a m)
    vo := fun x b e => by
      obtain ⟨ok, v, hv, r⟩ := f.vo x b e
      refine ⟨ok, v, lx hv, ?_⟩
      cases b with
      | val d => exact Rep.mono (fz_less to) r
      | own ds =>
        obtain ⟨a, vs, c, rfl, g, ma, nx, rl⟩ := r
        exact ⟨a, vs, c, rfl, g, List.mem_append_left _ (f.ownV x ds a e hv), fun q => nx (lessA_iff.mp q).1, RepL.mono (fz_less to) rl⟩
    ownV := fun x ds a e hv => f.ownV x ds a e (one e hv)
    apart := fun x y ds es a e e' hx hy => f.apart x y ds es a e e' (one e hx) (one e' hy)
    base := ⟨⟨f.base.1, fun a m => f.base.2 a (to a m)⟩, fun m => by
      rcases List.mem_append.mp m with m | m
      · exact hV m
      · exact (lessA_iff.mp m).2 rfl, dd⟩ }
theorem FS.undrop (f : FS (BaseD prog w h₁ kd m) h V (lessA kd W0) (lessA kd X) env sc T σ) (hV : kd ∉ V) (h0 : h₁.get? kd = none) (tx : ∀ a ∈ T, a ∉ X) (xw : ∀ a ∈ X, a ∈ V ++ W0) : FS (BaseAt h₁) h V W0 X env sc T σ := by
  obtain ⟨b, nn, dd⟩ := f.base
  have fro : ∀ a, a ∈ V ++ W0 → a = kd ∨ a ∈ V ++ lessA kd W0 := fun a m => by
    by_cases q : a = kd
    · exact .inl q
    · rcases List.mem_append.mp m with m | m
      · exact .inr (List.mem_append_left _ m)
      · exact .inr (List.mem_append_right _ (lessA_iff.mpr ⟨m, q⟩))
  have to : ∀ a, a ∈ V ++ lessA kd W0 → a ∈ V ++ W0 := fun a m => by
    rcases List.mem_append.mp m with m | m
    · exact List.mem_append_left _ m
    · exact List.mem_append_right _ (lessA_iff.mp m).1
  have lx : ∀ {x v}, Holds h X env x v → Holds h (lessA kd X) env x v := fun hv => hv.lessX fun a m => (lessA_iff.mp m).1
  have mx : ∀ {x v}, Holds h (lessA kd X) env x v → Holds h X env x v := fun hv => by
    rcases hv with ⟨a, _, m, z, e⟩ | ⟨a, c, z, q, d⟩
    · exact .inl ⟨a, tx _ f.fra.inT, m, z, e⟩
    · exact .inr ⟨a, c, z, fun mm => q (lessA_iff.mpr ⟨mm, fun e => dd.noCell _ (e ▸ d)⟩), d⟩
  have hh : ∀ a o, fz h (V ++ lessA kd W0) a = some o → (o.cls = .type "list" ∨ o.cls = .type "tuple" ∨ o.cls = .type "range") → fz h (V ++ W0) a = some o := fun a o e c => by
    obtain ⟨na, e1⟩ := fz_some.mp e
    refine fz_some.mpr ⟨fun m => ?_, e1⟩
    rcases fro a m with rfl | m
    · obtain ⟨o', _, _, e', c', _⟩ := dd.obj
      rw [e1] at e'; cases e'
      rw [c'] at c
      rcases c with c | c | c <;> · simp at c
    · exact na m
  exact {
    eo := f.eo, cal := f.cal, fra := f.fra, tv := f.tv, tx := tx, xw := xw
    vw := fun a m q => by
      rcases fro a (List.mem_append_right _ q) with rfl | z
      · exact hV m
      · exact f.vw a m (by
          by_cases e : a = kd
          · exact absurd (e ▸ m) hV
          · exact lessA_iff.mpr ⟨q, e⟩)
    al := fun a m => by
      rcases fro a m with rfl | m
      · obtain ⟨o, _, _, e, _⟩ := dd.obj; exact ⟨o, e⟩
      · exact f.al a m
    vo := fun x bb e => by
      obtain ⟨ok, v, hv, r⟩ := f.vo x bb e
      refine ⟨ok, v, mx hv, ?_⟩
      cases bb with
      | val d => exact Rep.hide hh r
      | own ds =>
        obtain ⟨a, vs, c, rfl, g, ma, nx, rl⟩ := r
        refine ⟨a, vs, c, rfl, g, to a ma, fun q => ?_, RepL.hide hh rl⟩
        refine nx (lessA_iff.mpr ⟨q, fun e' => ?_⟩)
        exact dd.noSeq _ (e' ▸ g) _ _ rfl
    ownV := fun x ds a e hv => f.ownV x ds a e (lx hv)
    apart := fun x y ds es a e e' hx hy => f.apart x y ds es a e e' (lx hx) (lx hy)
    base := ⟨b.1, fun a m => by
      rcases fro a m with rfl | m
      · exact h0
      · exact b.2 a m⟩ }
theorem ps_dict {t : Env → Sem Flow} (p : PS prog w n (BaseD prog w h₁ kd m) t sc σ σ' .next) {A : Around} {s : Shared} {Q : Flow → Shared → Prop} {E : Value → Shared → Prop} (f : FS (BaseAt h₁) s.heap V W0 X env sc T σ) (hW : kd ∈ W0) (dd : DicAt prog w s.heap kd m) (h0 : h₁.get? kd = none) (am : Amb A n)
    (hq : ∀ h' tk' V', Kw V s.heap h' → Gr s.heap V V' → FS (BaseAt h₁) h' V' W0 X env sc T σ' → DicAt prog w h' kd m → Q .next { s with heap := h', toks := tk' }) : wpAny (model prog w) A (t env) Q E s := by
  have hV : kd ∉ V := fun q => f.vw _ q hW
  refine p env V (lessA kd W0) (lessA kd X) T A s Q E (f.drop hV dd) am fun fl h' tk' kw po => ?_
  obtain ⟨rfl, V', g, f'⟩ := fl_next po
  have hV' : kd ∉ V' := fun q => by
    obtain ⟨o, _, _, e, _⟩ := dd.obj
    rcases g.new _ q with z | z
    · exact hV z
    · rw [z] at e; cases e
  obtain ⟨_, _, d'⟩ := f'.base
  refine hq h' tk' V' kw g (f'.undrop hV' h0 f.tx fun a m => ?_) d'
  rcases List.mem_append.mp (f.xw a m) with q | q
  · exact List.mem_append_left _ (g.sub a q)
  · exact List.mem_append_right _ q
theorem dic_set (o : OrcOK prog w n (BaseAt h₁) O) {A : Around} {s : Shared} {Q : Unit → Shared → Prop} {E : Value → Shared → Prop} {i : Int} {t : Tok} {v : Value} (f : FS (BaseAt h₁) s.heap V W0 X env sc T σ) (hW : kd ∈ W0) (dd : DicAt prog w s.heap kd m) (hz : m.length ≤ 1000) (hnew : valueAt m i = none)
    (hq : ∀ h' tk', Kw [kd] s.heap h' → FS (BaseAt h₁) h' V W0 X env sc T σ → DicAt prog w h' kd (m ++ [(i, v)]) → Q () { s with heap := h', toks := tk' }) : wpAny (model prog w) A (setItem (.ref kd) (.int i t) v) Q E s := by
  have hst : stored m i v = m ++ [(i, v)] := by
    unfold stored
    rw [if_neg]
    intro h
    obtain ⟨p, mp, e⟩ := List.any_eq_true.mp h
    unfold valueAt at hnew
    cases hf : m.find? (fun kv => kv.1 = i) with
    | some q => rw [hf] at hnew; cases hnew
    | none => exact absurd e (by simpa using List.find?_eq_none.mp hf p mp)
  refine wpAny_setItem_pairs (hsz := by rw [sizeLine_eq]; (first | lia | omega)) (intKind_is prog w i t) dd fun h' hm hs => ?_
  rw [hst] at hm
  have kk : Kk [kd] s.heap h' := fun b ob nb e => (hs.2 b fun q => nb (by rw [q]; exact List.mem_singleton.mpr rfl)).trans e
  obtain ⟨o', _, _, e', _⟩ := DicAt.obj hm
  refine hq h' _ ⟨kk, fun b ⟨ob, e⟩ => ?_⟩ (f.touch o kk ⟨o', e'⟩ (List.mem_append_right _ hW) (fun q => f.vw _ (f.tv _ q) hW) dd.noCell (notOwn f dd.noSeq)) hm
  by_cases q : b = kd
  · exact ⟨o', q ▸ e'⟩
  · exact ⟨ob, kk _ _ (by simpa using q) e⟩
end
end
section
section
variable {prog : Program} {w : World} {n : Nat} {Base : Heap → List Addr → Prop} {O : Orc} {k : Nat} {h h' : Heap} {V W0 X T : List Addr} {env : Env} {sc : List (Str × NameKind)} {σ σ' : Vars} {ap : List Str}
theorem Holds.chgL {L : List Addr} {h h' : Heap} {X : List Addr} {env : Env} {x : Str} {v : Value} {T : List Addr} (k : Kk L h h') (lT : env.locals ∈ T) (hT : ∀ d ∈ L, d ∉ T) (hnc : ∀ d ∈ L, ∀ v, ¬ h.IsCell d v) (p : Holds h X env x v) : Holds h' X env x v := by
  rcases p with ⟨a, n, m, b, c⟩ | ⟨a, c, b, n, o, ho, e⟩
  · exact .inl ⟨a, n, m, b.at' fun o e => k _ o (fun q => hT _ q lT) e, c⟩
  · exact .inr ⟨a, c, b, n, o, k _ o (fun q => hnc _ q _ ⟨o, ho, e⟩) ho, e⟩
theorem FS.touchL (o : OrcOK prog w n Base O) (f : FS Base h V W0 X env sc T σ) {L : List Addr} (k : Kk L h h') (lv : ∀ d ∈ L, ∃ ob, h'.get? d = some ob) (hd : ∀ d ∈ L, d ∈ V ++ W0) (hT : ∀ d ∈ L, d ∉ T) (hnc : ∀ d ∈ L, ∀ v, ¬ h.IsCell d v)
    (ho : ∀ x ds, σ.lookup x ≠ some (.own ds)) : FS Base h' V W0 X env sc T σ := by
  have kw : Kw L h h' := ⟨k, fun b ⟨ob, e⟩ => by
    by_cases q : b ∈ L
    · exact lv b q
    · exact ⟨ob, k b ob q e⟩⟩
  have sb : Sub (fz h (V ++ W0)) (fz h' (V ++ W0)) := fz_kw k hd
  have hold : ∀ {x v}, Holds h X env x v → Holds h' X env x v := fun p => p.chgL k f.fra.inT hT hnc
  exact {
    eo := f.eo, cal := f.cal.kw kw
    fra := f.fra.kw k fun a m q => hT _ q m
    tv := f.tv, tx := f.tx, xw := f.xw, vw := f.vw, al := f.al.kw kw
    vo := fun x b e => by
      obtain ⟨ok, v, hv, r⟩ := f.vo x b e
      refine ⟨ok, v, hold hv, ?_⟩
      cases b with
      | val dd => exact Rep.mono sb r
      | own ds => exact absurd e (ho x ds)
    ownV := fun x ds a q hv => absurd q (ho x ds)
    apart := fun x y ds es a q q' hx hy => absurd q (ho x ds)
    base := o.up f.base (fun b ob nb e => k b ob (fun q => nb (hd _ q)) e) fun a m => .inl m }
theorem blk_then (hn : 1 ≤ n) (o : OrcOK prog w n Base O) {rest : List Stmt} : ∀ {b : List Stmt} {σ σ' : Vars}, blkD (exS O ap k sc) b σ = some (σ', .next) → ∀ V A s Q E, FS Base s.heap V W0 X env sc T σ → Amb A n →
    (∀ h' tk' V', Kw V s.heap h' → Gr s.heap V V' → FS Base h' V' W0 X env sc T σ' → wpAny (model prog w) A (execs rest env) Q E { s with heap := h', toks := tk' }) → wpAny (model prog w) A (execs (b ++ rest) env) Q E s
  | [], σ, σ', e, V, A, s, Q, E, f, am, hq => by cases e; exact hq s.heap s.toks V Kw.refl Gr.refl f
  | st :: r, σ, σ', e, V, A, s, Q, E, f, am, hq => by
    obtain ⟨⟨σ1, fl⟩, h1, e⟩ := bind_inv e
    cases fl with
    | next =>
      refine wpAny_execs_cons (ex_ok hn o k h1 env V W0 X T A s _ E f am fun fl1 h1 tk1 k1 p1 => ?_)
      obtain ⟨rfl, V1, g1, f1⟩ := fl_next p1
      exact blk_then hn o e V1 A _ Q E f1 am fun h2 tk2 V2 k2 g2 f2 => hq h2 tk2 V2 (k1.more g1 k2) (g1.more k1 g2) f2
    | brk => exact nomatch (Option.some.inj e : (σ1, Fl.brk) = (σ', Fl.next))
    | ret d => exact nomatch (Option.some.inj e : (σ1, Fl.ret d) = (σ', Fl.next))
end
theorem fz_kg {V V' W : List Addr} {h h' : Heap} (k : Kw V h h') (g : Gr h V V') : Sub (fz h (V ++ W)) (fz h' (V' ++ W)) := fun a o e => by
  obtain ⟨n, e⟩ := fz_some.mp e
  refine fz_some.mpr ⟨fun m => ?_, k.keep _ _ (fun q => n (List.mem_append_left _ q)) e⟩
  rcases List.mem_append.mp m with m | m
  · rcases g.new a m with z | z
    · exact n (List.mem_append_left _ z)
    · first | exact dead2 (z) e | exact dead2 e (z) | (rw [z] at e; cases e)
  · exact n (List.mem_append_right _ m)
noncomputable def ringsD (ms : Fin 4 → Nat) (c : Nat) : D := .list (fins.map fun v => natD (ringN ms c v))
noncomputable def rowD (ms : Fin 4 → Nat) (c : Nat) : D := .list (fins.map fun v => .bool (jd (gm ms) c v))
noncomputable def stJ (ms : Fin 4 → Nat) (s : Nat) (rec kd : Addr) (jl : List D) (q : Option (Nat × Option Nat)) : Vars :=
  (S' "files", .val (filesD ms)) :: (S' "shift", .val (natD s)) :: (S' "record", .val (.cst (.ref rec))) :: (S' "known", .val (.cst (.ref kd))) :: (S' "judged", .own jl) ::
    (match q with
    | some c => (S' "choice", .val (natD c.1)) :: (S' "rings", .val (ringsD ms c.1)) :: (match c.2 with | some r => [(S' "ring", .val (natD r))] | none => [])
    | none => [])
noncomputable def GoodM (ms : Fin 4 → Nat) (s : Nat) (m : KV) : Prop := ∀ p ∈ m, ∃ (r : Nat) (b : Bool), p = ((r : Int), .bool b) ∧ vdD ms s r = .bool b
theorem val_mem {m : KV} {k : Int} {v : Value} (h : valueAt m k = some v) : (k, v) ∈ m := by
  unfold valueAt at h
  obtain ⟨p, hp, rfl⟩ := Option.map_eq_some_iff.mp h
  have e := List.find?_some hp
  have : p.1 = k := by simpa using e
  rw [← this]
  exact List.mem_of_find?_eq_some hp
theorem good_val {ms : Fin 4 → Nat} {s : Nat} (hs : s < 20) {m : KV} (g : GoodM ms s m) {c : Nat} {v : Fin 4} {u : Value} (h : valueAt m ((ringN ms c v : Nat) : Int) = some u) : u = .bool (jd (gm ms) c v) := by
  obtain ⟨r, b, e, e2⟩ := g _ (val_mem h)
  cases e
  rw [vd_ring ms hs c v] at e2
  cases e2; rfl
theorem val_old {m : KV} {k : Int} {p : Int × Value} (h : (valueAt m k).isSome = true) : valueAt (m ++ [p]) k = valueAt m k := by
  unfold valueAt at h ⊢
  rw [List.find?_append]
  cases q : m.find? (fun kv => kv.1 = k) with
  | some x => rfl
  | none => rw [q] at h; cases h
theorem val_new {m : KV} {k : Int} {v : Value} (h : valueAt m k = none) : valueAt (m ++ [(k, v)]) k = some v := by
  unfold valueAt at h ⊢
  rw [List.find?_append]
  cases q : m.find? (fun kv => kv.1 = k) with
  | some x => rw [q] at h; cases h
  | none => simp
noncomputable def cJ (ms : Fin 4 → Nat) (s : Nat) : List (Addr × (List D → Option D)) := [(195, fam (ringA ms) fun i => natD (ringN ms i.1 i.2)), (190, fam (fun r : Fin 16 => [natD r.1, natD s]) fun r => .str (nmOf r.1 s))]
noncomputable def OJ (ms : Fin 4 → Nat) (s : Nat) (rec : Addr) (rl : List RI) : Orc := { glob := fun x => globs.lookup x, call := orcL (cJ ms s), meth := fun v x ds => meS (fun a t => if a = rec ∧ x = S' "allowance" ∧ okT t = true then some (allowOf (rl.map (·.2)) t) else none) v ds }
inductive DicJ (prog : Program) (w : World) (ms : Fin 4 → Nat) (s : Nat) (kd : Addr) (i j : Nat) (h : Heap) : Prop
  | mk (m : KV) (d : DicAt prog w h kd m) (g : GoodM ms s m) (l : m.length ≤ 4 * i + j) (a : ∀ v : Fin 4, v.1 < j → (valueAt m ((ringN ms i v : Nat) : Int)).isSome = true)
theorem fin_at {f : Fin 4 → D} {i : Nat} {d : D} (h : (fins.map f)[i]? = some d) : ∃ v : Fin 4, v.1 = i ∧ d = f v := by
  match i, h with
  | 0, h => exact ⟨0, rfl, (Option.some.inj h).symm⟩
  | 1, h => exact ⟨1, rfl, (Option.some.inj h).symm⟩
  | 2, h => exact ⟨2, rfl, (Option.some.inj h).symm⟩
  | 3, h => exact ⟨3, rfl, (Option.some.inj h).symm⟩
  | i + 4, h => cases h
section
variable {prog : Program} {w : World} {P : Params} {p : Program} {loose : List Str} {mg mb : Str → Option Value} {h₁ : Heap} {V W0 X T : List Addr} {env : Env} {sc : List (Str × NameKind)}
set_option maxRecDepth 100000 in
theorem oj_ok (Z : Wd P p loose mg mb h₁) {n : Nat} (hn : 1 ≤ n) (ms : Fin 4 → Nat) {s : Nat} (hs : s < 20) {rec : Addr} {rl : List RI} (R : RecAt P (h₁.get? ·) rec rl) : OrcOK prog w (n + 5) (BaseAt h₁) (OJ ms s rec rl) := by
  have o3 := o3_ok (prog := prog) (w := w) Z hn ms
  have k : FOK prog w (n + 5) P h₁ (cJ ms s) := .cons rfl (fun ds d e => by
      intro h W vs b al r
      exact (o3.call (f := .ref 195) b al e r).more (Nat.le_succ _)) (.cons rfl (fun ds d e => by
      obtain ⟨r, rfl, rfl⟩ := fam_inv e
      obtain ⟨_, h2, h3⟩ := okT_nm ⟨s, hs⟩ r
      exact cc190 (ds := [natD r.1, natD s]) (ap := []) (k := 20) (by omega) Z o3 rfl (e_named (O := O3 ms) rfl P r.1 s (wrote_at _ h2 h3))) .nil)
  refine orc_gen Z.X Z.T (fun x d e => globs_all P (x, d) (mem_look e)) (fun f ds d e => ?_) (fun {h W f ds d vs} b al e r => ?_) (fun _ e => by cases e) (fun {h W v nm ds d} b al e => ?_) (fun _ e => by cases e) (fun _ e => by cases e)
  · obtain ⟨a, ha, e1⟩ := bind_inv e
    obtain ⟨F, hF, e2⟩ := bind_inv e1
    exact ⟨a, asRef_inv ha, (k.1 a F hF).1⟩
  · obtain ⟨a, ha, e1⟩ := bind_inv e
    obtain ⟨F, hF, e2⟩ := bind_inv e1
    cases asRef_inv ha
    exact (k.1 a F hF).2 ds d e2 b al r
  · obtain ⟨a, t, rfl, rfl, e1⟩ := meS_inv e
    obtain ⟨⟨rfl, rfl, ht⟩, rfl⟩ := ite_inv e1
    exact rec_meth (n := n + 2) Z (by omega) R ht b al
set_option maxRecDepth 100000 in
theorem kv200 (P : Params) : kindV ((scIn (hd.heap_39 P) 200).lookup (S' "record")) = true ∧ kindV ((scIn (hd.heap_39 P) 200).lookup (S' "known")) = true ∧ kindV ((scIn (hd.heap_39 P) 200).lookup (S' "ring")) = true ∧ kindV ((scIn (hd.heap_39 P) 200).lookup (S' "rings")) = true ∧ kindV ((scIn (hd.heap_39 P) 200).lookup (S' "shift")) = true ∧
    (scIn (hd.heap_39 P) 200).lookup (S' "_law_named") = some .globalImplicit ∧ tgtOk (scIn (hd.heap_39 P) 200) (S' "ring") = true ∧ tgtOk (scIn (hd.heap_39 P) 200) (S' "choice") = true := ⟨rfl, rfl, rfl, rfl, rfl, rfl, rfl, rfl⟩
noncomputable abbrev J200 (P : Params) (i : Nat) : Stmt := stAt (forB (stAt (bodyIn (hd.heap_39 P) 200) 3)) i
set_option maxRecDepth 100000 in
theorem jd_in (Z : Wd P p loose mg mb h₁) {n : Nat} (hn : 1 ≤ n) (ms : Fin 4 → Nat) {sh : Nat} (hs : sh < 20) {rec kd : Addr} {rl : List RI} (R : RecAt P (h₁.get? ·) rec rl) (je : rl.map shR = shpL ms sh 4) (hkd : (kd == sysModules) = false) (h0 : h₁.get? kd = none) {i : Nat} (hi : i < 16) {jl : List D} {q : Option Nat} {A : Around} {s : Shared} {Q : Flow → Shared → Prop} {E : Value → Shared → Prop}
    (f : FS (BaseAt h₁) s.heap V W0 X env (scIn (hd.heap_39 P) 200) T (stJ ms sh rec kd jl (some (i, q)))) (hW : kd ∈ W0) (J : DicJ prog w ms sh kd i 0 s.heap) (am : Amb A (n + 5))
    (hq : ∀ q' h' tk' V', Kw ([kd] ++ V) s.heap h' → Gr s.heap V V' → FS (BaseAt h₁) h' V' W0 X env (scIn (hd.heap_39 P) 200) T (stJ ms sh rec kd jl (some (i, q'))) → DicJ prog w ms sh kd i 4 h' → Q .next { s with heap := h', toks := tk' }) :
    wpAny (model prog w) A (exec (J200 P 1) env) Q E s := by
  obtain ⟨vR, vK, vr, vs, vS, lN, tr, _⟩ := kv200 P
  show wpAny (model prog w) A (exec (.For (.Name (S' "ring") _) (.Name (S' "rings") _) [.If (.Compare (.Name (S' "ring") _) [.NotIn] [.Name (S' "known") _] _) [.Assign [.Subscript (.Name (S' "known") _) (.Name (S' "ring") _) _] (.Call (.Attribute (.Name (S' "record") _) (S' "allowance") _) [.Call (.Name (S' "_law_named") _) [.Name (S' "ring") _, .Name (S' "shift") _] [] _] [] _) _] [] _] [] _) env) Q E s
  generalize scIn (hd.heap_39 P) 200 = sc at f hq vR vK vr vs vS lN tr ⊢
  have o := oj_ok (prog := prog) (w := w) Z hn ms hs R
  have n5 : 1 ≤ n + 5 := by omega
  refine for_x (k := 20) (ds := fins.map fun v => natD (ringN ms i v)) (M := [kd]) (st := fun q => stJ ms sh rec kd jl (some (i, q))) (y0 := q) (J := fun j q h W => DicJ prog w ms sh kd i j h) (Rt := fun _ _ _ => False)
    o (ev_all n5 o 20).1 rfl ?_ f am (fun a m => by rw [List.mem_singleton.mp m]; exact hW) ?_ ?_ (fun _ _ _ _ _ e => e) ?_ J hq (fun _ _ _ _ e => e.elim)
  · rw [show evE (OJ ms sh rec rl) 20 sc (stJ ms sh rec kd jl (some (i, q))) _ = some (ringsD ms i) from r_var vs rfl]
    rfl
  · intro j d q hd
    exact ⟨_, show (if _ then _ else none) = _ from if_pos tr⟩
  · intro j q h h' W W' s1 kM ⟨m, d, g, l, a⟩
    exact ⟨m, d.at' fun ob e => kM kd (by (first | exact List.mem_cons_self | exact List.mem_cons_of_mem _ List.mem_cons_self | decide | simp)) ob e, g, l, a⟩
  · intro j d q σ1 V W0 X A s Q E hd hset f hM ⟨m, dd, g, l, hall⟩ am hnext _
    obtain ⟨v, rfl, rfl⟩ := fin_at hd
    have hW := hM kd (by (first | exact List.mem_cons_self | exact List.mem_cons_of_mem _ List.mem_cons_self | decide | simp))
    have eσ : σ1 = stJ ms sh rec kd jl (some (i, some (ringN ms i v))) := by
      refine (ite_inv hset).2.symm.trans ?_
      cases q <;> rfl
    subst eσ
    obtain ⟨r16, _⟩ := ring_bits ms i v
    cases hv : valueAt m ((ringN ms i v : Nat) : Int) with
    | some u =>
      refine wpAny_execs_cons (ps_dict (n := n + 5) (m := m) (t := exec _) (σ' := stJ ms sh rec kd jl (some (i, some (ringN ms i v)))) (ex_ok n5 (odd_ok o hkd) 20 (ap := []) ?_) f hW dd h0 am fun h' tk' V' kw gr f' d' => wpAny_execs_nil (hnext _ h' tk' V' (kw.less fun a m => List.mem_append_right _ m) gr f' ⟨m, d', g, by omega, fun x hx => ?_⟩))
      · refine s_ifF (t_cmpO rfl (r_var vr rfl) (r_var vK rfl) (c := false) ?_) b_nil
        show ((if kd = kd then some (valueAt m ((ringN ms i v : Nat) : Int)).isSome else none : Option Bool).map fun b => !b) = _
        rw [if_pos rfl, hv]; rfl
      · by_cases e : x = v
        · subst e; rw [hv]; rfl
        · exact hall x (by have : x.1 ≠ v.1 := fun z => e (Fin.ext z); (first | lia | omega))
    | none =>
      have hV : kd ∉ V := fun q => f.vw _ q hW
      have fd := f.drop hV dd
      have od := odd_ok (m := m) o hkd
      refine wpAny_execs_cons (wpAny_If ((ev_all n5 od 20).2.1 sc _ _ true ?_ env s.heap (V ++ lessA kd W0) (lessA kd X) fd.eo fd.cal fd.vo fd.al fd.base fd.xw A s _ _ (Kp.refl _) am fun c' h1 tk1 k1 r1 => ?_))
      · refine t_cmpO rfl (r_var vr rfl) (r_var vK rfl) ?_
        show ((if kd = kd then some (valueAt m ((ringN ms i v : Nat) : Int)).isSome else none : Option Bool).map fun b => !b) = _
        rw [if_pos rfl, hv]; rfl
      cases r1
      have f1 := f.kp o k1
      have d1 : DicAt prog w h1 kd m := dd.at' fun ob e => k1 _ _ e
      refine wpAny_execs_cons (wpAny_Assign_Subscript ((ev_all n5 o 20).1 sc _ _ (.bool (jd (gm ms) i v)) ?_ env h1 (V ++ W0) X f1.eo f1.cal f1.vo f1.al f1.base f1.xw A { s with heap := h1, toks := tk1 } _ E (Kp.refl _) am fun u h2 tk2 k2 r2 => ?_) rfl)
      · have hm : (OJ ms sh rec rl).meth (.ref rec) (S' "allowance") [.str (nmOf (ringN ms i v) sh)] = some (.bool (jd (gm ms) i v)) := by
          rw [← vd_ring ms hs i v, ← allow_vd je]
          exact if_pos ⟨rfl, rfl, (okT_nm ⟨sh, hs⟩ ⟨ringN ms i v, r16⟩).1⟩
        refine r_methO rfl (r_var vR rfl) (r_cons (r_call rfl rfl (r_glob lN rfl) (r_cons (r_var vr rfl) (r_cons (r_var vS rfl) r_nil)) ?_) r_nil) hm
        exact fam_at (ι := Fin 16) (args := fun r => [natD r.1, natD sh]) (res := fun r => .str (nmOf r.1 sh)) ⟨ringN ms i v, r16⟩ fun j e => by
          have : j.1 = ringN ms i v := Int.ofNat.inj (D.int.inj (List.cons.inj e).1)
          exact congrArg (fun z => D.str (nmOf z sh)) this
      cases r2
      have f2 := f1.kp o k2
      refine name_val (h := h2) (W := V ++ W0) (d := .cst (.ref kd)) f2.eo.kind f2.vo rfl A { s with heap := h2, toks := tk2 } _ E (Kp.refl _) am fun u3 h3 tk3 k3 r3 => ?_
      cases r3
      have f3 := f2.kp o k3
      refine name_val (h := h3) (W := V ++ W0) (d := natD (ringN ms i v)) f3.eo.kind f3.vo rfl A { s with heap := h3, toks := tk3 } _ E (Kp.refl _) am fun u4 h4 tk4 k4 r4 => ?_
      obtain ⟨t4, rfl⟩ := r4
      have f4 := f3.kp o k4
      have k14 := (k2.trans k3).trans k4
      refine dic_set (s := { s with heap := h4, toks := tk4 }) (m := m) o f4 hW (d1.at' fun ob e => k14 _ _ e) (by omega) hv fun h5 tk5 k5 f5 d5 => ?_
      refine wpAny_execs_nil (wpAny_execs_nil (hnext _ h5 tk5 V (((Kw.of k1).trans (Kw.of k14)).trans (k5.less fun a m => List.mem_append_left _ m)) Gr.refl f5 ⟨_, d5, fun q mq => ?_, by rw [List.length_append, List.length_singleton]; omega, fun x hx => ?_⟩))
      · rcases List.mem_append.mp mq with mq | mq
        · exact g q mq
        · rw [List.mem_singleton.mp mq]
          exact ⟨_, _, rfl, vd_ring ms hs i v⟩
      · by_cases e : x = v
        · subst e; rw [val_new hv]; rfl
        · have := hall x (by have : x.1 ≠ v.1 := fun z => e (Fin.ext z); (first | lia | omega))
          rw [val_old this]; exact this
end
end
section
section
variable {prog : Program} {w : World} {P : Params} {p : Program} {loose : List Str} {mg mb : Str → Option Value} {h₀ h₁ : Heap} {V W0 X T : List Addr} {env : Env} {sc : List (Str × NameKind)}
set_option maxRecDepth 100000 in
theorem jd_out (Z : Wd P p loose mg mb h₁) {n : Nat} (hn : 1 ≤ n) (ms : Fin 4 → Nat) {sh : Nat} (hs : sh < 20) {rec kd : Addr} {rl : List RI} (R : RecAt P (h₁.get? ·) rec rl) (je : rl.map shR = shpL ms sh 4) (hkd : (kd == sysModules) = false) (h0 : h₁.get? kd = none) {A : Around} {s : Shared} {Q : Flow → Shared → Prop} {E : Value → Shared → Prop}
    (f : FS (BaseAt h₁) s.heap V W0 X env (scIn (hd.heap_39 P) 200) T (stJ ms sh rec kd [] none)) (hW : kd ∈ W0) (d0 : DicAt prog w s.heap kd []) (am : Amb A (n + 5))
    (hq : ∀ (y : Option (Nat × Option Nat) × List D) h' tk' V', Kw ([kd] ++ V) s.heap h' → Gr s.heap V V' → FS (BaseAt h₁) h' V' W0 X env (scIn (hd.heap_39 P) 200) T (stJ ms sh rec kd y.2 y.1) → y.2 = (List.range 16).map (rowD ms) → Q .next { s with heap := h', toks := tk' }) :
    wpAny (model prog w) A (exec (stAt (bodyIn (hd.heap_39 P) 200) 3) env) Q E s := by
  have ht : tgtOk (scIn (hd.heap_39 P) 200) (S' "choice") = true := (kv200 P).2.2.2.2.2.2.2
  have lN : (scIn (hd.heap_39 P) 200).lookup (S' "range") = some .globalImplicit := rfl
  show wpAny (model prog w) A (exec (.For (.Name (S' "choice") _) (.Call (.Name (S' "range") _) [.Constant (.int 16) _ _] [] _) [J200 P 0, J200 P 1, J200 P 2] [] _) env) Q E s
  have o := oj_ok (prog := prog) (w := w) Z hn ms hs R
  have n5 : 1 ≤ n + 5 := by omega
  refine for_x (k := 20) (ds := (List.range 16).map natD) (M := [kd]) (st := fun y : Option (Nat × Option Nat) × List D => stJ ms sh rec kd y.2 y.1) (y0 := (none, [])) (J := fun i y h W => y.2 = (List.range i).map (rowD ms) ∧ ∃ m, DicAt prog w h kd m ∧ GoodM ms sh m ∧ m.length ≤ 4 * i) (Rt := fun _ _ _ => False)
    o (ev_all n5 o 20).1 rfl ?_ f am (fun a m => by rw [List.mem_singleton.mp m]; exact hW) ?_ ?_ (fun _ _ _ _ _ e => e) ?_ ⟨rfl, [], d0, (fun p m => by cases m), Nat.le_refl _⟩ (fun y h' tk' V' kw g f' j => hq y h' tk' V' kw g f' j.1) (fun _ _ _ _ e => e.elim)
  · exact bnd (a := .range 0 16 1) (r_call rfl rfl (r_glob lN rfl) (r_cons r_int r_nil) rfl) rfl
  · intro j d q _
    exact ⟨_, show (if _ then _ else none) = _ from if_pos ht⟩
  · intro i y h h' W W' s1 kM ⟨e, m, d, g, l⟩
    exact ⟨e, m, d.at' fun ob e => kM kd (by (first | exact List.mem_cons_self | exact List.mem_cons_of_mem _ List.mem_cons_self | decide | simp)) ob e, g, l⟩
  · intro i d y σ1 V W0 X A s Q E hdd hset f hM ⟨ey, m, dd, g, l⟩ am hnext _
    have him : i < 16 := by
      have := (List.getElem?_eq_some_iff.mp hdd).1
      simpa using this
    have hdi : d = natD i := by
      have : ((List.range 16).map natD)[i]? = some (natD i) := by simp [him]
      rw [this] at hdd; cases hdd; rfl
    subst hdi
    have hW := hM kd (by (first | exact List.mem_cons_self | exact List.mem_cons_of_mem _ List.mem_cons_self | decide | simp))
    obtain ⟨q, jl⟩ := y
    have hσ := (ite_inv (show (if tgtOk (scIn (hd.heap_39 P) 200) (S' "choice") = true then some (setV (stJ ms sh rec kd jl q) (S' "choice") (.val (natD i))) else none) = some σ1 from hset)).2
    dsimp only at ey hnext
    have hjl : jl.length = i := by rw [ey]; simp
    -- rings
    have b0 : ∃ q', exS (OJ ms sh rec rl) [] 20 (scIn (hd.heap_39 P) 200) σ1 (J200 P 0) = some (stJ ms sh rec kd jl (some (i, q')), .next) := by
      rw [← hσ]
      have es : ∀ v : Fin 4, (OJ ms sh rec rl).call (.ref 195) [filesD ms, natD i, finD v] = some (natD (ringN ms i v)) := fun v => ring_at ms i v
      cases q with
      | none =>
        refine ⟨none, s_asg rfl rfl (d := ringsD ms i) (r_comp rfl (r_peek (d := .range 0 4 1) rfl (r_call rfl rfl (r_glob rfl rfl) (r_cons r_int r_nil) rfl) fins_it) (by decide) (r_clause rfl (cat_m fun v m => ?_)) (by simp [fins]))⟩
        exact r_one (c := true) r_ifs0 (r_call rfl rfl (r_glob rfl rfl) (r_cons (r_var rfl rfl) (r_cons (r_var rfl rfl) (r_cons (r_var rfl rfl) r_nil))) (es v))
      | some c =>
        obtain ⟨c, q0⟩ := c
        refine ⟨q0, ?_⟩
        cases q0
        all_goals
          refine s_asg rfl rfl (d := ringsD ms i) (r_comp rfl (r_peek (d := .range 0 4 1) rfl (r_call rfl rfl (r_glob rfl rfl) (r_cons r_int r_nil) rfl) fins_it) (by decide) (r_clause rfl (cat_m fun v m => ?_)) (by simp [fins]))
          exact r_one (c := true) r_ifs0 (r_call rfl rfl (r_glob rfl rfl) (r_cons (r_var rfl rfl) (r_cons (r_var rfl rfl) (r_cons (r_var rfl rfl) r_nil))) (es v))
    obtain ⟨q', e0⟩ := b0
    refine wpAny_execs_cons (ex_ok n5 o 20 e0 env V W0 X T A s _ E f am fun fl1 h1 tk1 k1 p1 => ?_)
    obtain ⟨rfl, V1, g1, f1⟩ := fl_next p1
    have hV : kd ∉ V := fun q => f.vw _ q hW
    have d1 : DicAt prog w h1 kd m := dd.at' fun ob e => k1.keep _ _ hV e
    -- the dict
    refine wpAny_execs_cons (jd_in Z hn ms hs R je hkd h0 him (s := { s with heap := h1, toks := tk1 }) f1 hW ⟨m, d1, g, by omega, fun v hv => absurd hv (Nat.not_lt_zero _)⟩ am fun q2 h2 tk2 V2 k2 g2 f2 J2 => ?_)
    obtain ⟨m2, d2, gm2, l2, a2⟩ := J2
    -- judged.append
    have look : ∀ v : Fin 4, dItem kd m2 (.ref kd) (natD (ringN ms i v)) = some (.bool (jd (gm ms) i v)) := fun v => by
      obtain ⟨u, hu⟩ := Option.isSome_iff_exists.mp (a2 v v.2)
      show (if kd = kd then (valueAt m2 ((ringN ms i v : Nat) : Int)).bind asB else none) = _
      rw [if_pos rfl, hu, good_val hs gm2 hu]; rfl
    have b2 : exS (OdD (OJ ms sh rec rl) kd m2) [] 20 (scIn (hd.heap_39 P) 200) (stJ ms sh rec kd jl (some (i, q2))) (J200 P 2) = some (stJ ms sh rec kd (jl ++ [rowD ms i]) (some (i, q2)), .next) := by
      cases q2
      all_goals
        refine s_app rfl ⟨rfl, rfl, rfl⟩ (d := rowD ms i) (r_comp rfl (r_peekV rfl (r_var rfl rfl) rfl) (by simp [fins]) (r_clause rfl (cat_m fun v m => ?_)) (by simp [fins])) (by omega)
        exact r_one (c := true) r_ifs0 (r_subO rfl (r_var rfl rfl) (r_var rfl rfl) (look v))
    refine wpAny_execs_cons (ps_dict (n := n + 5) (m := m2) (t := exec _) (σ' := stJ ms sh rec kd (jl ++ [rowD ms i]) (some (i, q2))) (s := { s with heap := h2, toks := tk2 }) (ex_ok n5 (odd_ok o hkd) 20 b2) f2 hW d2 h0 am fun h3 tk3 V3 k3 g3 f3 d3 => ?_)
    refine wpAny_execs_nil (hnext (some (i, q2), jl ++ [rowD ms i]) h3 tk3 V3 ?_ (g1.more k1 (g2.more k2 g3)) f3 ⟨?_, m2, d3, gm2, by omega⟩)
    · exact ((k1.less fun a m => List.mem_append_right _ m).more g1.pre (k2.more g2.pre (k3.less fun a m => List.mem_append_right _ m)))
    · show jl ++ [rowD ms i] = _
      rw [ey, List.range_succ, List.map_append]; rfl
end
end
section
section
variable {prog : Program} {w : World} {P : Params} {p : Program} {loose : List Str} {mg mb : Str → Option Value} {h₀ h₁ : Heap} {V W0 X T : List Addr} {env : Env} {sc : List (Str × NameKind)}
set_option maxRecDepth 100000 in
theorem b200 (P : Params) : bodyIn (hd.heap_39 P) 200 = [stAt (bodyIn (hd.heap_39 P) 200) 0, stAt (bodyIn (hd.heap_39 P) 200) 1] ++ ([stAt (bodyIn (hd.heap_39 P) 200) 2] ++ [stAt (bodyIn (hd.heap_39 P) 200) 3, stAt (bodyIn (hd.heap_39 P) 200) 4]) ∧ [S' "files", S' "shift"].all (tgtOk (scIn (hd.heap_39 P) 200)) = true ∧
    tgtOk (scIn (hd.heap_39 P) 200) (S' "record") = true ∧ tgtOk (scIn (hd.heap_39 P) 200) (S' "known") = true ∧ (scIn (hd.heap_39 P) 200).lookup (S' "_law_record") = some .globalImplicit := ⟨rfl, rfl, rfl, rfl, rfl⟩
theorem dict_new (h : Heap) : DicAt prog w (h.push { cls := .type "dict", data := .dict #[] }) h.objs.size [] := Heap.DictOf.new (knd := PySem.intKind prog w) h
set_option maxRecDepth 100000 in
theorem judged_call (Z : Wd P p loose mg mb h₀) (Y : Wx mg h₀) {n : Nat} (hn : 1 ≤ n) (ms : Fin 4 → Nat) {sh : Nat} (hs : sh < 20) {W : List Addr} {vs : List Value} {A : Around} {s : Shared} {Q : Value → Shared → Prop} {E : Value → Shared → Prop}
    (b : BaseAt h₀ s.heap W) (al : Al W s.heap) (hZ : ∀ a ∈ ZT, a ∈ W) (tb : Tabs P s.heap W) (r : RepL (fz s.heap W) [filesD ms, natD sh] vs) (am : Amb A (n + 6))
    (hq : ∀ v h' tk', Kw ZT s.heap h' → Tabs P h' W → Rep (fz h' W) (judgedD (jd (gm ms))) v → Q v { s with heap := h', toks := tk' }) :
    wpAny (model prog w) A (call (.ref 200) vs) Q E s := by
  obtain ⟨hb, hk, tr, tk, lR⟩ := b200 P
  have o0 := o0_ok (prog := prog) (w := w) Z (n + 5)
  have n5 : 1 ≤ n + 5 := by omega
  refine call_enter (n := n + 5) (xs := [S' "files", S' "shift"]) (ds := [filesD ms, natD sh]) (us := vs) (args := ⟨vs, []⟩) (fd200 P) (fn200 Z) (fun s _ => BindsTo.of_eq (bi200 P vs r.length)) rfl rfl hk b al r am ?_
  intro env T h1 tk1 hec heq hes k1 hTn f amD E'
  have hsc : (fdIn (hd.heap_39 P) 200).scope.names = scIn (hd.heap_39 P) 200 := rfl
  rw [hsc] at f
  rw [hb]
  have own0 : ∀ x ds, (([S' "files", S' "shift"].zip (List.map B.val [filesD ms, natD sh])) : Vars).lookup x ≠ some (.own ds) := noOwn_of (by
    intro q m
    have m : q ∈ [(S' "files", B.val (filesD ms)), (S' "shift", B.val (natD sh))] := m
    rcases List.mem_cons.mp m with rfl | m
    · rfl
    · rw [List.mem_singleton.mp m]; rfl)
  have wT : ∀ {a}, a ∈ W → a ∉ T := fun {a} m q => f.vw a (f.tv a q) m
  have zTW : ∀ a ∈ ZT, a ∈ T ++ W := fun a m => List.mem_append_right _ (hZ a m)
  have sub1 : Sub (fz s.heap W) (fz h1 (T ++ W)) := fz_gr ⟨fun a m => List.mem_append_right _ m, fun a m => by
    rcases List.mem_append.mp m with m | m
    · exact .inr (hTn a m)
    · exact .inl m⟩ k1
  have t1 : Tabs P h1 (T ++ W) := tb.up sub1 fun a m ob e => k1 _ _ e
  -- record
  refine wpAny_execs_cons ?_
  show wpAny (model prog w) _ (exec (.Assign [.Name (S' "record") _] (.Call (.Name (S' "_law_record") _) [.Name (S' "files") _, .Name (S' "shift") _] [] _) _) env) _ E' _
  refine wpAny_Assign_Name (call_nm o0 (a := 185) (s := { s with heap := h1, toks := tk1 }) rfl lR (isFd_at Z.X (isFds P).2.1) rfl f amD fun h2 tk2 k2 f2 => ?_) rfl
  refine arg_cons rfl (name_val (h := h2) (W := T ++ W) (d := filesD ms) f2.eo.kind f2.vo rfl _ { s with heap := h2, toks := tk2 } _ E' (Kp.refl _) amD fun u3 h3 tk3 k3 r3 => ?_)
  have f3 := f2.kp o0 k3
  refine arg_cons rfl (name_val (h := h3) (W := T ++ W) (d := natD sh) f3.eo.kind f3.vo rfl _ { s with heap := h3, toks := tk3 } _ E' (Kp.refl _) amD fun u4 h4 tk4 k4 r4 => ?_)
  have f4 := f3.kp o0 k4
  have k14 := (k2.trans k3).trans k4
  have t4 : Tabs P h4 (T ++ W) := t1.up (fz_mono k14) fun a _ ob e => k14 _ _ e
  refine arg_nil ⟨f4.base.1, ?_⟩
  refine record_call (s := { s with heap := h4, toks := tk4 }) Z Y hn ms hs f4.base f4.al zTW t4 ⟨_, _, rfl, Rep.mono (fz_mono k4) r3, _, _, rfl, r4, rfl⟩ amD fun rec rl h5 tk5 k5 t5 R5 je => ?_
  have f5 := f4.touchL o0 k5.keep (fun d m => t5.live d m) zTW (fun d m => wT (hZ d m)) (fun d m => by
    rcases List.mem_cons.mp m with rfl | m
    · exact t4.t1.noCell
    · rw [List.mem_singleton.mp m]; exact t4.t2.noCell) own0
  refine store_ok f5.eo f5.fra (tgt_2 tr) f5.tx fun h6 tk6 k6 F6 hv6 ho6 => ?_
  have f6 := f5.set o0 k6 F6 (tgt_1 tr) hv6 ho6 (b := .val (.cst (.ref rec))) rfl fun ds a q => by cases q
  have sub6 : Sub (fz h5 (T ++ W)) (fz h6 (T ++ W)) := fz_kw k6.keep fun a m => List.mem_append_left _ (f.tv a m)
  have t6 : Tabs P h6 (T ++ W) := t5.up sub6 fun a m ob e => k6.keep _ _ (wT (hZ a m)) e
  -- known
  refine wpAny_execs_cons ?_
  show wpAny (model prog w) _ (exec (.Assign [.Name (S' "known") _] (.Dict [] [] _) _) env) _ E' _
  refine wpAny_Assign_Name (wpAny_Dict_empty ?_) rfl
  have kp7 : Kp h6 (h6.push { cls := .type "dict", data := .dict #[] }) := Kp.push _ _
  have d7 : DicAt prog w (h6.push { cls := .type "dict", data := .dict #[] }) h6.objs.size [] := dict_new h6
  have nk : h6.get? h6.objs.size = none := size_none _
  have lim : (h6.objs.size == sysModules) = false := beq_eq_false_iff_ne.mpr (Nat.ne_of_gt (modules_low (Z.T.nolimit.keeps f6.base.1)))
  generalize hkd : h6.objs.size = kd at d7 nk lim
  generalize h6.push { cls := .type "dict", data := .dict #[] } = h7 at kp7 d7
  have f7 := f6.kp o0 kp7
  refine store_ok (s := { s with heap := h7, toks := tk6 }) f7.eo f7.fra (tgt_2 tk) f7.tx fun h8 tk8 k8 F8 hv8 ho8 => ?_
  have f8 := f7.set o0 k8 F8 (tgt_1 tk) hv8 ho8 (b := .val (.cst (.ref kd))) rfl fun ds a q => by cases q
  have kdT : kd ∉ T := fun m => f6.out nk (List.mem_append_left _ (f.tv _ m))
  have d8 : DicAt prog w h8 kd [] := d7.at' fun ob e => k8.keep _ _ kdT e
  have sub8 : Sub (fz h6 (T ++ W)) (fz h8 (T ++ W)) := Sub.trans (fz_mono kp7) (fz_kw k8.keep fun a m => List.mem_append_left _ (f.tv a m))
  have t8 : Tabs P h8 (T ++ W) := t6.up sub8 fun a m ob e => k8.keep _ _ (wT (hZ a m)) (kp7 _ _ e)
  have R8 := R5.up (Sub.trans sub6 sub8)
  -- a new ground
  have b8 : BaseAt h₀ h8 (T ++ kd :: W) := ⟨f8.base.1, fun a m => by
    rcases List.mem_append.mp m with m | m
    · exact f8.base.2 a (List.mem_append_left _ m)
    · rcases List.mem_cons.mp m with rfl | m
      · cases q : h₀.get? a with
        | none => rfl
        | some ob => rw [f6.base.1 _ _ q] at nk; cases nk
      · exact f8.base.2 a (List.mem_append_right _ m)⟩
  have f9 : FS (BaseAt h₀) h8 T (kd :: W) [] env (scIn (hd.heap_39 P) 200) T _ := f8.hideJ (J := [kd]) (fun a m => by
    rw [List.mem_singleton.mp m]
    obtain ⟨oo, _, _, e, c, _⟩ := d8.obj
    exact ⟨oo, e, c⟩) (fun a m => by rw [List.mem_singleton.mp m]; exact b8.2 kd (by (first | exact List.mem_cons_self | exact List.mem_cons_of_mem _ List.mem_cons_self | decide | simp))) (fun a m => by
    rw [List.mem_singleton.mp m]; exact kdT)
  have kg : Kp h₀ (hideAll h8 (T ++ kd :: W)) := ground_kp b8
  have Z1 : Wd P p loose mg mb (hideAll h8 (T ++ kd :: W)) := ⟨Z.X.keeps kg, Z.T.keeps kg⟩
  have f10 := f9.rebase
  have k0 : (hideAll h8 (T ++ kd :: W)).get? kd = none := hideAll_none _ (by (first | exact List.mem_cons_self | exact List.mem_cons_of_mem _ List.mem_cons_self | decide | simp))
  have h68 : ∀ {a ob}, a ∉ T → h6.get? a = some ob → h8.get? a = some ob := fun {a ob} na e => k8.keep _ _ na (kp7 _ _ e)
  have ne6 : ∀ {a ob}, h6.get? a = some ob → a ≠ kd := fun {a ob} e q => by rw [q, nk] at e; cases e
  have R10 : RecAt P ((hideAll h8 (T ++ kd :: W)).get? ·) rec rl := R5.up (Sub.trans sub6 fun a ob q => by
    obtain ⟨na, e⟩ := fz_some.mp q
    have nT : a ∉ T := fun m => na (List.mem_append_left _ m)
    refine hideAll_get _ (h68 nT e) fun m => ?_
    rcases List.mem_append.mp m with m | m
    · exact nT m
    · rcases List.mem_cons.mp m with m | m
      · exact ne6 e m
      · exact na (List.mem_append_right _ m))
  have oJ := oj_ok (prog := prog) (w := w) Z1 hn ms hs R10
  have e2 : blkD (exS (OJ ms sh rec rl) [S' "judged"] 20 (scIn (hd.heap_39 P) 200)) [stAt (bodyIn (hd.heap_39 P) 200) 2] (setV (setV ([S' "files", S' "shift"].zip (List.map B.val [filesD ms, natD sh])) (S' "record") (.val (.cst (.ref rec)))) (S' "known") (.val (.cst (.ref kd)))) = some (stJ ms sh rec kd [] none, .next) := b_next (s_own rfl rfl) b_nil
  refine blk_then n5 oJ e2 T (A.deeper env) { s with heap := h8, toks := tk8 } _ E' f10 amD fun h11 tk11 V11 k11 g11 f11 => ?_
  have d11 : DicAt prog w h11 kd [] := d8.at' fun ob e => k11.keep _ _ kdT e
  refine wpAny_execs_cons (jd_out Z1 hn ms hs R10 je lim k0 (s := { s with heap := h11, toks := tk11 }) f11 (by (first | exact List.mem_cons_self | exact List.mem_cons_of_mem _ List.mem_cons_self | decide | simp)) d11 amD fun y h12 tk12 V12 k12 g12 f12 ey => ?_)
  have e4 : blkD (exS (OJ ms sh rec rl) [] 20 (scIn (hd.heap_39 P) 200)) [stAt (bodyIn (hd.heap_39 P) 200) 4] (stJ ms sh rec kd y.2 y.1) = some (stJ ms sh rec kd y.2 y.1, .ret (judgedD (jd (gm ms)))) := by
    refine b_ret (s_ret ?_)
    refine (r_var rfl (d := .list y.2) rfl).trans ?_
    rw [ey]; rfl
  refine blk_all n5 oJ 20 e4 env V12 (kd :: W) [] T (A.deeper env) { s with heap := h12, toks := tk12 } _ E' f12 amD fun fl h13 tk13 k13 p13 => ?_
  cases fl <;> first | exact p13.elim | skip
  rename_i v
  have r13 : Rep (fz h13 (kd :: W)) (judgedD (jd (gm ms))) v := p13
  have key : ∀ {a ob}, a ∉ T → h6.get? a = some ob → h13.get? a = some ob := fun {a ob} na e => by
    have e8 := h68 na e
    have n11 : a ∉ V11 := fun m => (g11.new a m).elim na fun z => by rw [show ({ s with heap := h8, toks := tk8 } : Shared).heap.get? a = _ from e8] at z; cases z
    have e11 := k11.keep _ _ na e8
    have n12 : a ∉ V12 := fun m => (g12.new a m).elim n11 fun z => by rw [show ({ s with heap := h11, toks := tk11 } : Shared).heap.get? a = _ from e11] at z; cases z
    exact k13.keep _ _ n12 (k12.keep _ _ (fun m => by
      rcases List.mem_append.mp m with m | m
      · exact ne6 e (List.mem_singleton.mp m)
      · exact n11 m) e11)
  refine hq v h13 tk13 ⟨fun a ob na e => ?_, fun a ⟨ob, e⟩ => ?_⟩ (t6.up (fun a ob q => ?_) fun a m ob e => key (wT (hZ a m)) e) (Rep.mono (fz_less fun a m => List.mem_cons_of_mem _ m) r13)
  · have e1 := k1 _ _ e
    have nT : a ∉ T := fun m => by rw [hTn a m] at e; cases e
    exact key nT (k6.keep _ _ nT (k5.keep _ _ na (k14 _ _ e1)))
  · exact k13.live a (k12.live a (k11.live a (k8.live a (let ⟨o6, e6⟩ := k6.live a (k5.live a ⟨ob, k14 _ _ (k1 _ _ e)⟩); ⟨o6, kp7 _ _ e6⟩))))
  · obtain ⟨na, e⟩ := fz_some.mp q
    exact fz_some.mpr ⟨fun m => na (List.mem_append_right _ m), key (fun m => na (List.mem_append_left _ m)) e⟩
end
end
section
noncomputable abbrev iL (xs : List Int) : D := .list (xs.map .int)
theorem mode_nn (xs : List Int) : ∀ m ∈ modesL xs, 0 ≤ m := fun m hm => by
  unfold modesL at hm
  rcases List.mem_append.mp hm with h | h
  · obtain ⟨i, _, rfl⟩ := List.mem_map.mp h
    unfold modeK
    exact Int.emod_nonneg _ (by decide)
  · have := List.mem_of_mem_take h
    simp at this
    rcases this with rfl | rfl | rfl | rfl <;> decide
theorem modes_len (xs : List Int) : (modesL xs).length = 4 := by
  unfold modesL
  rw [List.length_append, List.length_map, List.length_range, List.length_take]
  exact (congrArg (min 4 xs.length + ·) (Nat.min_eq_left (Nat.sub_le _ _))).trans (Nat.add_sub_of_le (Nat.min_le_left _ _))
noncomputable def msF (dr : List Int) (v : Fin 4) : Nat := ((modesL dr).getD v.1 0).toNat
noncomputable def modesD (ms : Fin 4 → Nat) : D := .list (fins.map fun v => natD (ms v))
theorem four {l : List Int} (hl : l.length = 4) (h : ∀ m ∈ l, 0 ≤ m) : l.map D.int = fins.map fun v => natD ((l.getD v.1 0).toNat) := by
  obtain ⟨a, _, rfl, h1⟩ := len_cons hl
  obtain ⟨b, _, rfl, h2⟩ := len_cons h1
  obtain ⟨c, _, rfl, h3⟩ := len_cons h2
  obtain ⟨d, _, rfl, h4⟩ := len_cons h3
  rw [List.length_eq_zero_iff.mp h4] at h ⊢
  have e : ∀ {z : Int}, z ∈ [a, b, c, d] → D.int z = natD z.toNat := fun m => congrArg D.int (Int.toNat_of_nonneg (h _ m)).symm
  show [D.int a, .int b, .int c, .int d] = [natD a.toNat, natD b.toNat, natD c.toNat, natD d.toNat]
  rw [e List.mem_cons_self, e (List.mem_cons_of_mem _ List.mem_cons_self), e (List.mem_cons_of_mem _ (List.mem_cons_of_mem _ List.mem_cons_self)), e (List.mem_cons_of_mem _ (List.mem_cons_of_mem _ (List.mem_cons_of_mem _ List.mem_cons_self)))]
theorem modes_is (dr : List Int) : iL (modesL dr) = modesD (msF dr) := congrArg D.list (four (modes_len dr) (mode_nn dr))
noncomputable def wonL (ms : Fin 4 → Nat) : List (Fin 4) := fins.filter fun v => winsF (gm ms) 4 [v]
noncomputable def lostL (ms : Fin 4 → Nat) : List (Fin 4) := fins.filter fun v => !((wonL ms).contains v)
noncomputable def sureD (ms : Fin 4 → Nat) (b : Bool) : D := .list ((sureL (jd (gm ms)) (placesB ms b) b).map startsD)
noncomputable def st2 (xs : List Int) : Vars := [(S' "script", .val (iL xs)), (S' "drawn", .val (iL (xs.take 60))), (S' "modes", .val (modesD (msF (xs.take 60))))]
noncomputable def st3 (xs : List Int) : Vars := st2 xs ++ [(S' "judged", .val (judgedD (jd (gm (msF (xs.take 60))))))]
noncomputable def st8 (xs : List Int) : Vars := st3 xs ++ [(S' "files", .val (filesD (msF (xs.take 60)))), (S' "won", .val (startsD (wonL (msF (xs.take 60))))), (S' "lost", .val (startsD (lostL (msF (xs.take 60))))), (S' "guests", .val (sureD (msF (xs.take 60)) true)), (S' "guards", .val (sureD (msF (xs.take 60)) false))]
theorem eq_starts : ∀ (l l' : List (Fin 4)), l.length = l'.length → eqL (eqD 2) (l.map finD) (l'.map finD) = some (l == l')
  | [], [], _ => rfl
  | a :: l, b :: l', h => by
    rw [List.map_cons, List.map_cons]
    have e : eqD 2 (finD a) (finD b) = some (a == b) := by
      show some (((a.1 : Int)) == (b.1 : Int)) = _
      rw [eq_int (c := (a == b)) (by simp [Fin.ext_iff])]
    exact bnd e (bnd (eq_starts l l' (Nat.succ.inj h)) rfl)
  | [], _ :: _, h => by cases h
  | _ :: _, [], h => by cases h
noncomputable abbrev sc5 (P : Params) := scIn (hd.heap_39 P) 215
noncomputable abbrev s5 (P : Params) (i : Nat) : Stmt := stAt (bodyIn (hd.heap_39 P) 215) i
set_option maxRecDepth 100000 in
theorem l_pre (P : Params) (xs : List Int) (hz : xs.length ≤ 1000) (ms : Fin 4 → Nat) : blkD (exS (OL ms) [] 20 (sc5 P)) [s5 P 0, s5 P 1] [(S' "script", .val (iL xs))] = some (st2 xs, .next) := by
  have hl : (xs.map D.int).length = xs.length := by simp
  have h60 : (xs.take 60).length ≤ 60 := by simp; omega
  refine b_next (σ1 := [(S' "script", .val (iL xs)), (S' "drawn", .val (iL (xs.take 60)))]) (s_asg rfl rfl (r_call rfl rfl (r_glob rfl rfl) (r_cons (d := iL (xs.take 60)) (r_slc (r_var rfl rfl) r_part0 (r_part r_int) ?_) r_nil) ?_)) (b_next (s_asg rfl rfl (d := modesD (msF (xs.take 60))) (r_call rfl rfl (r_glob rfl rfl) (r_cons (r_var rfl rfl) r_nil) ?_)) (b_end rfl))
  · rw [cut_list (by rw [hl]; (first | lia | omega)), show (60 : Int) = ((60 : Nat) : Int) from rfl, slice_to, ← List.map_take]
  · show (if ((xs.take 60).map D.int).length ≤ 1048576 then some (iL (xs.take 60)) else none) = _
    rw [if_pos (by rw [List.length_map]; (first | lia | omega))]
  · rw [← modes_is]
    show cL ms (.ref 152) [iL (xs.take 60)] = _
    exact (orcL_L rfl).trans (if_pos h60)
theorem eq_sts (l l' : List (Fin 4)) : eqD 3 (startsD l) (startsD l') = some (l == l') := by
  show (if (l.map finD).length = (l'.map finD).length then eqL (eqD 2) (l.map finD) (l'.map finD) else some false) = _
  rw [List.length_map, List.length_map]
  by_cases h : l.length = l'.length
  · rw [if_pos h]; exact eq_starts l l' h
  · rw [if_neg h]
    congr 1
    exact (beq_eq_false_iff_ne.mpr fun e => h (by rw [e])).symm
theorem any_sts (a : List (Fin 4)) : ∀ S : List (List (Fin 4)), anyD (fun e => eqD 3 e (startsD a)) (S.map startsD) = some (S.contains a)
  | [] => rfl
  | l :: S => by
    rw [List.map_cons]
    refine bnd (eq_sts l a) (bnd (any_sts a S) ?_)
    rw [List.contains_cons, Bool.beq_comm]
theorem in_sure {ms : Fin 4 → Nat} {b : Bool} {l : List (Fin 4)} (h : l ∈ sureL (jd (gm ms)) (placesB ms b) b) : cmpD .In (startsD l) (sureD ms b) = some true := by
  show anyD (fun e => eqD 3 e (startsD l)) ((sureL (jd (gm ms)) (placesB ms b) b).map startsD) = _
  rw [any_sts, List.contains_iff_mem.mpr h]
theorem plain_ms (ms : Fin 4 → Nat) : wonL ms ∈ sureL (jd (gm ms)) (placesB ms true) true ∧ lostL ms ∈ sureL (jd (gm ms)) (placesB ms false) false := by
  obtain ⟨a, b⟩ := plain (gm ms)
  have e1 : placesB ms true = fins.filter fun v => (gm ms).own v := List.filter_congr fun v _ => by cases (gm ms).own v <;> rfl
  have e2 : placesB ms false = fins.filter fun v => !((gm ms).own v) := List.filter_congr fun v _ => by cases (gm ms).own v <;> rfl
  rw [e1, e2]
  exact ⟨a, b⟩
set_option maxRecDepth 100000 in
theorem l_post (P : Params) (xs : List Int) : blkD (exS (OL (msF (xs.take 60))) [] 20 (sc5 P)) [s5 P 3, s5 P 4, s5 P 5, s5 P 6, s5 P 7, s5 P 8] (st3 xs) = some (st8 xs, .ret (.bool true)) := by
  have hst : st3 xs = [(S' "script", .val (iL xs)), (S' "drawn", .val (iL (xs.take 60))), (S' "modes", .val (modesD (msF (xs.take 60)))), (S' "judged", .val (judgedD (jd (gm (msF (xs.take 60))))))] := rfl
  have hst8 : st8 xs = [(S' "script", .val (iL xs)), (S' "drawn", .val (iL (xs.take 60))), (S' "modes", .val (modesD (msF (xs.take 60)))), (S' "judged", .val (judgedD (jd (gm (msF (xs.take 60)))))), (S' "files", .val (filesD (msF (xs.take 60)))), (S' "won", .val (startsD (wonL (msF (xs.take 60))))), (S' "lost", .val (startsD (lostL (msF (xs.take 60))))), (S' "guests", .val (sureD (msF (xs.take 60)) true)), (S' "guards", .val (sureD (msF (xs.take 60)) false))] := rfl
  rw [hst, hst8]
  obtain ⟨p1, p2⟩ := plain_ms (msF (xs.take 60))
  generalize msF (xs.take 60) = ms at p1 p2 ⊢
  have t166 : ∀ v : Fin 4, (OL ms).call (.ref 166) [natD (ms v)] = some (fileD (ms v)) := fun v => by
    show (if (0 : Int) ≤ ((ms v : Nat) : Int) then some (fileD ((ms v : Nat) : Int).toNat) else none) = _
    rw [if_pos (Int.natCast_nonneg _), Int.toNat_natCast]
  have t205 : ∀ v : Fin 4, (OL ms).call (.ref 205) [filesD ms, startsD [v]] = some (.bool (winsF (gm ms) 4 [v])) := fun v =>
    fam_at (args := fun v => winA ms [v]) (res := fun v => .bool (winsF (gm ms) 4 [v])) v fun j e => congrArg (fun l => D.bool (winsF (gm ms) 4 l)) (winA_inj e)
  have t210 : ∀ b : Bool, (OL ms).call (.ref 210) (sureA ms b) = some (sureD ms b) := fun b =>
    fam_at (args := sureA ms) (res := fun b => .list ((sureL (jd (gm ms)) (placesB ms b) b).map startsD)) b fun j e => by
      have : j = b := D.bool.inj (List.cons.inj (List.cons.inj (List.cons.inj e).2).2).1
      rw [this]
  refine b_next (s_asg rfl rfl (d := filesD ms) (r_comp rfl (r_peekV rfl (r_var rfl rfl) rfl) (by simp [fins]) (r_clause rfl (cat_m fun v m => r_one (c := true) r_ifs0 (r_call rfl rfl (r_glob rfl rfl) (r_cons (r_var rfl rfl) r_nil) (t166 v)))) (by simp [fins]))) ?_
  refine b_next (s_asg rfl rfl (d := startsD (wonL ms)) (r_comp rfl (r_peek (d := .range 0 4 1) rfl (r_call rfl rfl (r_glob rfl rfl) (r_cons r_int r_nil) rfl) fins_it) (by decide) (r_clause rfl (cat_fm fun v m => r_one (r_ifs1 (t_val rfl (r_call rfl rfl (r_glob rfl rfl) (r_cons (r_var rfl rfl) (r_cons (r_list rfl (r_cons (r_var rfl rfl) r_nil) (by (first | exact List.mem_cons_self | exact List.mem_cons_of_mem _ List.mem_cons_self | decide | simp))) r_nil)) (t205 v)) rfl)) (r_var rfl rfl))) (fm_le (by decide)))) ?_
  refine b_next (s_asg rfl rfl (d := startsD (lostL ms)) (r_comp rfl (r_peek (d := .range 0 4 1) rfl (r_call rfl rfl (r_glob rfl rfl) (r_cons r_int r_nil) rfl) fins_it) (by decide) (r_clause rfl (cat_fm fun v m => r_one (r_ifs1 (t_cmp rfl (r_var rfl rfl) (r_var rfl rfl) (any_finN v (wonL ms)))) (r_var rfl rfl))) (fm_le (by decide)))) ?_
  refine b_next (s_asg rfl rfl (d := sureD ms true) (r_call rfl rfl (r_glob rfl rfl) (r_cons (r_var rfl rfl) (r_cons (d := startsD (placesB ms true)) ?_ (r_cons r_bool r_nil))) (t210 true))) ?_
  · refine r_comp rfl (r_peek (d := .range 0 4 1) rfl (r_call rfl rfl (r_glob rfl rfl) (r_cons r_int r_nil) rfl) fins_it) (by decide) (r_clause rfl (cat_fm fun v m => r_one (r_ifs1 ((t_not (t_val rfl (r_sub rfl (r_sub rfl (r_var rfl rfl) (r_var rfl rfl) (file_at ms v)) r_int rfl) (truD_bool (bt (ms v) 11)))).trans ?_)) (r_var rfl rfl))) (fm_le (by decide))
    show some (!(bt (ms v) 11)) = some ((!(bt (ms v) 11)) == true)
    cases bt (ms v) 11 <;> rfl
  refine b_next (s_asg rfl rfl (d := sureD ms false) (r_call rfl rfl (r_glob rfl rfl) (r_cons (r_var rfl rfl) (r_cons (d := startsD (placesB ms false)) ?_ (r_cons r_bool r_nil))) (t210 false))) ?_
  · refine r_comp rfl (r_peek (d := .range 0 4 1) rfl (r_call rfl rfl (r_glob rfl rfl) (r_cons r_int r_nil) rfl) fins_it) (by decide) (r_clause rfl (cat_fm fun v m => r_one (r_ifs1 ((t_val rfl (r_sub rfl (r_sub rfl (r_var rfl rfl) (r_var rfl rfl) (file_at ms v)) r_int rfl) (truD_bool (bt (ms v) 11))).trans ?_)) (r_var rfl rfl))) (fm_le (by decide))
    show some (bt (ms v) 11) = some ((!(bt (ms v) 11)) == false)
    cases bt (ms v) 11 <;> rfl
  exact b_ret (s_ret (r_and (r_cmp rfl (r_var rfl rfl) (r_var rfl rfl) (in_sure p1)) rfl (r_cmp rfl (r_var rfl rfl) (r_var rfl rfl) (in_sure p2))))
end
section
section
variable {prog : Program} {w : World} {P : Params} {p : Program} {loose : List Str} {mg mb : Str → Option Value} {h₀ : Heap} {T : List Addr} {env : Env}
set_option maxRecDepth 100000 in
theorem b215 (P : Params) : bodyIn (hd.heap_39 P) 215 = [s5 P 0, s5 P 1] ++ ([s5 P 2] ++ [s5 P 3, s5 P 4, s5 P 5, s5 P 6, s5 P 7, s5 P 8]) ∧ (sc5 P).lookup (S' "_law_judged") = some .globalImplicit ∧ tgtOk (sc5 P) (S' "judged") = true ∧ [S' "script"].all (tgtOk (sc5 P)) = true ∧ nsIn (hd.heap_39 P) mainGlobals (S' "law") = some (some (.ref 215)) := ⟨rfl, rfl, rfl, rfl, rfl⟩
theorem st2_noOwn (xs : List Int) : ∀ x ds, (st2 xs).lookup x ≠ some (.own ds) := noOwn_of (by
  intro q m
  unfold st2 at m
  simp only [List.mem_cons, List.not_mem_nil, or_false] at m
  rcases m with rfl | rfl | rfl <;> rfl)
set_option maxRecDepth 100000 in
theorem law_body (Z : Wd P p loose mg mb h₀) (Y : Wx mg h₀) {n : Nat} (hn : 1 ≤ n) {xs : List Int} (hz : xs.length ≤ 1000) {W : List Addr} {A : Around} {s : Shared} {Q : Flow → Shared → Prop} {E : Value → Shared → Prop} (f : FS (BaseAt h₀) s.heap T W [] env (sc5 P) T [(S' "script", .val (iL xs))]) (hZ : ∀ a ∈ ZT, a ∈ W) (tb : Tabs P s.heap (T ++ W)) (am : Amb A (n + 6))
    (hq : ∀ h' tk', Kk (ZT ++ T) s.heap h' → (∀ a ∈ ZT, ∃ ps, h'.get? a = some (tabObj ps)) → Q (.ret (.bool true)) { s with heap := h', toks := tk' }) :
    wpAny (model prog w) A (execs (bodyIn (hd.heap_39 P) 215) env) Q E s := by
  obtain ⟨hb, lJ, tj, _, _⟩ := b215 P
  have o : OrcOK prog w (n + 6) (BaseAt h₀) (OL (msF (xs.take 60))) := ol_ok (n := n + 2) Z (by omega) _
  have n6 : 1 ≤ n + 6 := by omega
  have zT : ∀ a ∈ ZT, a ∉ T := fun a m q => f.vw a (f.tv a q) (hZ a m)
  rw [hb]
  refine blk_then n6 o (l_pre P xs hz _) T A s Q E f am fun h1 tk1 V1 k1 g1 f1 => ?_
  have z1 : ∀ a ∈ ZT, a ∉ V1 := fun a m q => f1.vw _ q (hZ a m)
  have t1 : Tabs P h1 (V1 ++ W) := tb.up (fz_kg k1 g1) fun a m o e => k1.keep _ _ (zT a m) e
  have zW : ∀ a ∈ ZT, a ∈ V1 ++ W := fun a m => List.mem_append_right _ (hZ a m)
  have h60 : (xs.take 60).length ≤ 60 := by simp; omega
  have hl2 : ((xs.take 60).map D.int).length = (xs.take 60).length := by simp
  have hs20 : (xs.take 60).length % 20 < 20 := Nat.mod_lt _ (by decide)
  refine wpAny_execs_cons ?_
  show wpAny (model prog w) A (exec (.Assign [.Name (S' "judged") _] (.Call (.Name (S' "_law_judged") _) [.ListComp _ _ _ _, .BinOp (.Call (.Name (S' "len") _) [.Name (S' "drawn") _] [] _) .Mod (.Constant (.int 20) _ _) _] [] _) _) env) _ E _
  refine wpAny_Assign_Name (call_nm o (a := 200) (s := { s with heap := h1, toks := tk1 }) rfl lJ (isFd_at Z.X (isFds P).2.2) rfl f1 am fun h2 tk2 k2 f2 => ?_) rfl
  refine arg_cons rfl ((ev_all n6 o 20).1 (sc5 P) (st2 xs) _ (filesD (msF (xs.take 60))) ?_ env h2 (V1 ++ W) [] f2.eo f2.cal f2.vo f2.al f2.base f2.xw A { s with heap := h2, toks := tk2 } _ E (Kp.refl _) am fun u3 h3 tk3 k3 r3 => ?_)
  · have t159 : ∀ v : Fin 4, (OL (msF (xs.take 60))).call (.ref 159) [natD (msF (xs.take 60) v)] = some (fileD (msF (xs.take 60) v)) := fun v => by
      show (if (0 : Int) ≤ ((msF (xs.take 60) v : Nat) : Int) then some (fileD ((msF (xs.take 60) v : Nat) : Int).toNat) else none) = _
      rw [if_pos (Int.natCast_nonneg _), Int.toNat_natCast]
    exact r_comp rfl (r_peekV rfl (r_var rfl rfl) rfl) (by simp [fins]) (r_clause rfl (cat_m fun v m => r_one (c := true) r_ifs0 (r_call rfl rfl (r_glob rfl rfl) (r_cons (r_var rfl rfl) r_nil) (t159 v)))) (by simp [fins])
  have f3 := f2.kp o k3
  refine arg_cons rfl ((ev_all n6 o 20).1 (sc5 P) (st2 xs) _ (natD ((xs.take 60).length % 20)) ?_ env h3 (V1 ++ W) [] f3.eo f3.cal f3.vo f3.al f3.base f3.xw A { s with heap := h3, toks := tk3 } _ E (Kp.refl _) am fun u4 h4 tk4 k4 r4 => ?_)
  · have hc := call_len (O := OL (msF (xs.take 60))) (ds := (xs.take 60).map D.int) (by rw [hl2]; (first | lia | omega))
    rw [hl2] at hc
    exact r_bin (r_call rfl rfl (r_glob rfl rfl) (r_cons (r_var rfl rfl) r_nil) hc) r_int ((bin_mod (by decide)).trans rfl)
  have f4 := f3.kp o k4
  have k14 := (k2.trans k3).trans k4
  have t4 : Tabs P h4 (V1 ++ W) := t1.up (fz_mono k14) fun a _ ob e => k14 _ _ e
  refine arg_nil ⟨f4.base.1, ?_⟩
  refine judged_call (s := { s with heap := h4, toks := tk4 }) Z Y hn (msF (xs.take 60)) hs20 f4.base f4.al zW t4 ⟨_, _, rfl, Rep.mono (fz_mono k4) r3, _, _, rfl, r4, rfl⟩ am fun v h5 tk5 k5 t5 r5 => ?_
  have f5 := f4.touchL o k5.keep (fun d m => t5.live d m) zW (fun d m q => z1 d m (f4.tv d q)) (fun d m => by
    rcases List.mem_cons.mp m with rfl | m
    · exact t4.t1.noCell
    · rw [List.mem_singleton.mp m]; exact t4.t2.noCell) (st2_noOwn xs)
  refine store_ok f5.eo f5.fra (tgt_2 tj) f5.tx fun h6 tk6 k6 F6 hv6 ho6 => ?_
  have f6 := f5.set o k6 F6 (tgt_1 tj) hv6 ho6 (b := .val (judgedD (jd (gm (msF (xs.take 60)))))) (BRep.st (b := .val (judgedD (jd (gm (msF (xs.take 60)))))) k6.keep f5.fra (fun a m => List.mem_append_left _ (f5.tv a m)) r5) fun ds a q => by cases q
  have eσ : setV (st2 xs) (S' "judged") (.val (judgedD (jd (gm (msF (xs.take 60)))))) = st3 xs := rfl
  rw [eσ] at f6
  refine blk_all n6 o 20 (l_post P xs) env V1 W [] T A { s with heap := h6, toks := tk6 } Q E f6 am fun fl h7 tk7 k7 p7 => ?_
  cases fl <;> first | exact p7.elim | skip
  rename_i v7
  have r7 : v7 = .bool true := p7
  subst r7
  have nV : ∀ {a : Addr} {o : Obj}, a ∉ ZT ++ T → s.heap.get? a = some o → a ∉ V1 := fun {a o} na e q => by
    rcases g1.new a q with z | z
    · exact na (List.mem_append_right _ z)
    · rw [z] at e; cases e
  have tabs : ∀ {h W}, Tabs P h W → ∀ a ∈ ZT, ∃ ps, h.get? a = some (tabObj ps) := fun {h W} t a m => by
    rcases List.mem_cons.mp m with rfl | m
    · rcases t.t1 with e | ⟨_, _, e, _⟩ <;> exact ⟨_, e⟩
    · rw [List.mem_singleton.mp m]
      rcases t.t2 with e | ⟨_, _, e, _⟩ <;> exact ⟨_, e⟩
  refine hq h7 tk7 (fun a o na e => ?_) fun a m => ?_
  · have nT : a ∉ T := fun q => na (List.mem_append_right _ q)
    exact k7.keep _ _ (nV na e) (k6.keep _ _ nT (k5.keep _ _ (fun q => na (List.mem_append_left _ q)) (k14 _ _ (k1.keep _ _ nT e))))
  · obtain ⟨ps, e⟩ := tabs t5 a m
    exact ⟨ps, k7.keep _ _ (z1 a m) (k6.keep _ _ (zT a m) e)⟩
theorem law_call (Z : Wd P p loose mg mb h₀) (Y : Wx mg h₀) {n : Nat} (hn : 1 ≤ n) {xs : List Int} (hz : xs.length ≤ 1000) {us : List Value} {A : Around} {s : Shared} {R : Result → Shared → Prop} (b : BaseAt h₀ s.heap ZT) (al : Al ZT s.heap) (tb : Tabs P s.heap ZT) (r : RepL (fz s.heap ZT) [iL xs] us) (am : Amb A (n + 7))
    (hq : ∀ h' tk', Kk ZT s.heap h' → (∀ a ∈ ZT, ∃ ps, h'.get? a = some (tabObj ps)) → R (.ok (.ret (.bool true))) { s with heap := h', toks := tk' }) : codeAny (model prog w) A (.call (.ref 215) ⟨us, []⟩) R s := by
  refine call_enterC (n := n + 6) (W := ZT) (xs := [S' "script"]) (ds := [iL xs]) (us := us) (args := ⟨us, []⟩) (fd215 P) (fn215 Z) (fun s _ => BindsTo.of_eq (bi215 P us r.length)) rfl rfl (b215 P).2.2.2.1 b al r am ?_
  intro env T h1 tk1 hec heq hes k1 hTn f amD E'
  have sub1 : Sub (fz s.heap ZT) (fz h1 (T ++ ZT)) := fz_gr ⟨fun a m => List.mem_append_right _ m, fun a m => by
    rcases List.mem_append.mp m with m | m
    · exact .inr (hTn a m)
    · exact .inl m⟩ k1
  refine law_body (s := { s with heap := h1, toks := tk1 }) Z Y hn hz f (fun a m => m) (tb.up sub1 fun a _ o e => k1 _ _ e) amD fun h' tk' kk ht => ?_
  refine hq h' tk' (fun a o na e => kk _ _ (fun m => ?_) (k1 _ _ e)) ht
  rcases List.mem_append.mp m with m | m
  · exact na m
  · rw [hTn a m] at e; cases e
end
theorem well_dict {Pm : Params} {h : Heap} {a : Addr} {xs : List WData} (hw : Well Pm h (.ref a) (.list xs)) {o : Obj} (ho : h.get? a = some o) : o.dict = none := by
  cases hw with
  | list e _ => rw [e] at ho; cases ho; rfl
theorem noTabsP (P : Params) : noTabs (hd.heap_39 P) = true := by kernel_rfl
theorem rep_ints {g : Gh} {vs : List Value} {xs : List Int} (h : IntsAre vs xs) : RepL g (xs.map D.int) vs := by
  induction h
  · rfl
  · rename_i ih
    exact ⟨_, _, rfl, ⟨_, rfl⟩, ih⟩
noncomputable abbrev tabs2 : List (Addr × Addr) := [(177, 173), (184, 180)]
theorem law_claim {prog : Program} {w : World} {P : Params} {p : Program} {loose : List Str} {mean : ExcName → Option Value} {mg mb : Str → Option Value} {s₁ : Shared} (KX : (hd.heap_39 P).In s₁.heap) (T : Top p loose mean mg mb s₁.heap) (hT9 : TabsAt tabs2 s₁.heap) (hg : s₁.gens = #[]) {fa l : Addr} {vs : List Value} {ns : List Int}
    (hm : mg (S' "law") = some (.ref fa)) (hL : s₁.heap.IsList l vs.toArray) (hW : Well w.params s₁.heap (.ref l) (ofPy (PyData.list (ns.map PyData.int)))) (hI : IntsAre vs ns) (hn : ns.length ≤ 63) :
    codeAny (model prog w) callerA (.call (.ref fa) ⟨[.ref l], []⟩) (fun r s' => r = .ok (.ret (.bool true)) ∧ (∀ b o, (ghostOf s₁.heap tabs2).get? b = some o → s'.heap.get? b = some o) ∧ s'.os = s₁.os ∧ s'.gens = #[] ∧ GrownAll tabs2 s'.heap) s₁ := by
  have Z : Wd P topProg _ mg mb (ghostOf s₁.heap tabs2) := ⟨ghost_K hT9 KX (noTabsP P), topRead_of (ghost_top hT9 T)⟩
  have hc := ghost_code hT9
  have Y : Wx mg (ghostOf s₁.heap tabs2) := ⟨(let ⟨bm, ob, a, b, c, d, e, f⟩ := (ghost_top hT9 T).bmain; .mk bm ob a b c d e f), hc.1, hc.2.1⟩
  have e215 := mg_of KX T.g (b215 P).2.2.2.2
  rw [hm] at e215
  cases e215
  have hmem : ∀ {a : Addr}, a ∈ ZT → a ∈ tabs2.map (·.2) := fun {a} m => m
  have hat : ∀ a ∈ ZT, s₁.heap.get? a = some (tabObj #[]) := fun a m => by
    obtain ⟨q, mq, rfl⟩ := List.mem_map.mp (hmem m)
    exact (hT9 q mq).2
  obtain ⟨o, ho, hcl, nn, hda⟩ := hL
  have hnd := well_dict hW ho
  have hl : l ∉ ZT := fun m => by
    rw [hat l m] at ho; cases ho; cases hcl
  refine law_call Z Y (n := 1) (Nat.le_refl _) (xs := ns) (by omega) ⟨fun a o e => of_hideAll _ e, fun a m => hideAll_none _ (hmem m)⟩ (fun a m => ⟨_, hat a m⟩) ⟨.inl (hat _ (by (first | exact List.mem_cons_self | exact List.mem_cons_of_mem _ List.mem_cons_self | decide | simp))), .inl (hat _ (by (first | exact List.mem_cons_self | exact List.mem_cons_of_mem _ List.mem_cons_self | decide | simp)))⟩ ⟨_, _, rfl, ⟨l, vs, rfl, ⟨o, nn, fz_some.mpr ⟨hl, ho⟩, hcl, hda, fun _ => hnd⟩, rep_ints hI⟩, rfl⟩ ⟨rfl, by decide, by decide⟩ fun h' tk' kk ht => ?_
  refine ⟨rfl, fun b o e => ?_, rfl, hg, ?_⟩
  · refine kk _ _ (fun m => ?_) (of_hideAll _ e)
    rw [show (ghostOf s₁.heap tabs2).get? b = none from hideAll_none _ (hmem m)] at e
    cases e
  · exact ⟨ht _ (by (first | exact List.mem_cons_self | exact List.mem_cons_of_mem _ List.mem_cons_self | decide | simp)), ht _ (by (first | exact List.mem_cons_self | exact List.mem_cons_of_mem _ List.mem_cons_self | decide | simp)), trivial⟩
end
end Mine
set_option maxRecDepth 100000 in
set_option maxHeartbeats 8000000 in
theorem PySem.Challenge.cw_rt0006_02_holds : PySem.Challenge.rw_rt0006_02.Holds := by
  exact Mine.hd (by
  k_fill
  intro w s₀ s₁ mg mb G Y fa o pm cd doc dV kV ho hd' hcd hD hmg hg args vals as hpre hlay hrd hwl hlo
  have KX := km_in_of Y
  km_tabs Y
  have X := (Ground.X G).1
  have V := (Ground.X G).2
  refine Ground.open G ?_
  intro T B D TE TW
  have hm := (show mg (Str.ofString "law") = some (.ref fa) from by assumption)
  try (refine guard_noD D (by decide +kernel) ?_; clear D)
  km_lay T hmg ho hd' cd
  wrow_args hpre hlay hrd hwl hlo
  all_goals (
    first | refine callC_kw (enter_call ?_) | refine enter_call ?_
    w_top on
    kn_posts
    refine codeAny_mono (Mine.law_claim KX T hT9 hg hm (by assumption) (by assumption) (by assumption) (by omega)) ?_
    rintro r s' ⟨rfl, h1, h2, h3, h4⟩
    refine ⟨⟨.inl ⟨_, .bool true, [], rfl, fun _ => rfl, .bool true, ?_, fun _ => ⟨.nil, fun _ ha => nomatch ha⟩⟩, h1, h2, h3⟩, h4⟩
    wrow_post))
