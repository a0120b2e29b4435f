import PyProof.Rows.All
import Wide.All
import OpenK.AllK
import Wide.FinOn
import PySem.Challenge.RW_xo0025_01
set_option Elab.async false
set_option linter.unusedVariables false
namespace Mine
section
open PySem PySem.W PyProof.Rows

/-- values without tokens -/
inductive V where
  | none | bool (b : Bool) | int (i : Int) | str (x : Str) | ref (a : Addr) | bi (id : String) | ty (n : String) | odd

noncomputable def er : Value → V
  | .none => .none | .bool b => .bool b | .int i _ => .int i | .str x _ => .str x | .ref a => .ref a | .builtin n => .bi n | .type n => .ty n | _ => .odd

theorem er_none {v : Value} (h : er v = .none) : v = .none := by cases v <;> first | rfl | cases h
theorem er_bool {v : Value} {b} (h : er v = .bool b) : v = .bool b := by cases v <;> first | (cases h; rfl) | cases h
theorem er_int {v : Value} {i} (h : er v = .int i) : ∃ t, v = .int i t := by cases v <;> first | (cases h; exact ⟨_, rfl⟩) | cases h
theorem er_str {v : Value} {x} (h : er v = .str x) : ∃ t, v = .str x t := by cases v <;> first | (cases h; exact ⟨_, rfl⟩) | cases h
theorem er_ref {v : Value} {a} (h : er v = .ref a) : v = .ref a := by cases v <;> first | (cases h; rfl) | cases h
theorem er_bi {v : Value} {a} (h : er v = .bi a) : v = .builtin a := by cases v <;> first | (cases h; rfl) | cases h
theorem er_ty {v : Value} {a} (h : er v = .ty a) : v = .type a := by cases v <;> first | (cases h; rfl) | cases h

/-- what is known of a made object -/
inductive Cell where
  | ns (m : List (Str × V))
  | list (xs : List V)
  | ilist (xs : List V)
  | tup (xs : List V)
  | dictS (kvs : List (Str × V)) (ep : Nat)
  | dictI (kvs : List (Int × V)) (ep : Nat)
  | cell (v : Option V)
  | inst (C d : Addr)
  | flds (cls : String) (vs : List Value)
  | crec (q : Str)
  | itemIt (d : Addr) (i n ep : Nat)
  | raw (o : Obj)
  | attrs (m : List (Str × V)) (n : Nat)
  | fnc (fd : FuncData)

noncomputable def Cell.Is (w : World) (prog : Program) : Cell → Obj → Prop
  | .ns m, o => ∃ es ep, o.data = .dict es ep ∧ StrKeys es ∧ ∀ name, (nsFind es name).map er = m.lookup name
  | .list xs, o => ∃ vs n, o = { cls := .type "list", data := .seq vs n } ∧ vs.toList.map er = xs
  | .ilist xs, o => o.cls = .type "list" ∧ ∃ vs n, o.data = .seq vs n ∧ vs.toList.map er = xs
  | .tup xs, o => ∃ vs n, o = { cls := .type "tuple", data := .seq vs n } ∧ vs.toList.map er = xs
  | .dictS kvs ep, o => ∃ es kvs', o.ExactDict ∧ o.data = .dict es ep ∧ KeysOf (strKind prog w) es ∧ Pairs (strKind prog w) es.toList kvs' ∧ (kvs'.map (·.1)).Nodup ∧ kvs'.map (fun p => (p.1, er p.2)) = kvs
  | .dictI kvs ep, o => ∃ es kvs', o.ExactDict ∧ o.data = .dict es ep ∧ KeysOf (intKind prog w) es ∧ Pairs (intKind prog w) es.toList kvs' ∧ (kvs'.map (·.1)).Nodup ∧ kvs'.map (fun p => (p.1, er p.2)) = kvs
  | .cell v, o => ∃ v', o.data = .cell v' ∧ v'.map er = v
  | .inst C d, o => o.cls = .ref C ∧ o.dict = some d ∧ o.data = .plain ∧ o.slots = #[]
  | .flds c vs, o => o.cls = .type c ∧ o.data = .fields vs.toArray
  | .crec q, o => ∃ vs t, o.data = .fields vs ∧ vs[1]? = some (.str q t)
  | .itemIt d i n ep, o => ∃ ok ov, o = { cls := .type "dict_itemiterator", dict := none, data := .fields #[.none, .bool false, .ref d, .int i 0, .int n 0, .int ep 0, ok, ov], slots := #[] }
  | .raw o', o => o = o'
  | .attrs m n, o => ∃ es ep, o.data = .dict es ep ∧ StrKeys es ∧ es.size ≤ n ∧ ∀ name, (nsFind es name).map er = m.lookup name
  | .fnc fd, o => o.cls = .type "function" ∧ o.data = .func fd

noncomputable abbrev Led := List (Addr × Cell)

/-- what a cell needs of the hidden ones -/
noncomputable def Cell.Sup (H : Led) : Cell → Prop
  | .fnc fd => ∃ c', fd.code = .ref c' ∧ (c', Cell.crec fd.qualname) ∈ H
  | _ => True
theorem Cell.Sup.mono {H H' : Led} (h : ∀ p ∈ H, p ∈ H') : ∀ {c : Cell}, c.Sup H → c.Sup H'
  | .fnc fd, ⟨c', e, m⟩ => ⟨c', e, h _ m⟩
  | .ns _, _ | .list _, _ | .ilist _, _ | .tup _, _ | .dictS _ _, _ | .dictI _ _, _ | .cell _, _ | .inst _ _, _ | .flds _ _, _ | .crec _, _ | .itemIt _ _ _ _, _ | .raw _, _ | .attrs _ _, _ => trivial

/-- a code with its table, the place of the one code that may stand in it, that code's name -/
structure TbIx where
  c : Nat
  P : Nat
  line : Nat
  col : Nat
  q : Str

/-- a table of a code: empty, or with the one code that stands at a place -/
noncomputable def Tb (h : Heap) (H : Led) (t : TbIx) : Prop :=
  ∃ ps, h.IsCode t.c t.P ps ∧ h.TableAt t.c t.P ps ∧ (ps = #[] ∨ ∃ c', ps = #[rawInt t.line, rawInt t.col, .ref c'] ∧ (c', Cell.crec t.q) ∈ H)

structure Cx where
  prog : Program
  w : World
  h₀ : Heap
  os : OsState
  mg : Str → Option Value
  mb : Str → Option Value
  tabs : List TbIx

structure Cx.Low (C : Cx) : Prop where
  lo : 200 ≤ C.h₀.objs.size
  last : ∃ n o, C.h₀.objs.size = n + 1 ∧ C.h₀.get? n = some o
  tc : ∀ t ∈ C.tabs, t.c < C.h₀.objs.size ∧ t.P < C.h₀.objs.size ∧ 10 < t.P ∧ ∃ ps, C.h₀.TableAt t.c t.P ps
  tp : (C.tabs.map (·.P)).Nodup
  tcp : ∀ t ∈ C.tabs, ∀ u ∈ C.tabs, t.c ≠ u.P

structure Rp' (C : Cx) (H N : Led) (s : Shared) : Prop where
  low : C.Low
  old : OldK C.h₀ s.heap
  lim : s.heap.NoLimit
  g : s.heap.Ns mainGlobals C.mg
  b : s.heap.Ns builtinsNs C.mb
  nd : ((N ++ H).map (·.1)).Nodup
  at_ : ∀ p ∈ N ++ H, C.h₀.objs.size ≤ p.1 ∧ ∃ o, s.heap.get? p.1 = some o ∧ p.2.Is C.w C.prog o
  sup : ∀ p ∈ N ++ H, p.2.Sup H
  tb : ∀ t ∈ C.tabs, Tb s.heap H t
  os : s.os = C.os
  gens : AllBare s.gens

noncomputable def Rp (C : Cx) (N : Led) (s : Shared) : Prop := ∃ H, Rp' C H N s

theorem Tb.sameBut {h h' : Heap} {H : Led} {t : TbIx} {a : Addr} (x : Tb h H t) (hs : Heap.SameBut a h h') (hc : t.c ≠ a) (hP : t.P ≠ a) : Tb h' H t := by
  obtain ⟨ps, h1, h2, h3⟩ := x
  exact ⟨ps, h1.sameBut hs hc hP, h2.sameBut hs hc hP, h3⟩
theorem Tb.keeps {h h' : Heap} {H : Led} {t : TbIx} (x : Tb h H t) (hk : ∀ b o, h.get? b = some o → h'.get? b = some o) : Tb h' H t := by
  obtain ⟨ps, h1, h2, h3⟩ := x
  exact ⟨ps, h1.keeps hk, h2.keeps hk, h3⟩

section
variable {C : Cx} {N N' : Led} {s : Shared}

theorem Rp.low (h : Rp C N s) : C.Low := let ⟨_, x⟩ := h; x.low
theorem Rp.old (h : Rp C N s) : OldK C.h₀ s.heap := let ⟨_, x⟩ := h; x.old
theorem Rp.lim (h : Rp C N s) : s.heap.NoLimit := let ⟨_, x⟩ := h; x.lim
theorem Rp.g (h : Rp C N s) : s.heap.Ns mainGlobals C.mg := let ⟨_, x⟩ := h; x.g
theorem Rp.b (h : Rp C N s) : s.heap.Ns builtinsNs C.mb := let ⟨_, x⟩ := h; x.b
theorem Rp.os (h : Rp C N s) : s.os = C.os := let ⟨_, x⟩ := h; x.os
theorem Rp.gens (h : Rp C N s) : AllBare s.gens := let ⟨_, x⟩ := h; x.gens

theorem Rp.fnc (h : Rp C N s) {a : Addr} {fd : FuncData} (m : (a, Cell.fnc fd) ∈ N) : (∃ o, s.heap.get? a = some o ∧ o.data = .func fd) ∧ s.heap.CodeRec fd.code fd.qualname := by
  obtain ⟨H, x⟩ := h
  obtain ⟨o, ho, _, hd⟩ := (x.at_ (a, .fnc fd) (List.mem_append_left _ m)).2
  obtain ⟨c', e, mc⟩ := x.sup (a, .fnc fd) (List.mem_append_left _ m)
  obtain ⟨oc, hoc, vs, t, hdc, hv⟩ := (x.at_ _ (List.mem_append_right _ mc)).2
  exact ⟨⟨o, ho, hd⟩, c', oc, vs, t, e, hoc, hdc, hv⟩
theorem Rp.get (h : Rp C N s) {a : Addr} {c : Cell} (m : (a, c) ∈ N) : ∃ o, s.heap.get? a = some o ∧ c.Is C.w C.prog o := by
  obtain ⟨H, x⟩ := h
  exact (x.at_ (a, c) (List.mem_append_left _ m)).2
theorem Rp.ge (h : Rp C N s) {a : Addr} {c : Cell} (m : (a, c) ∈ N) : C.h₀.objs.size ≤ a := by
  obtain ⟨H, x⟩ := h
  exact (x.at_ (a, c) (List.mem_append_left _ m)).1
theorem Rp.size (h : Rp C N s) : C.h₀.objs.size ≤ s.heap.objs.size := by
  obtain ⟨n, o, e, g⟩ := h.low.last
  obtain ⟨o', g'⟩ := h.old.there n o g
  have z : (n : Nat) < s.heap.objs.size := Heap.lt_size g'
  omega
theorem low3 (h : C.Low) : mainGlobals < C.h₀.objs.size ∧ builtinsNs < C.h₀.objs.size ∧ cStatics < C.h₀.objs.size := by
  have := h.lo
  show (3 : Nat) < _ ∧ (0 : Nat) < _ ∧ (2 : Nat) < _
  omega

theorem Rp.congr (h : Rp C N s) {s' : Shared} (eh : s'.heap = s.heap) (eo : s'.os = s.os) (eg : AllBare s'.gens) : Rp C N s' := by
  obtain ⟨H, x⟩ := h
  exact ⟨H, x.low, eh ▸ x.old, eh ▸ x.lim, eh ▸ x.g, eh ▸ x.b, x.nd, eh ▸ x.at_, x.sup, eh ▸ x.tb, eo.trans x.os, eg⟩
theorem Rp.tok (h : Rp C N s) (t : Nat) : Rp C N { s with toks := t } := h.congr rfl rfl h.gens

theorem Rp'.keep {H : Led} (x : Rp' C H N s) {h' : Heap} {t : Nat} (hk : ∀ b o, s.heap.get? b = some o → h'.get? b = some o) : Rp' C H N { s with heap := h', toks := t } :=
  ⟨x.low, x.old.step_keeps hk, x.lim.keeps hk, x.g.keeps hk, x.b.keeps hk, x.nd, fun p hp => ⟨(x.at_ p hp).1, let ⟨o, ho, hi⟩ := (x.at_ p hp).2; ⟨o, hk _ _ ho, hi⟩⟩, x.sup, fun t ht => (x.tb t ht).keeps hk, x.os, x.gens⟩
theorem Rp.keep (h : Rp C N s) {h' : Heap} {t : Nat} (hk : ∀ b o, s.heap.get? b = some o → h'.get? b = some o) : Rp C N { s with heap := h', toks := t } := by
  obtain ⟨H, x⟩ := h
  exact ⟨H, x.keep hk⟩

theorem Rp.add (h : Rp C N s) {h' : Heap} {t : Nat} {a : Addr} {c : Cell} (hk : ∀ b o, s.heap.get? b = some o → h'.get? b = some o) (hn : s.heap.objs.size ≤ a)
    (hc : ∃ o, h'.get? a = some o ∧ c.Is C.w C.prog o) (hS : ∀ H, c.Sup H := by intro _; trivial) : Rp C ((a, c) :: N) { s with heap := h', toks := t } := by
  have hsz := h.size
  obtain ⟨H, x₀⟩ := h
  have x := x₀.keep (t := t) hk
  refine ⟨H, x.low, x.old, x.lim, x.g, x.b, ?_, ?_, fun p hp => ?_, x.tb, x.os, x.gens⟩
  · rw [List.cons_append, List.map_cons, List.nodup_cons]
    refine ⟨fun hm => ?_, x.nd⟩
    obtain ⟨p, hp, e⟩ := List.mem_map.mp hm
    obtain ⟨o, ho, _⟩ := (x₀.at_ p hp).2
    exact absurd (Nat.lt_of_lt_of_le (Heap.lt_size ho) (e ▸ hn)) (Nat.lt_irrefl _)
  · intro p hp
    rcases List.mem_cons.mp hp with rfl | hp
    · exact ⟨Nat.le_trans hsz hn, hc⟩
    · exact x.at_ p hp
  · rcases List.mem_cons.mp hp with rfl | hp
    · exact hS H
    · exact x.sup p hp

theorem Rp.push (h : Rp C N s) {o : Obj} {c : Cell} (hf : o.isFreed = false) (hc : c.Is C.w C.prog o) {t : Nat} (hS : ∀ H, c.Sup H := by intro _; trivial) : Rp C ((s.heap.objs.size, c) :: N) { s with heap := s.heap.push o, toks := t } :=
  h.add (fun _ _ e => Heap.get?_push_of_some _ e) (Nat.le_refl _) ⟨o, Heap.get?_push_size _ hf, hc⟩ hS

inductive Upd (a : Addr) (c c' : Cell) : Led → Led → Prop
  | head {N : Led} : Upd a c c' ((a, c) :: N) ((a, c') :: N)
  | tail {p : Addr × Cell} {N N' : Led} : Upd a c c' N N' → Upd a c c' (p :: N) (p :: N')
theorem Upd.app {a : Addr} {c c' : Cell} {N N' : Led} (u : Upd a c c' N N') (R : Led) : Upd a c c' (N ++ R) (N' ++ R) := by
  induction u with
  | head => exact .head
  | tail _ ih => exact .tail ih
theorem Upd.keys {a : Addr} {c c' : Cell} {N N' : Led} (u : Upd a c c' N N') : N'.map (·.1) = N.map (·.1) := by
  induction u with
  | head => rfl
  | tail _ ih => simp only [List.map_cons, ih]
theorem Upd.mem {a : Addr} {c c' : Cell} {N N' : Led} (u : Upd a c c' N N') : (a, c) ∈ N := by
  induction u with
  | head => exact .head _
  | tail _ ih => exact .tail _ ih
theorem Upd.inv {a : Addr} {c c' : Cell} {N N' : Led} (u : Upd a c c' N N') (hn : (N.map (·.1)).Nodup) : ∀ p ∈ N', p = (a, c') ∨ (p ∈ N ∧ p.1 ≠ a) := by
  induction u with
  | head =>
    intro p hp
    rw [List.map_cons, List.nodup_cons] at hn
    rcases List.mem_cons.mp hp with e | hp
    · exact .inl e
    · exact .inr ⟨.tail _ hp, fun e => hn.1 (List.mem_map.mpr ⟨p, hp, e⟩)⟩
  | tail u ih =>
    intro p hp
    rw [List.map_cons, List.nodup_cons] at hn
    rcases List.mem_cons.mp hp with rfl | hp
    · exact .inr ⟨.head _, fun e => hn.1 (e ▸ List.mem_map_of_mem u.mem)⟩
    · rcases ih hn.2 p hp with h | ⟨h1, h2⟩
      · exact .inl h
      · exact .inr ⟨.tail _ h1, h2⟩

theorem Rp.upd (h : Rp C N s) {a : Addr} {c c' : Cell} (u : Upd a c c' N N') {h' : Heap} {t : Nat} (hs : Heap.SameBut a s.heap h')
    (hc : ∃ o, h'.get? a = some o ∧ c'.Is C.w C.prog o) (hS : ∀ H, c'.Sup H := by intro _; trivial) : Rp C N' { s with heap := h', toks := t } := by
  obtain ⟨l1, l2, l3⟩ := low3 h.low
  obtain ⟨H, x⟩ := h
  have uH := u.app H
  have ha := (x.at_ (a, c) uH.mem).1
  have ne : ∀ b : Addr, b < C.h₀.objs.size → b ≠ a := fun b hb e => absurd (Nat.lt_of_lt_of_le (e ▸ hb) ha) (Nat.lt_irrefl _)
  refine ⟨H, x.low, x.old.step_same ha hs, x.lim.sameBut hs (ne _ l3), x.g.sameBut hs (ne _ l1), x.b.sameBut hs (ne _ l2), by rw [uH.keys]; exact x.nd, ?_, fun p hp => ?_, ?_, x.os, x.gens⟩
  · intro p hp
    rcases uH.inv x.nd p hp with rfl | ⟨hp, hne⟩
    · exact ⟨ha, hc⟩
    · obtain ⟨o, ho, hi⟩ := (x.at_ p hp).2
      exact ⟨(x.at_ p hp).1, o, (hs.2 p.1 hne).trans ho, hi⟩
  · rcases uH.inv x.nd p hp with rfl | ⟨hp, _⟩
    · exact hS H
    · exact x.sup p hp
  · intro t ht
    obtain ⟨z1, z2, _⟩ := x.low.tc t ht
    exact (x.tb t ht).sameBut hs (ne _ z1) (ne _ z2)

theorem Rp.weak (h : Rp C N s) (hs : N'.Sublist N) : Rp C N' s := by
  obtain ⟨H, x⟩ := h
  have hs' : (N' ++ H).Sublist (N ++ H) := hs.append_right H
  exact ⟨H, x.low, x.old, x.lim, x.g, x.b, (hs'.map _).nodup x.nd, fun p hp => x.at_ p (hs'.subset hp), fun p hp => x.sup p (hs'.subset hp), x.tb, x.os, x.gens⟩
theorem Rp.perm (h : Rp C N s) (hs : N'.Perm N) : Rp C N' s := by
  obtain ⟨H, x⟩ := h
  have hs' : (N' ++ H).Perm (N ++ H) := hs.append_right H
  exact ⟨H, x.low, x.old, x.lim, x.g, x.b, (hs'.map _).nodup_iff.mpr x.nd, fun p hp => x.at_ p (hs'.mem_iff.mp hp), fun p hp => x.sup p (hs'.mem_iff.mp hp), x.tb, x.os, x.gens⟩
theorem Rp.ne (h : Rp C N s) {a b : Addr} {c d : Cell} (u : [(a, c), (b, d)].Sublist N) : a ≠ b := by
  obtain ⟨H, x⟩ := h
  have := ((u.trans (List.sublist_append_left N H)).map (·.1)).nodup x.nd
  simp at this
  exact this
end

/-- the judgement -/
noncomputable def W (C : Cx) (A : Around) {α : Type} (t : Sem α) (Q : α → Led → Prop) (N : Led) : Prop :=
  ∀ R s, Rp C (N ++ R) s → wpAny (model C.prog C.w) A t (fun a s' => ∃ N', Rp C (N' ++ R) s' ∧ Q a N') (fun _ _ => False) s

section
variable {C : Cx} {A : Around} {α β : Type} {N N' : Led}

theorem W.pure {a : α} {Q : α → Led → Prop} (h : Q a N) : W C A (Pure.pure a) Q N := fun _ _ hs => wpAny_pure ⟨N, hs, h⟩
theorem W.bind {t : Sem α} {f : α → Sem β} {Q : β → Led → Prop} (h : W C A t (fun a N' => W C A (f a) Q N') N) : W C A (t >>= f) Q N :=
  fun R s hs => wpAny_bind (wpAny_mono (h R s hs) (fun _ _ ⟨_, hs', k⟩ => k R _ hs') fun _ _ x => x)
theorem W.mono {t : Sem α} {Q Q' : α → Led → Prop} (h : W C A t Q N) (k : ∀ a N', Q a N' → Q' a N') : W C A t Q' N :=
  fun R s hs => wpAny_mono (h R s hs) (fun _ _ ⟨N', hs', q⟩ => ⟨N', hs', k _ _ q⟩) fun _ _ x => x
theorem W.weak {t : Sem α} {Q : α → Led → Prop} (h : W C A t Q N') (hs : N'.Sublist N) : W C A t Q N :=
  fun R s h' => h R s (h'.weak (hs.append_right R))
theorem W.frame {t : Sem α} {Q : α → Led → Prop} {M : Led} (h : W C A t Q N) : W C A t (fun a N' => ∃ N1, N' = N1 ++ M ∧ Q a N1) (N ++ M) :=
  fun R s hs => wpAny_mono (h (M ++ R) s (by rw [← List.append_assoc]; exact hs)) (fun _ _ ⟨N1, hs', q⟩ => ⟨N1 ++ M, by rw [List.append_assoc]; exact hs', N1, rfl, q⟩) fun _ _ x => x
theorem W.perm {t : Sem α} {Q : α → Led → Prop} (h : W C A t Q N') (hs : N'.Perm N) : W C A t Q N :=
  fun R s h' => h R s (h'.perm (hs.append_right R))
/-- addresses of the ledger differ -/
theorem W.ne {t : Sem α} {Q : α → Led → Prop} {a b : Addr} {c d : Cell} (u : [(a, c), (b, d)].Sublist N) (h : a ≠ b → W C A t Q N) : W C A t Q N :=
  fun R s hs => h (hs.ne (u.trans (List.sublist_append_left N R))) R s hs
end

end
section
open PySem PySem.W PyProof.Rows

inductive Fl where
  | next | brk | cont | ret (v : V)
noncomputable def erF : Flow → Fl
  | .next => .next | .brk => .brk | .cont => .cont | .ret v => .ret (er v)

section
variable (C : Cx) (A : Around)
noncomputable def EV (env : Env) (e : Expr) (Q : V → Led → Prop) (N : Led) : Prop := W C A (eval e env) (fun v N' => Q (er v) N') N
noncomputable def LD (env : Env) (x : Str) (Q : V → Led → Prop) (N : Led) : Prop := W C A (loadName env x) (fun v N' => Q (er v) N') N
noncomputable def STO (env : Env) (x : Str) (y : V) (Q : Led → Prop) (N : Led) : Prop := ∀ v, er v = y → W C A (storeName env x v) (fun _ N' => Q N') N
noncomputable def BIN (op : Operator) (x y : V) (Q : V → Led → Prop) (N : Led) : Prop := ∀ vx vy, er vx = x → er vy = y → W C A (binaryOp op vx vy) (fun v N' => Q (er v) N') N
noncomputable def INP (op : Operator) (x y : V) (Q : V → Led → Prop) (N : Led) : Prop := ∀ vx vy, er vx = x → er vy = y → W C A (inplaceOp op vx vy) (fun v N' => Q (er v) N') N
noncomputable def CMP (op : CmpOp) (x y : V) (Q : V → Led → Prop) (N : Led) : Prop := ∀ vx vy, er vx = x → er vy = y → W C A (compareOp op vx vy) (fun v N' => Q (er v) N') N
noncomputable def UNA (op : UnaryOp) (x : V) (Q : V → Led → Prop) (N : Led) : Prop := ∀ vx, er vx = x → W C A (unaryOp op vx) (fun v N' => Q (er v) N') N
noncomputable def TRU (x : V) (Q : Bool → Led → Prop) (N : Led) : Prop := ∀ vx, er vx = x → W C A (truthy vx) Q N
noncomputable def IST (env : Env) (e : Expr) (Q : Bool → Led → Prop) (N : Led) : Prop := W C A (isTrue e env (eval e env)) Q N
noncomputable def GAT (x : V) (n : Str) (Q : V → Led → Prop) (N : Led) : Prop := ∀ vx, er vx = x → W C A (getAttr vx n true) (fun v N' => Q (er v) N') N
noncomputable def SAT (x : V) (n : Str) (y : V) (Q : Led → Prop) (N : Led) : Prop := ∀ vx vy, er vx = x → er vy = y → W C A (setAttr vx n vy) (fun _ N' => Q N') N
noncomputable def GIT (x i : V) (Q : V → Led → Prop) (N : Led) : Prop := ∀ vx vi, er vx = x → er vi = i → W C A (getItem vx vi) (fun v N' => Q (er v) N') N
noncomputable def SIT (x i y : V) (Q : Led → Prop) (N : Led) : Prop := ∀ vx vi vy, er vx = x → er vi = i → er vy = y → W C A (setItem vx vi vy) (fun _ N' => Q N') N
noncomputable def ITR (x : V) (Q : V → Led → Prop) (N : Led) : Prop := ∀ vx, er vx = x → W C A (pyIter vx) (fun v N' => Q (er v) N') N
noncomputable def NXT (x : V) (Q : Option V → Led → Prop) (N : Led) : Prop := ∀ vx, er vx = x → W C A (pyNext vx) (fun v N' => Q (v.map er) N') N
noncomputable def CALL (f : V) (vs : List V) (Q : V → Led → Prop) (N : Led) : Prop := ∀ vf vs', er vf = f → vs'.map er = vs → W C A (call vf vs' []) (fun v N' => Q (er v) N') N
noncomputable def EVS (env : Env) (pos : Pos) (es : List Expr) (Q : List V → Led → Prop) (N : Led) : Prop := W C A (spliced (backTo pos (starEach es env))) (fun vs N' => Q (vs.map er) N') N
noncomputable def SX (env : Env) (st : Stmt) (Q : Fl → Led → Prop) (N : Led) : Prop := W C A (exec st env) (fun f N' => Q (erF f) N') N
noncomputable def ST (env : Env) (sts : List Stmt) (Q : Fl → Led → Prop) (N : Led) : Prop := W C A (execs sts env) (fun f N' => Q (erF f) N') N
noncomputable def KEEP (f : V) (N : Led) : Prop := ∀ R s, Rp C (N ++ R) s → ∀ v, er v = f → ∃ k, (k = Keeper.frame ∨ k = Keeper.machine ∨ k = Keeper.boundFrame) ∧ Looks (model C.prog C.w) s.heap (keeperOf v) k
noncomputable def GM (x : V) (n : Str) (Q : V → List V → Led → Prop) (N : Led) : Prop := ∀ pl vx, er vx = x → W C A (getMethod vx n pl) (fun fx N' => Q (er fx.1) (fx.2.map er) N') N
/-- a def's contract -/
noncomputable def FN (f : Addr) (vs : List V) (Q : V → Led → Prop) (N : Led) : Prop := ∀ vs' : List Value, vs'.map er = vs → ∀ R s, Rp C (N ++ R) s →
  codeAny (model C.prog C.w) A (.call (.ref f) ⟨vs', []⟩) (fun r s' => ∃ v, r = .ok (.ret v) ∧ ∃ N', Rp C (N' ++ R) s' ∧ Q (er v) N') s
end

section
variable {C : Cx} {A : Around} {env : Env} {N : Led}

theorem FN.mono {f : Addr} {vs : List V} {Q Q' : V → Led → Prop} (h : FN C A f vs Q N) (k : ∀ v N', Q v N' → Q' v N') : FN C A f vs Q' N :=
  fun vs' e R s hs => codeAny_mono (h vs' e R s hs) fun _ _ ⟨v, e, N', hs', q⟩ => ⟨v, e, N', hs', k _ _ q⟩
theorem CALL.fn {f : Addr} {vs : List V} {Q : V → Led → Prop} (h : FN C A f vs Q N) : CALL C A (.ref f) vs Q N := fun vf vs' e1 e2 R s hs => by
  cases er_ref e1
  refine wpAny_call (codeAny_mono (h vs' e2 R s hs) ?_)
  rintro r s' ⟨v, rfl, N', hs', q⟩
  exact ⟨N', hs', q⟩

theorem EV.bin {l r : Expr} {op : Operator} {pos : Pos} {Q : V → Led → Prop} (h : EV C A env l (fun x N1 => EV C A env r (fun y N2 => BIN C A op x y Q N2) N1) N) : EV C A env (.BinOp l op r pos) Q N := fun R s hs =>
  wpAny_BinOp (wpAny_mono (h R s hs) (fun a _ ⟨_, hs1, k⟩ => wpAny_mono (k R _ hs1) (fun b _ ⟨_, hs2, k2⟩ => k2 a b rfl rfl R _ hs2) fun _ _ x => x) fun _ _ x => x)
theorem EV.cmp {l r : Expr} {op : CmpOp} {pos : Pos} {Q : V → Led → Prop} (h : EV C A env l (fun x N1 => EV C A env r (fun y N2 => CMP C A op x y Q N2) N1) N)
    (hm : behindInMarks op r = false := by with_unfolding_all rfl) : EV C A env (.Compare l [op] [r] pos) Q N := fun R s hs =>
  wpAny_Compare1 (wpAny_mono (h R s hs) (fun a _ ⟨_, hs1, k⟩ => wpAny_mono (k R _ hs1) (fun b _ ⟨_, hs2, k2⟩ => k2 a b rfl rfl R _ hs2) fun _ _ x => x) fun _ _ x => x) hm
theorem EV.una {x : Expr} {op : UnaryOp} {pos : Pos} {Q : V → Led → Prop} (h : EV C A env x (fun x N1 => UNA C A op x Q N1) N) : EV C A env (.UnaryOp op x pos) Q N := fun R s hs =>
  wpAny_UnaryOp (wpAny_mono (h R s hs) (fun a _ ⟨_, hs1, k⟩ => k a rfl R _ hs1) fun _ _ x => x)
theorem EV.ifexp {t b o : Expr} {pos : Pos} {Q : V → Led → Prop} (h : IST C A env t (fun c N1 => if c then EV C A env b Q N1 else EV C A env o Q N1) N) : EV C A env (.IfExp t b o pos) Q N := fun R s hs =>
  wpAny_IfExp (wpAny_mono (h R s hs) (fun c _ ⟨_, hs1, k⟩ => by cases c <;> exact k R _ hs1) fun _ _ x => x)
theorem EV.cint {i : Int} {k : Nat} {pos : Pos} {Q : V → Led → Prop} (h : Q (.int i) N) : EV C A env (.Constant (.int i) k pos) Q N := fun _ s hs => wpAny_Constant_int ⟨N, hs.tok _, h⟩
theorem EV.cstr {x : Str} {k : Nat} {pos : Pos} {Q : V → Led → Prop} (h : Q (.str x) N) : EV C A env (.Constant (.str x) k pos) Q N := fun _ s hs => wpAny_Constant_str ⟨N, hs.tok _, h⟩
theorem EV.cbool {b : Bool} {k : Nat} {pos : Pos} {Q : V → Led → Prop} (h : Q (.bool b) N) : EV C A env (.Constant (.bool b) k pos) Q N := fun _ s hs => wpAny_Constant_bool ⟨N, hs, h⟩
theorem EV.cnone {k : Nat} {pos : Pos} {Q : V → Led → Prop} (h : Q .none N) : EV C A env (.Constant .none k pos) Q N := fun _ s hs => wpAny_Constant_none ⟨N, hs, h⟩
theorem EV.name {x : Str} {pos : Pos} {Q : V → Led → Prop} (h : LD C A env x Q N) (hd : (x == ("__debug__" : Str)) = false := by decide) : EV C A env (.Name x pos) Q N := fun R s hs => wpAny_Name (h R s hs) hd

theorem EVS.nil {pos : Pos} {Q : List V → Led → Prop} (h : Q [] N) : EVS C A env pos [] Q N := fun _ _ hs => wpAny_items_nil ⟨N, hs, h⟩
end

end
section
open PySem PySem.W PyProof.Rows
/-- the goal under another name while facts are opened -/
theorem hide {P : Prop} (h : ∀ G : Prop, (P → G) → G) : P := h P id
section
variable {C : Cx} {A : Around} {env : Env} {N : Led}

theorem wm {α : Type} {t : Sem α} {Q Q' : α → Shared → Prop} {E : Value → Shared → Prop} {M : Model} {s : Shared} (h : wpAny M A t Q (fun _ _ => False) s) (k : ∀ a s', Q a s' → Q' a s') : wpAny M A t Q' E s :=
  wpAny_mono h k fun _ _ x => x.elim

theorem EVS.cons {pos : Pos} {e : Expr} {rest : List Expr} {Q : List V → Led → Prop} (h : EV C A env e (fun v N1 => EVS C A env pos rest (fun vs N2 => Q (v :: vs) N2) N1) N)
    (he : starEach (e :: rest) env = (false, eval e env) :: starEach rest env := by rfl) : EVS C A env pos (e :: rest) Q N := fun R s hs =>
  wpAny_items_cons (wm (h R s hs) fun _ _ ⟨_, hs1, k⟩ => k R _ hs1) he

noncomputable def SUB (C : Cx) (A : Around) (value slice : Expr) (x i : V) (Q : V → Led → Prop) (N : Led) : Prop := ∀ vx vi, er vx = x → er vi = i → W C A (subscriptTail value slice vx vi) (fun v N' => Q (er v) N') N
theorem EV.sub {value slice : Expr} {pos : Pos} {Q : V → Led → Prop} (h : EV C A env value (fun x N1 => EV C A env slice (fun i N2 => SUB C A value slice x i Q N2) N1) N) : EV C A env (.Subscript value slice pos) Q N := fun R s hs =>
  Subscript_ (wm (h R s hs) fun a _ ⟨_, hs1, k⟩ => wm (k R _ hs1) fun b _ ⟨_, hs2, k2⟩ => k2 a b rfl rfl R _ hs2)
theorem EV.attr {value : Expr} {n : Str} {pos : Pos} {Q : V → Led → Prop} (h : EV C A env value (fun x N1 => GAT C A x n Q N1) N)
    (he : eval (.Attribute value n pos) env = (do
      let o ← eval value env
      standAt pos.atName
      let r ← holding [o] (getAttr o n true)
      letTemporaryGo value o r
      pure r) := by with_unfolding_all rfl) : EV C A env (.Attribute value n pos) Q N := fun R s hs =>
  Attribute_any_ (wm (h R s hs) fun a _ ⟨_, hs1, k⟩ => k a rfl R _ hs1) he

theorem evalArgs_list {M : Model} {E : Value → Shared → Prop} {s : Shared} {f : Value} {trees : List (Bool × Sem Value)} {Q : Args → Shared → Prop} (hp : trees.any (·.1) = false)
    (h : wpAny M A (spliced trees) (fun vs s' => Q ⟨vs, []⟩ s') E s) : wpAny M A (evalArgs f true trees []) Q E s := by
  cases trees with
  | nil =>
    unfold evalArgs
    show wpAny M A (spliced [] >>= _) Q E s
    refine wpAny_bind (wpAny_mono h (fun vs s' h' => ?_) fun _ _ x => x)
    refine wpAny_bind (wpAny_pure ?_)
    refine wpAny_holding ?_
    exact wpAny_bind (wpAny_pure (wpAny_bind (wpAny_pure (wpAny_pure h'))))
  | cons x r =>
    obtain ⟨b, t⟩ := x
    cases b with
    | true => cases hp
    | false => exact Calls.evalArgs_plain h

theorem callW {pos : Pos} {args : List Expr} {f : Value} {first : List Value} {R : Led} {s : Shared} {Q : V → Led → Prop}
    (k : EVS C A env pos args (fun vs N2 => KEEP C (er f) N2 ∧ CALL C A (er f) (first.map er ++ vs) Q N2) N) (hs : Rp C (N ++ R) s)
    (hplain : (backTo pos (starEach args env)).any (·.1) = false) :
    wpAny (model C.prog C.w) A (callWith pos f first (backTo pos (starEach args env)) (backToKw pos (keywordEach [] env))) (fun v s' => ∃ N', Rp C (N' ++ R) s' ∧ Q (er v) N') (fun _ _ => False) s := by
  refine callWith_of (P := fun h => ∃ k, (k = Keeper.frame ∨ k = Keeper.machine ∨ k = Keeper.boundFrame) ∧ Looks (model C.prog C.w) h (keeperOf f) k) (by rw [hplain]; rfl) (fun _ h => h) ?_
  show wpAny _ _ (evalArgs f true (backTo pos (starEach args env)) []) _ _ _
  refine evalArgs_list hplain (wm (k R _ hs) fun vs s2 ⟨N2, hs2, k1, k2⟩ => ⟨k1 R _ hs2 f rfl, k2 f (first ++ vs) rfl (by rw [List.map_append]) R _ hs2⟩)

theorem EV.call {x : Str} {np pos : Pos} {args : List Expr} {Q : V → Led → Prop}
    (h : EV C A env (.Name x np) (fun f N1 => EVS C A env pos args (fun vs N2 => KEEP C f N2 ∧ CALL C A f vs Q N2) N1) N)
    (hplain : (backTo pos (starEach args env)).any (·.1) = false := by rfl) : EV C A env (.Call (.Name x np) args [] pos) Q N := fun R s hs =>
  wpAny_Call_ofName (wm (h R s hs) fun f s1 ⟨N1, hs1, k⟩ => callW (first := []) k hs1 hplain)

theorem EV.meth {o : Expr} {n : Str} {apos pos : Pos} {args : List Expr} {pl : Sem Bool} {Q : V → Led → Prop}
    (h : EV C A env o (fun x N1 => GM C A x n (fun f first N2 => EVS C A env pos args (fun vs N3 => KEEP C f N3 ∧ CALL C A f (first ++ vs) Q N3) N2) N1) N)
    (hplain : (backTo pos (starEach args env)).any (·.1) = false := by rfl)
    (he : eval (.Call (.Attribute o n apos) args [] pos) env = (do
      let ov ← eval o env
      standAt apos.atName
      let (f, first) ← holding [ov] (getMethod ov n pl)
      callWith pos f first (backTo pos (starEach args env)) (backToKw pos (keywordEach [] env))) := by rfl) : EV C A env (.Call (.Attribute o n apos) args [] pos) Q N := fun R s hs =>
  methodCall_KW (pl := pl) (wm (h R s hs) fun ov s1 ⟨N1, hs1, k⟩ => wm (k pl ov rfl R _ hs1) fun fx s2 ⟨N2, hs2, k2⟩ => callW (f := fx.1) (first := fx.2) k2 hs2 hplain) he

theorem IST.cmp {l r : Expr} {op : CmpOp} {pos : Pos} {Q : Bool → Led → Prop} (h : EV C A env l (fun x N1 => EV C A env r (fun y N2 => CMP C A op x y (fun c N3 => TRU C A c Q N3) N2) N1) N)
    (hm : behindInMarks op r = false := by with_unfolding_all rfl) : IST C A env (.Compare l [op] [r] pos) Q N := fun R s hs =>
  wpAny_isTrue_Compare1 (wm (h R s hs) fun a _ ⟨_, hs1, k⟩ => wm (k R _ hs1) fun b _ ⟨_, hs2, k2⟩ => wm (k2 a b rfl rfl R _ hs2) fun c _ ⟨_, hs3, k3⟩ => k3 c rfl R _ hs3) hm
theorem IST.no {x : Expr} {pos : Pos} {Q : Bool → Led → Prop} (h : IST C A env x (fun b N1 => Q (!b) N1) N) : IST C A env (.UnaryOp .Not x pos) Q N := fun R s hs => wpAny_isTrue_Not (h R s hs)
theorem IST.val {e : Expr} {Q : Bool → Led → Prop} (h : EV C A env e (fun v N1 => TRU C A v Q N1) N)
    (he : isTrue e env (eval e env) = (do let v ← eval e env; standAt e.pos; holding [v] (truthy v)) := by rfl) : IST C A env e Q N := fun R s hs => by
  show wpAny _ _ (isTrue e env (eval e env)) _ _ _
  rw [he]
  exact wpAny_bind (wm (h R s hs) fun v _ ⟨_, hs1, k⟩ => wpAny_bind (wpAny_standAt (wpAny_holding (k v rfl R _ hs1))))
noncomputable def ALLT (C : Cx) (A : Around) (env : Env) (op : BoolOp) (es : List Expr) (Q : Bool → Led → Prop) (N : Led) : Prop := W C A (allTrue op es env) Q N
theorem IST.bool {op : BoolOp} {es : List Expr} {pos : Pos} {Q : Bool → Led → Prop} (h : ALLT C A env op es Q N) : IST C A env (.BoolOp op es pos) Q N := fun R s hs => wpAny_isTrue_BoolOp (h R s hs)
theorem ALLT.andNil {Q : Bool → Led → Prop} (h : Q true N) : ALLT C A env .And [] Q N := fun _ _ hs => wpAny_allTrue_And_nil ⟨N, hs, h⟩
theorem ALLT.orNil {Q : Bool → Led → Prop} (h : Q false N) : ALLT C A env .Or [] Q N := fun _ _ hs => wpAny_allTrue_Or_nil ⟨N, hs, h⟩
theorem ALLT.andCons {x : Expr} {r : List Expr} {Q : Bool → Led → Prop} (h : IST C A env x (fun b N1 => if b then ALLT C A env .And r Q N1 else Q false N1) N) : ALLT C A env .And (x :: r) Q N := fun R s hs =>
  wpAny_allTrue_And_cons (wm (h R s hs) fun b _ ⟨N1, hs1, k⟩ => by cases b <;> first | exact ⟨N1, hs1, k⟩ | exact k R _ hs1)
theorem ALLT.orCons {x : Expr} {r : List Expr} {Q : Bool → Led → Prop} (h : IST C A env x (fun b N1 => if b then Q true N1 else ALLT C A env .Or r Q N1) N) : ALLT C A env .Or (x :: r) Q N := fun R s hs =>
  wpAny_allTrue_Or_cons (wm (h R s hs) fun b _ ⟨N1, hs1, k⟩ => by cases b <;> first | exact ⟨N1, hs1, k⟩ | exact k R _ hs1)

-- statements
theorem ST.nil {Q : Fl → Led → Prop} (h : Q .next N) : ST C A env [] Q N := fun _ _ hs => wpAny_execs_nil ⟨N, hs, h⟩
theorem ST.cons {st : Stmt} {r : List Stmt} {Q : Fl → Led → Prop} (h : SX C A env st (fun f N1 => match f with | .next => ST C A env r Q N1 | f => Q f N1) N) : ST C A env (st :: r) Q N := fun R s hs =>
  wpAny_execs_cons (wm (h R s hs) fun f _ ⟨N1, hs1, k⟩ => by cases f <;> first | exact k R _ hs1 | exact ⟨N1, hs1, k⟩)
theorem SX.assign {x : Str} {p pos : Pos} {value : Expr} {Q : Fl → Led → Prop} (h : EV C A env value (fun v N1 => STO C A env x v (fun N2 => Q .next N2) N1) N)
    (hs : swapsWith value (some (.Name x p)) pos.line env = pure false := by rfl) : SX C A env (.Assign [.Name x p] value pos) Q N := fun R s h0 =>
  wpAny_Assign_Name (wm (h R s h0) fun v _ ⟨_, hs1, k⟩ => k v rfl R _ hs1) hs
theorem SX.assignAttr {o : Expr} {n : Str} {p pos : Pos} {value : Expr} {Q : Fl → Led → Prop} (h : EV C A env value (fun v N1 => EV C A env o (fun x N2 => SAT C A x n v (fun N3 => Q .next N3) N2) N1) N)
    (hs : swapsWith value (some (.Attribute o n p)) pos.line env = pure false := by rfl) : SX C A env (.Assign [.Attribute o n p] value pos) Q N := fun R s h0 =>
  plainObj_wpAny_Assign_Attribute (wm (h R s h0) fun v _ ⟨_, hs1, k⟩ => wm (k R _ hs1) fun x _ ⟨_, hs2, k2⟩ => k2 x v rfl rfl R _ hs2) hs
theorem SX.assignSub {o i : Expr} {p pos : Pos} {value : Expr} {Q : Fl → Led → Prop} (h : EV C A env value (fun v N1 => EV C A env o (fun x N2 => EV C A env i (fun y N3 => SIT C A x y v (fun N4 => Q .next N4) N3) N2) N1) N)
    (hs : swapsWith value (some (.Subscript o i p)) pos.line env = pure false := by rfl) : SX C A env (.Assign [.Subscript o i p] value pos) Q N := fun R s h0 =>
  wpAny_Assign_Subscript (wm (h R s h0) fun v _ ⟨_, hs1, k⟩ => wm (k R _ hs1) fun x _ ⟨_, hs2, k2⟩ => wm (k2 R _ hs2) fun y _ ⟨_, hs3, k3⟩ => k3 x y v rfl rfl rfl R _ hs3) hs
theorem SX.aug {x : Str} {p pos : Pos} {op : Operator} {value : Expr} {Q : Fl → Led → Prop}
    (h : LD C A env x (fun o N1 => EV C A env value (fun v N2 => INP C A op o v (fun r N3 => STO C A env x r (fun N4 => Q .next N4) N3) N2) N1) N) : SX C A env (.AugAssign (.Name x p) op value pos) Q N := fun R s h0 =>
  wpAny_AugAssign_Name (wm (h R s h0) fun o _ ⟨_, hs1, k⟩ => wm (k R _ hs1) fun v _ ⟨_, hs2, k2⟩ => wm (k2 o v rfl rfl R _ hs2) fun r _ ⟨_, hs3, k3⟩ => k3 r rfl R _ hs3)
theorem SX.augAttr {o value : Expr} {n : Str} {p pos : Pos} {op : Operator} {Q : Fl → Led → Prop}
    (h : EV C A env o (fun x N1 => GAT C A x n (fun y N2 => EV C A env value (fun v N3 => INP C A op y v (fun r N4 => SAT C A x n r (fun N5 => Q .next N5) N4) N3) N2) N1) N) : SX C A env (.AugAssign (.Attribute o n p) op value pos) Q N := fun R s h0 =>
  wpAny_AugAssign_AttributeAny (wm (h R s h0) fun x _ ⟨_, hs1, k⟩ => wm (k x rfl R _ hs1) fun y _ ⟨_, hs2, k2⟩ => wm (k2 R _ hs2) fun v _ ⟨_, hs3, k3⟩ => wm (k3 y v rfl rfl R _ hs3) fun r _ ⟨_, hs4, k4⟩ => k4 x r rfl rfl R _ hs4)
theorem SX.augSub {o i value : Expr} {p pos : Pos} {op : Operator} {Q : Fl → Led → Prop}
    (h : EV C A env o (fun x N1 => EV C A env i (fun j N2 => GIT C A x j (fun y N3 => EV C A env value (fun v N4 => INP C A op y v (fun r N5 => SIT C A x j r (fun N6 => Q .next N6) N5) N4) N3) N2) N1) N)
    (hi : ∀ ov iv new, augStore i ov iv new = (do holding [new, ov, iv] (setItem ov iv new); release [new, ov, iv] []; pure .next) := by intros; rfl) : SX C A env (.AugAssign (.Subscript o i p) op value pos) Q N := fun R s h0 =>
  wpAny_AugAssign_SubscriptAny (wm (h R s h0) fun x _ ⟨_, hs1, k⟩ => wm (k R _ hs1) fun j _ ⟨_, hs2, k2⟩ => wm (k2 x j rfl rfl R _ hs2) fun y _ ⟨_, hs3, k3⟩ => wm (k3 R _ hs3) fun v _ ⟨_, hs4, k4⟩ =>
    wm (k4 y v rfl rfl R _ hs4) fun r _ ⟨_, hs5, k5⟩ => k5 x j r rfl rfl rfl R _ hs5) hi
theorem SX.ifs {t : Expr} {b o : List Stmt} {pos : Pos} {Q : Fl → Led → Prop} (h : IST C A env t (fun c N1 => if c then ST C A env b Q N1 else ST C A env o Q N1) N) : SX C A env (.If t b o pos) Q N := fun R s h0 =>
  wpAny_If (wm (h R s h0) fun c _ ⟨_, hs1, k⟩ => by cases c <;> exact k R _ hs1)
theorem SX.ret {e : Expr} {pos : Pos} {Q : Fl → Led → Prop} (h : EV C A env e (fun v N1 => Q (.ret v) N1) N) : SX C A env (.Return (some e) pos) Q N := fun R s h0 => wpAny_Return_some (h R s h0)
theorem SX.expr {e : Expr} {pos : Pos} {Q : Fl → Led → Prop} (h : EV C A env e (fun _ N1 => Q .next N1) N)
    (hi : interactive env = false := by rfl) (hs : swapsWith e none pos.line env = pure false := by rfl) : SX C A env (.Expr e pos) Q N := fun R s h0 => wpAny_Expr_any (wm (h R s h0) fun _ _ k => k) hi hs
theorem SX.cont {pos : Pos} {Q : Fl → Led → Prop} (h : Q .cont N) : SX C A env (.Continue pos) Q N := fun _ _ h0 => wpAny_Continue ⟨N, h0, h⟩

-- loops
noncomputable def LOOP (C : Cx) (A : Around) (env : Env) (target : Expr) (body orelse : List Stmt) (it : V) (Q : Fl → Led → Prop) (N : Led) : Prop := ∀ vi, er vi = it → ∀ R s, Rp C (N ++ R) s →
  codeAny (model C.prog C.w) A (.forLoop target vi body orelse env) (fun r s' => ∃ f, r = .ok f ∧ ∃ N', Rp C (N' ++ R) s' ∧ Q (erF f) N') s
noncomputable def BND (C : Cx) (A : Around) (env : Env) (target : Expr) (it v : V) (Q : Led → Prop) (N : Led) : Prop := ∀ vi vv, er vi = it → er vv = v → W C A (letOwnedTupleGo target vi vv >>= fun _ => assign target env vv) (fun _ N' => Q N') N

theorem SX.for_ {target iter : Expr} {body orelse : List Stmt} {pos : Pos} {Q : Fl → Led → Prop} (h : EV C A env iter (fun x N1 => ITR C A x (fun it N2 => LOOP C A env target body orelse it Q N2) N1) N)
    (hs : ∀ x, foldedSetIterable iter env x = pure x := by intro _; rfl) : SX C A env (.For target iter body orelse pos) Q N := fun R s h0 =>
  wpAny_For (wm (h R s h0) fun x _ ⟨_, hs1, k⟩ => wm (k x rfl R _ hs1) fun it _ ⟨_, hs2, k2⟩ => codeAny_mono (k2 it rfl R _ hs2) (by rintro r s' ⟨f, rfl, q⟩; exact q)) hs

theorem LOOP.step {target : Expr} {body : List Stmt} {it : V} {Q : Fl → Led → Prop}
    (h : NXT C A it (fun o N1 => match o with
      | none => Q .next N1
      | some v => BND C A env target it v (fun N2 => ST C A env body (fun f N3 => match f with
        | .next => LOOP C A env target body [] it Q N3
        | .cont => LOOP C A env target body [] it Q N3
        | .brk => Q .next N3
        | .ret v => Q (.ret v) N3) N2) N1) N) : LOOP C A env target body [] it Q N := fun vi ei R s hs => by
  refine codeAny_of_tree ?_
  show wpAny _ A ((forTurn target vi body [] env).onRaise (fun x => do noteFrame x env; theTreesLotGoes x)) _ _ s
  refine wpAny_onRaise (wpAny_mono (Q := fun fin s' => match fin with | .done f => ∃ f', (Except.ok f : Result) = .ok f' ∧ ∃ N', Rp C (N' ++ R) s' ∧ Q (erF f') N' | .again c' => c'.quiet = true ∧ codeAny (model C.prog C.w) A c' (fun r s' => ∃ f, r = .ok f ∧ ∃ N', Rp C (N' ++ R) s' ∧ Q (erF f) N') s') (E := fun _ _ => False) ?_ (fun _ _ x => x) (fun _ _ x => x.elim))
  unfold forTurn
  refine wpAny_bind (wpAny_standAt (wpAny_bind (wpAny_onRaise (wpAny_mono (h vi ei R s hs) (fun r s1 ⟨N1, hs1, k⟩ => ?_) fun _ _ x => x.elim))))
  cases r with
  | none =>
    refine wpAny_pure ⟨rfl, codeAny_block (wpAny_execs_nil ⟨_, rfl, N1, hs1, k⟩)⟩
  | some v =>
    have k' := k vi v ei rfl R s1 hs1
    dsimp only
    show wpAny _ _ (letOwnedTupleGo target vi v >>= fun _ => assign target env v >>= fun _ => _) _ _ _
    rw [← bind_assoc]
    refine wpAny_bind (wm k' fun _ s2 ⟨N2, hs2, k2⟩ => wpAny_bind (wm (k2 R _ hs2) fun f s3 ⟨N3, hs3, k3⟩ => ?_))
    cases f with
    | next => exact wpAny_pure ⟨rfl, k3 vi ei R _ hs3⟩
    | cont => exact wpAny_pure ⟨rfl, k3 vi ei R _ hs3⟩
    | brk => exact wpAny_pure ⟨_, rfl, N3, hs3, k3⟩
    | ret v => exact wpAny_pure ⟨_, rfl, N3, hs3, k3⟩

theorem BND.name {x : Str} {p : Pos} {it v : V} {Q : Led → Prop} (h : STO C A env x v Q N) : BND C A env (.Name x p) it v Q N := fun vi vv _ e2 R s hs =>
  wpAny_bind (wpAny_of_eq (a := ()) (by rfl) (wpAny_assign_Name (h vv e2 R s hs)))

noncomputable def WLOOP (C : Cx) (A : Around) (env : Env) (test : Expr) (body : List Stmt) (Q : Fl → Led → Prop) (N : Led) : Prop := ∀ R s, Rp C (N ++ R) s →
  codeAny (model C.prog C.w) A (.whileLoop test body [] env) (fun r s' => ∃ f, r = .ok f ∧ ∃ N', Rp C (N' ++ R) s' ∧ Q (erF f) N') s
theorem SX.while_ {test : Expr} {body : List Stmt} {pos : Pos} {Q : Fl → Led → Prop} (h : WLOOP C A env test body Q N) : SX C A env (.While test body [] pos) Q N := fun R s h0 =>
  wpAny_While (codeAny_mono (h R s h0) (by rintro r s' ⟨f, rfl, q⟩; exact q))
theorem WLOOP.step {test : Expr} {body : List Stmt} {Q : Fl → Led → Prop}
    (h : IST C A env test (fun b N1 => if b then ST C A env body (fun f N3 => match f with
        | .next => WLOOP C A env test body Q N3
        | .cont => WLOOP C A env test body Q N3
        | .brk => Q .next N3
        | .ret v => Q (.ret v) N3) N1 else Q .next N1) N) : WLOOP C A env test body Q N := fun R s hs => by
  refine codeAny_of_tree ?_
  show wpAny _ A ((whileTurn test body [] env).onRaise (fun x => do noteFrame x env; theTreesLotGoes x)) _ _ s
  refine wpAny_onRaise (wpAny_mono (Q := fun fin s' => match fin with | .done f => ∃ f', (Except.ok f : Result) = .ok f' ∧ ∃ N', Rp C (N' ++ R) s' ∧ Q (erF f') N' | .again c' => c'.quiet = true ∧ codeAny (model C.prog C.w) A c' (fun r s' => ∃ f, r = .ok f ∧ ∃ N', Rp C (N' ++ R) s' ∧ Q (erF f) N') s') (E := fun _ _ => False) ?_ (fun _ _ x => x) (fun _ _ x => x.elim))
  unfold whileTurn
  refine wpAny_bind (wm (h R s hs) fun b s1 ⟨N1, hs1, k⟩ => ?_)
  cases b with
  | false => exact wpAny_bind (wpAny_execs_nil (wpAny_pure ⟨_, rfl, N1, hs1, k⟩))
  | true =>
    refine wpAny_bind (wm (k R _ hs1) fun f s3 ⟨N3, hs3, k3⟩ => ?_)
    cases f with
    | next => exact wpAny_pure ⟨rfl, k3 R _ hs3⟩
    | cont => exact wpAny_pure ⟨rfl, k3 R _ hs3⟩
    | brk => exact wpAny_pure ⟨_, rfl, N3, hs3, k3⟩
    | ret v => exact wpAny_pure ⟨_, rfl, N3, hs3, k3⟩
end

end
section
open PySem PySem.W PyProof.Rows

structure Room (n : Nat) (A : Around) : Prop where
  hd : A.handled = none
  dp : A.depth + n ≤ 900
  un : A.units + 20 * n ≤ 9000
theorem Room.deeper {n : Nat} {A : Around} (h : Room (n + 1) A) (env : Env) : Room n (A.deeper env) := ⟨h.hd, by show A.depth + 1 + n ≤ 900; have := h.dp; omega, by show A.units + 3 + 20 * n ≤ 9000; have := h.un; omega⟩
theorem Room.in1 {n : Nat} {A : Around} (h : Room (n + 1) A) : Room n A.in1 := ⟨h.hd, by show A.depth + n ≤ 900; have := h.dp; omega, by show A.units + 1 + 20 * n ≤ 9000; have := h.un; omega⟩
theorem Room.depth {n : Nat} {A : Around} (h : Room n A) : A.depth < recursionLimit := by have := h.dp; show A.depth < 1000; omega
theorem Room.units {n : Nat} {A : Around} (h : Room n A) : A.units < cLine := by have := h.un; show A.units < 9900; omega
theorem Room.mono {n m : Nat} {A : Around} (h : Room n A) (hm : m ≤ n) : Room m A := ⟨h.hd, by have := h.dp; omega, by have := h.un; omega⟩

structure EnvOk (env : Env) (L : Addr) (nm : List (Str × NameKind)) (cs : List (Str × Addr)) : Prop where
  kind : env.scope.kind = .function
  names : env.scope.names = nm
  loc : env.locals = L
  glob : env.globals = mainGlobals
  blt : env.builtins = builtinsNs
  cells : env.cells = cs

inductive Lk {β : Type} : List (Str × β) → Str → β → Prop
  | head {x : Str} {v : β} {r : List (Str × β)} : Lk ((x, v) :: r) x v
  | tail {x k : Str} {u v : β} {r : List (Str × β)} : (x == k) = false → Lk r x v → Lk ((k, u) :: r) x v
theorem Lk.lookup {β : Type} {l : List (Str × β)} {x : Str} {v : β} (h : Lk l x v) : l.lookup x = some v := by
  induction h with
  | head => rw [List.lookup_cons]; simp
  | tail h _ ih => rw [List.lookup_cons, h]; exact ih

inductive Put {β : Type} : List (Str × β) → Str → β → List (Str × β) → Prop
  | nil {x : Str} {v : β} : Put [] x v [(x, v)]
  | head {x : Str} {u v : β} {r : List (Str × β)} : Put ((x, u) :: r) x v ((x, v) :: r)
  | tail {x k : Str} {u v : β} {r r' : List (Str × β)} : (x == k) = false → Put r x v r' → Put ((k, u) :: r) x v ((k, u) :: r')
theorem Put.lookup {β : Type} {l l' : List (Str × β)} {x : Str} {v : β} (h : Put l x v l') : ∀ y, l'.lookup y = if y = x then some v else l.lookup y := by
  induction h with
  | nil =>
    intro y
    rw [List.lookup_cons, List.lookup_nil]
    rename_i x v
    by_cases e : y = x
    · subst e; simp
    · simp [beq_eq_false_iff_ne.mpr e, e]
  | @head x u v r =>
    intro y
    rw [List.lookup_cons, List.lookup_cons]
    by_cases e : y = x
    · subst e; simp
    · simp [beq_eq_false_iff_ne.mpr e, e]
  | @tail x k u v r r' hk _ ih =>
    intro y
    rw [List.lookup_cons, List.lookup_cons]
    by_cases e : y = k
    · subst e
      have : y ≠ x := fun e => by subst e; simp at hk
      simp [this]
    · simp only [beq_eq_false_iff_ne.mpr e, ih]

theorem lookup_er (l : List (Str × Value)) (x : Str) : (l.lookup x).map er = (l.map fun p => (p.1, er p.2)).lookup x := by
  induction l with
  | nil => rfl
  | cons p r ih =>
    obtain ⟨k, v⟩ := p
    rw [List.map_cons, List.lookup_cons, List.lookup_cons]
    cases x == k with
    | true => rfl
    | false => exact ih

section
variable {C : Cx} {A : Around} {env : Env} {N N' : Led} {L : Addr} {nm : List (Str × NameKind)} {cs : List (Str × Addr)}

theorem ns_of {o : Obj} {h : Heap} {a : Addr} {m : List (Str × V)} {w : World} {p : Program} (ho : h.get? a = some o) (hc : (Cell.ns m).Is w p o) : ∃ f, h.Ns a f ∧ ∀ x, (f x).map er = m.lookup x := by
  obtain ⟨es, ep, hd, hk, hf⟩ := hc
  exact ⟨fun x => nsFind es x, ⟨o, es, ep, ho, hd, hk, fun _ => rfl⟩, hf⟩
theorem ns_is {h : Heap} {a : Addr} {m : List (Str × V)} {f : Str → Option Value} {w : World} {p : Program} (hn : h.Ns a f) (hf : ∀ x, (f x).map er = m.lookup x) : ∃ o, h.get? a = some o ∧ (Cell.ns m).Is w p o := by
  obtain ⟨o, es, ep, ho, hd, hk, hq⟩ := hn
  exact ⟨o, ho, es, ep, hd, hk, fun x => by rw [hq]; exact hf x⟩

theorem LD.local (he : EnvOk env L nm cs) {x : Str} {v : V} {m : List (Str × V)} {Q : V → Led → Prop} (hk : Lk nm x .local) (hm : (L, Cell.ns m) ∈ N) (hv : Lk m x v) (h : Q v N) : LD C A env x Q N := fun R s hs => by
  obtain ⟨o, ho, hc⟩ := hs.get (List.mem_append_left R hm)
  obtain ⟨f, hn, hf⟩ := ns_of ho hc
  have q := (hf x).trans hv.lookup
  cases hfx : f x with
  | none => rw [hfx] at q; cases q
  | some v0 =>
    rw [hfx] at q
    have qv : er v0 = v := Option.some.inj q
    exact wpAny_loadName_local he.kind (by unfold Env.kindOf; rw [he.names]; exact hk.lookup) (he.loc ▸ hn) hfx ⟨N, hs, by show Q (er v0) N; rw [qv]; exact h⟩

theorem STO.local (he : EnvOk env L nm cs) {x : Str} {v : V} {m m' : List (Str × V)} {Q : Led → Prop} (hk : Lk nm x .local) (hp : Put m x v m') (hm : Upd L (.ns m) (.ns m') N N') (h : Q N') : STO C A env x v Q N := fun vx ex R s hs => by
  have u := hm.app R
  obtain ⟨o, ho, hc⟩ := hs.get u.mem
  obtain ⟨f, hn, hf⟩ := ns_of ho hc
  refine wpAny_storeName_local (by unfold Env.kindOf; rw [he.names]; exact hk.lookup) (he.loc ▸ hn) (fun h' hn' hsb => ?_) (by rw [he.kind]; rfl)
  rw [he.loc] at hn' hsb
  refine ⟨N', hs.upd u hsb (ns_is hn' fun y => ?_), h⟩
  rw [hp.lookup y]
  by_cases e : y = x
  · rw [if_pos e, if_pos e, ← ex]; rfl
  · rw [if_neg e, if_neg e]; exact hf y

theorem LD.glob (he : EnvOk env L nm cs) {x : Str} {v : Value} {Q : V → Led → Prop} (hk : Lk nm x .globalImplicit) (hg : C.mg x = some v) (h : Q (er v) N) : LD C A env x Q N := fun R s hs => by
  unfold loadName
  have hx : env.kindOf x = some .globalImplicit := by unfold Env.kindOf; rw [he.names]; exact hk.lookup
  simp only [Env.blockKind, he.kind, hx, ScopeKind.isAnnotationScope, Bool.false_and, Bool.false_eq_true, if_false]
  exact Calls.loadGlobal_global (he.glob ▸ hs.g) hg ⟨N, hs, h⟩
theorem LD.blt (he : EnvOk env L nm cs) {x : Str} {v : Value} {Q : V → Led → Prop} (hk : Lk nm x .globalImplicit) (hg : C.mg x = none ∧ C.mb x = some v) (h : Q (er v) N) : LD C A env x Q N := fun R s hs => by
  unfold loadName
  have hx : env.kindOf x = some .globalImplicit := by unfold Env.kindOf; rw [he.names]; exact hk.lookup
  simp only [Env.blockKind, he.kind, hx, ScopeKind.isAnnotationScope, Bool.false_and, Bool.false_eq_true, if_false]
  exact Calls.loadGlobal_builtin (he.glob ▸ hs.g) hg.1 (he.blt ▸ hs.b) hg.2 ⟨N, hs, h⟩

theorem LD.cell (he : EnvOk env L nm cs) {x : Str} {v : V} {c : Addr} {Q : V → Led → Prop} (hk : Lk nm x .cell) (hc : Lk cs x c) (hm : (c, Cell.cell (some v)) ∈ N) (h : Q v N) : LD C A env x Q N := fun R s hs => by
  obtain ⟨o, ho, v', hd, hv⟩ := hs.get (List.mem_append_left R hm)
  cases v' with
  | none => cases hv
  | some v0 =>
    have qv : er v0 = v := Option.some.inj hv
    exact wpAny_loadName_cell he.kind (by unfold Env.kindOf; rw [he.names]; exact hk.lookup) (by rw [he.cells]; exact hc.lookup) ⟨o, ho, hd⟩ ⟨N, hs, by show Q (er v0) N; rw [qv]; exact h⟩
theorem LD.free (he : EnvOk env L nm cs) {x : Str} {v : V} {c : Addr} {Q : V → Led → Prop} (hk : Lk nm x .free) (hc : Lk cs x c) (hm : (c, Cell.cell (some v)) ∈ N) (h : Q v N) (hn : (x == ("__classdict__" : Str)) = false := by decide) : LD C A env x Q N := fun R s hs => by
  obtain ⟨o, ho, v', hd, hv⟩ := hs.get (List.mem_append_left R hm)
  cases v' with
  | none => cases hv
  | some v0 =>
    have qv : er v0 = v := Option.some.inj hv
    exact wpAny_loadName_free he.kind (by unfold Env.kindOf; rw [he.names]; exact hk.lookup) (by rw [he.cells]; exact hc.lookup) ⟨o, ho, hd⟩ ⟨N, hs, by show Q (er v0) N; rw [qv]; exact h⟩ hn
theorem STO.cell (he : EnvOk env L nm cs) {x : Str} {v : V} {v₀ : Option V} {c : Addr} {Q : Led → Prop} (hk : Lk nm x .cell) (hc : Lk cs x c) (hm : Upd c (.cell v₀) (.cell (some v)) N N') (h : Q N') : STO C A env x v Q N := fun vx ex R s hs => by
  have u := hm.app R
  obtain ⟨o, ho, v', hd, hv⟩ := hs.get u.mem
  refine wpAny_storeName_cell he.kind (by unfold Env.kindOf; rw [he.names]; exact hk.lookup) (by rw [he.cells]; exact hc.lookup) ⟨o, ho, hd⟩ fun h' ⟨o', ho', hd'⟩ hsb => ?_
  exact ⟨N', hs.upd (t := s.toks) u hsb ⟨o', ho', _, hd', by rw [← ex]; rfl⟩, h⟩

/-- a def of the text, as the top left it -/
noncomputable def FnAt (C : Cx) (f : Addr) (fd : FuncData) : Prop :=
  (∃ o, C.h₀.get? f = some o ∧ o.cls ≠ .none ∧ o.data = .func fd) ∧ ∃ c o vs t, fd.code = .ref c ∧ C.h₀.get? c = some o ∧ o.cls ≠ .none ∧ o.data = .fields vs ∧ vs[1]? = some (.str fd.qualname t)
theorem FnAt.at_ {f : Addr} {fd : FuncData} (h : FnAt C f fd) {s : Shared} (hs : Rp C N s) : (∃ o, s.heap.get? f = some o ∧ o.data = .func fd) ∧ s.heap.CodeRec fd.code fd.qualname := by
  obtain ⟨⟨o, ho, hc, hd⟩, c, oc, vs, t, e, hoc, hcc, hdc, hv⟩ := h
  exact ⟨⟨o, hs.old.get_of_cls ho hc, hd⟩, c, oc, vs, t, e, hs.old.get_of_cls hoc hcc, hdc, hv⟩

theorem zip_er : ∀ (ps : List Str) (vs : List Value), (ps.zip vs).map (fun p => (p.1, er p.2)) = ps.zip (vs.map er)
  | [], _ => rfl
  | _ :: _, [] => rfl
  | p :: r, v :: t => by simp only [List.zip_cons_cons, List.map_cons]; rw [zip_er r t]
noncomputable def retV : Fl → V
  | .ret v => v
  | _ => .none

theorem FN.enter {n : Nat} {f : Addr} {fd : FuncData} {body : List Stmt} {ps : List Str} {vs : List V} {Q : V → Led → Prop} (hr : Room n A) (hf : FnAt C f fd) (hbody : fd.body = .stmts body)
    (hb : ∀ vs' : List Value, vs'.map er = vs → bindArgs fd ⟨vs', []⟩ = pure (ps.zip vs')) (hcell : ∀ x ∈ fd.scope.names, x.2 ≠ .cell) (hloc : ∀ p ∈ ps, fd.scope.names.lookup p = some .local)
    (hg : fd.globals = mainGlobals) (hbl : fd.builtins = builtinsNs) (hcl : fd.closure = [])
    (h : ∀ L env, EnvOk env L fd.scope.names [] → ST C (A.deeper env) env body (fun fl N' => ∃ N'', N''.Sublist N' ∧ Q (retV fl) N'') ((L, .ns (ps.zip vs).reverse) :: N))
    (hco : fd.scope.isCoroutine = false := by rfl) (hgen : fd.scope.isGenerator = false := by rfl) (hk : fd.scope.kind = .function := by rfl) : FN C A f vs Q N := fun vs' e R s hs => by
  obtain ⟨⟨o, ho, hd⟩, hcd⟩ := hf.at_ hs
  refine codeAny_call_def hr.depth ho hd hs.lim hcd hbody (BindsTo.of_eq (hb vs' e)) hcell (fun x hx => hloc x.1 (List.of_mem_zip hx).1) (fun h₁ hn hk₁ => ?_) hco hgen hk
  have hs1 : Rp C (((s.heap.objs.size, Cell.ns (ps.zip vs).reverse) :: N) ++ R) { s with heap := h₁, toks := s.toks + (ps.zip vs').length } := by
    refine hs.add hk₁ (Nat.le_refl _) (ns_is hn fun x => ?_)
    rw [lookup_er, List.map_reverse]
    congr 2
    rw [← e]
    exact zip_er ps vs'
  refine wm (h s.heap.objs.size (callEnv fd s.heap.objs.size f) ⟨hk, rfl, rfl, hg, hbl, hcl⟩ R _ hs1) fun fl s' ⟨N1, hs', N2, hsub, q⟩ => ?_
  refine ⟨_, rfl, N2, hs'.weak (hsub.append_right R), ?_⟩
  cases fl <;> exact q
end
theorem hb1 {fd : FuncData} {p : Str} {x : V} (h : ∀ v, bindArgs fd ⟨[v], []⟩ = pure [(p, v)]) (vs' : List Value) (e : vs'.map er = [x]) : bindArgs fd ⟨vs', []⟩ = pure ([p].zip vs') := by
  cases vs' with
  | nil => cases e
  | cons v r =>
    cases r with
    | nil => exact h v
    | cons _ _ => injection e with _ e; cases e
theorem hb2 {fd : FuncData} {p q : Str} {x y : V} (h : ∀ v w, bindArgs fd ⟨[v, w], []⟩ = pure [(p, v), (q, w)]) (vs' : List Value) (e : vs'.map er = [x, y]) : bindArgs fd ⟨vs', []⟩ = pure ([p, q].zip vs') := by
  cases vs' with
  | nil => cases e
  | cons v r =>
    injection e with _ e
    cases r with
    | nil => cases e
    | cons w r =>
      injection e with _ e
      cases r with
      | nil => exact h v w
      | cons _ _ => cases e
theorem hb3 {fd : FuncData} {p q r : Str} {x y z : V} (h : ∀ v w u, bindArgs fd ⟨[v, w, u], []⟩ = pure [(p, v), (q, w), (r, u)]) (vs' : List Value) (e : vs'.map er = [x, y, z]) : bindArgs fd ⟨vs', []⟩ = pure ([p, q, r].zip vs') := by
  cases vs' with
  | nil => cases e
  | cons v r =>
    injection e with _ e
    cases r with
    | nil => cases e
    | cons w r =>
      injection e with _ e
      cases r with
      | nil => cases e
      | cons u r =>
        injection e with _ e
        cases r with
        | nil => exact h v w u
        | cons _ _ => cases e
section
variable {C : Cx} {A : Around} {N : Led}
/-- how a def's end is told: what is no more needed is dropped -/
noncomputable def End (Q : V → Led → Prop) (fl : Fl) (N' : Led) : Prop := ∃ N'', N''.Sublist N' ∧ Q (retV fl) N''
theorem FN.enter1 {n : Nat} {f : Addr} {fd : FuncData} {body : List Stmt} {p : Str} {x : V} {nm : List (Str × NameKind)} {Q : V → Led → Prop} (hr : Room (n + 1) A) (hf : FnAt C f fd) (hnm : fd.scope.names = nm)
    (h : ∀ L env, EnvOk env L nm [] → Room n (A.deeper env) → ST C (A.deeper env) env body (End Q) ((L, .ns [(p, x)]) :: N))
    (hbody : fd.body = .stmts body := by rfl) (hb : ∀ v, bindArgs fd ⟨[v], []⟩ = pure [(p, v)] := by intros; rfl) (hcell : ∀ x ∈ nm, x.2 ≠ .cell := by decide) (hloc : ∀ z ∈ [p], nm.lookup z = some .local := by decide)
    (hg : fd.globals = mainGlobals := by rfl) (hbl : fd.builtins = builtinsNs := by rfl) (hcl : fd.closure = [] := by rfl)
    (hco : fd.scope.isCoroutine = false := by rfl) (hgen : fd.scope.isGenerator = false := by rfl) (hk : fd.scope.kind = .function := by rfl) : FN C A f [x] Q N :=
  FN.enter hr hf hbody (hb1 hb) (hnm ▸ hcell) (hnm ▸ hloc) hg hbl hcl (fun L env he => h L env (hnm ▸ he) (hr.deeper env)) hco hgen hk
theorem FN.enter2 {n : Nat} {f : Addr} {fd : FuncData} {body : List Stmt} {p q : Str} {x y : V} {nm : List (Str × NameKind)} {Q : V → Led → Prop} (hr : Room (n + 1) A) (hf : FnAt C f fd) (hnm : fd.scope.names = nm)
    (h : ∀ L env, EnvOk env L nm [] → Room n (A.deeper env) → ST C (A.deeper env) env body (End Q) ((L, .ns [(q, y), (p, x)]) :: N))
    (hbody : fd.body = .stmts body := by rfl) (hb : ∀ v w, bindArgs fd ⟨[v, w], []⟩ = pure [(p, v), (q, w)] := by intros; rfl) (hcell : ∀ x ∈ nm, x.2 ≠ .cell := by decide) (hloc : ∀ z ∈ [p, q], nm.lookup z = some .local := by decide)
    (hg : fd.globals = mainGlobals := by rfl) (hbl : fd.builtins = builtinsNs := by rfl) (hcl : fd.closure = [] := by rfl)
    (hco : fd.scope.isCoroutine = false := by rfl) (hgen : fd.scope.isGenerator = false := by rfl) (hk : fd.scope.kind = .function := by rfl) : FN C A f [x, y] Q N :=
  FN.enter hr hf hbody (hb2 hb) (hnm ▸ hcell) (hnm ▸ hloc) hg hbl hcl (fun L env he => h L env (hnm ▸ he) (hr.deeper env)) hco hgen hk
theorem End.sub {Q : V → Led → Prop} {fl : Fl} {N' : Led} (N'' : Led) (hs : N''.Sublist N') (h : Q (retV fl) N'') : End Q fl N' := ⟨N'', hs, h⟩
end

end
section
open PySem PySem.W PyProof.Rows
noncomputable def fdOf (i : Nat) (md : Str) (tk cd : Nat) : FuncData := match PySem.Challenge.pw_xo0025_01.main.body[i]? with
  | some (.FunctionDef name args body _ _ _ scope _ _ _) => { name, qualname := name, params := args, body := .stmts body, scope, globals := mainGlobals, closure := [], defaults := .none, kwdefaults := .none, pyModule := .str md tk, code := .ref cd, builtins := builtinsNs }
  | _ => default
noncomputable def clsBody : Stmt → List Stmt
  | .ClassDef _ _ _ b _ _ _ _ _ _ _ => b
  | _ => []
noncomputable def mdOf (j : Nat) (q : Str) (tk cd : Nat) : FuncData := match (clsBody (PySem.Challenge.pw_xo0025_01.main.body.getD 7 (.Pass default)))[j]? with
  | some (.FunctionDef name args body _ _ _ scope _ _ _) => { name, qualname := q, params := args, body := .stmts body, scope, globals := mainGlobals, closure := [], defaults := .none, kwdefaults := .none, pyModule := .str "cpy313.netrc" tk, code := .ref cd, builtins := builtinsNs }
  | _ => default
noncomputable def fd43 : FuncData := fdOf 3 "cpy313.http.cookiejar" 282 42
noncomputable def fd50 : FuncData := fdOf 4 "cpy313.http.cookiejar" 282 49
noncomputable def fd57 : FuncData := fdOf 5 "cpy313.http.cookiejar" 282 56
noncomputable def fd106 : FuncData := fdOf 9 "cpy313.operator" 399 105
noncomputable def fd113 : FuncData := fdOf 10 "cpy313.operator" 399 112
noncomputable def fd120 : FuncData := fdOf 11 "cpy313.operator" 399 119
noncomputable def fd127 : FuncData := fdOf 12 "cpy313.operator" 399 126
noncomputable def fd134 : FuncData := fdOf 13 "cpy313.operator" 399 133
noncomputable def fd141 : FuncData := fdOf 14 "cpy313.operator" 399 140
noncomputable def fd148 : FuncData := fdOf 15 "cpy313.operator" 399 147
noncomputable def fd155 : FuncData := fdOf 16 "cpy313.operator" 399 154
noncomputable def fd162 : FuncData := fdOf 18 "cpy313.pstats" 464 161
noncomputable def fd169 : FuncData := fdOf 19 "cpy313.pstats" 464 168
noncomputable def fd174 : FuncData := fdOf 21 "law_xo0025_01" 486 173
noncomputable def fd181 : FuncData := fdOf 22 "law_xo0025_01" 486 180
noncomputable def fd188 : FuncData := fdOf 23 "law_xo0025_01" 486 187
noncomputable def fd195 : FuncData := fdOf 24 "law_xo0025_01" 486 194
noncomputable def fd202 : FuncData := fdOf 25 "law_xo0025_01" 486 201
noncomputable def fd207 : FuncData := fdOf 26 "law_xo0025_01" 486 206
noncomputable def fd214 : FuncData := fdOf 27 "law_xo0025_01" 486 213
noncomputable def fd219 : FuncData := fdOf 28 "law_xo0025_01" 486 218
noncomputable def fd71 : FuncData := mdOf 0 "_netrclex.__init__" 339 70
noncomputable def fd78 : FuncData := mdOf 1 "_netrclex._read_char" 339 77
noncomputable def fd85 : FuncData := mdOf 2 "_netrclex.get_token" 339 84
noncomputable def fd92 : FuncData := mdOf 3 "_netrclex.push_token" 339 91

structure Base (C : Cx) : Prop where
  pr : C.prog = PySem.Challenge.pw_xo0025_01
  f43 : FnAt C 43 fd43
  f50 : FnAt C 50 fd50
  f57 : FnAt C 57 fd57
  f106 : FnAt C 106 fd106
  f113 : FnAt C 113 fd113
  f120 : FnAt C 120 fd120
  f127 : FnAt C 127 fd127
  f134 : FnAt C 134 fd134
  f141 : FnAt C 141 fd141
  f148 : FnAt C 148 fd148
  f155 : FnAt C 155 fd155
  f162 : FnAt C 162 fd162
  f169 : FnAt C 169 fd169
  f174 : FnAt C 174 fd174
  f181 : FnAt C 181 fd181
  f188 : FnAt C 188 fd188
  f195 : FnAt C 195 fd195
  f202 : FnAt C 202 fd202
  f207 : FnAt C 207 fd207
  f214 : FnAt C 214 fd214
  f219 : FnAt C 219 fd219
  f71 : FnAt C 71 fd71
  f78 : FnAt C 78 fd78
  f85 : FnAt C 85 fd85
  f92 : FnAt C 92 fd92
  g_IPV4_RE : C.mg "IPV4_RE" = some (.ref 36)
  g_is_HDN : C.mg "is_HDN" = some (.ref 43)
  g_domain_match : C.mg "domain_match" = some (.ref 50)
  g_reach : C.mg "reach" = some (.ref 57)
  g__netrclex : C.mg "_netrclex" = some (.ref 95)
  g_ne : C.mg "ne" = some (.ref 106)
  g_add : C.mg "add" = some (.ref 113)
  g_and_ : C.mg "and_" = some (.ref 120)
  g_mul : C.mg "mul" = some (.ref 127)
  g_neg : C.mg "neg" = some (.ref 134)
  g_or_ : C.mg "or_" = some (.ref 141)
  g_sub : C.mg "sub" = some (.ref 148)
  g_contains : C.mg "contains" = some (.ref 155)
  g_add_callers : C.mg "add_callers" = some (.ref 162)
  g_count_calls : C.mg "count_calls" = some (.ref 169)
  g__law_seeds : C.mg "_law_seeds" = some (.ref 174)
  g__law_written : C.mg "_law_written" = some (.ref 181)
  g__law_tree : C.mg "_law_tree" = some (.ref 188)
  g__law_lexer : C.mg "_law_lexer" = some (.ref 195)
  g__law_climbed : C.mg "_law_climbed" = some (.ref 202)
  g__law_ways : C.mg "_law_ways" = some (.ref 207)
  g__law_determinant : C.mg "_law_determinant" = some (.ref 214)
  g_law : C.mg "law" = some (.ref 219)
  b_len : C.mg "len" = none ∧ C.mb "len" = some (.builtin "len")
  b_abs : C.mg "abs" = none ∧ C.mb "abs" = some (.builtin "abs")
  b_iter : C.mg "iter" = none ∧ C.mb "iter" = some (.builtin "iter")
  b_isinstance : C.mg "isinstance" = none ∧ C.mb "isinstance" = some (.builtin "isinstance")
  b_sorted : C.mg "sorted" = none ∧ C.mb "sorted" = some (.builtin "sorted")
  b_sum : C.mg "sum" = none ∧ C.mb "sum" = some (.builtin "sum")
  b_range : C.mg "range" = none ∧ C.mb "range" = some (.type "range")
  b_list : C.mg "list" = none ∧ C.mb "list" = some (.type "list")
  b_tuple : C.mg "tuple" = none ∧ C.mb "tuple" = some (.type "tuple")
  b_zip : C.mg "zip" = none ∧ C.mb "zip" = some (.type "zip")

end
section
open PySem PySem.W PyProof.Rows
section
variable {C : Cx} {A : Around} {N : Led} {i j : Int} {x y : Str} {Q : V → Led → Prop}

theorem BIN.add (h : Q (.int (i + j)) N) : BIN C A .Add (.int i) (.int j) Q N := fun vx vy e1 e2 R s hs => by
  obtain ⟨t, rfl⟩ := er_int e1; obtain ⟨u, rfl⟩ := er_int e2; exact add_int ⟨N, hs.tok _, h⟩
theorem INP.add (h : Q (.int (i + j)) N) : INP C A .Add (.int i) (.int j) Q N := fun vx vy e1 e2 R s hs => by
  obtain ⟨t, rfl⟩ := er_int e1; obtain ⟨u, rfl⟩ := er_int e2; exact iadd_int ⟨N, hs.tok _, h⟩
theorem BIN.sub (h : Q (.int (i - j)) N) : BIN C A .Sub (.int i) (.int j) Q N := fun vx vy e1 e2 R s hs => by
  obtain ⟨t, rfl⟩ := er_int e1; obtain ⟨u, rfl⟩ := er_int e2; exact sub_int ⟨N, hs.tok _, h⟩
theorem BIN.mul (hm : IntMulOk i j) (h : Q (.int (i * j)) N) : BIN C A .Mult (.int i) (.int j) Q N := fun vx vy e1 e2 R s hs => by
  obtain ⟨t, rfl⟩ := er_int e1; obtain ⟨u, rfl⟩ := er_int e2; exact mul_int ⟨N, hs.tok _, h⟩ hm
theorem BIN.mod (h0 : j ≠ 0) (h : Q (.int (i.fmod j)) N) : BIN C A .Mod (.int i) (.int j) Q N := fun vx vy e1 e2 R s hs => by
  obtain ⟨t, rfl⟩ := er_int e1; obtain ⟨u, rfl⟩ := er_int e2; exact mod_int' h0 ⟨N, hs.tok _, h⟩
theorem BIN.fdiv (h0 : j ≠ 0) (hp : Builtin.divisionGoesByPylong i j = false) (h : Q (.int (i.fdiv j)) N) : BIN C A .FloorDiv (.int i) (.int j) Q N := fun vx vy e1 e2 R s hs => by
  obtain ⟨t, rfl⟩ := er_int e1; obtain ⟨u, rfl⟩ := er_int e2; exact floordiv_int h0 ⟨N, hs.tok _, h⟩ (.inl hp)
theorem BIN.pow (h0 : 0 ≤ j) (hz : (Builtin.Int.intBits i : Int) * j ≤ 2 ^ 27) (h : Q (.int (i ^ j.toNat)) N) : BIN C A .Pow (.int i) (.int j) Q N := fun vx vy e1 e2 R s hs => by
  obtain ⟨t, rfl⟩ := er_int e1; obtain ⟨u, rfl⟩ := er_int e2; exact pow_int h0 hz ⟨N, hs.tok _, h⟩
theorem BIN.and (h : Q (.int (Builtin.bitAnd i j)) N) : BIN C A .BitAnd (.int i) (.int j) Q N := fun vx vy e1 e2 R s hs => by
  obtain ⟨t, rfl⟩ := er_int e1; obtain ⟨u, rfl⟩ := er_int e2; exact and_int ⟨N, hs.tok _, h⟩
theorem BIN.or (h : Q (.int (Builtin.bitOr i j)) N) : BIN C A .BitOr (.int i) (.int j) Q N := fun vx vy e1 e2 R s hs => by
  obtain ⟨t, rfl⟩ := er_int e1; obtain ⟨u, rfl⟩ := er_int e2; exact or_int ⟨N, hs.tok _, h⟩
theorem UNA.neg (h : Q (.int (-i)) N) : UNA C A .USub (.int i) Q N := fun vx e1 R s hs => by
  obtain ⟨t, rfl⟩ := er_int e1; exact neg_int ⟨N, hs.tok _, h⟩
theorem CMP.eqi (h : Q (.bool (i == j)) N) : CMP C A .Eq (.int i) (.int j) Q N := fun vx vy e1 e2 R s hs => by
  obtain ⟨t, rfl⟩ := er_int e1; obtain ⟨u, rfl⟩ := er_int e2; exact PyProof.Rows.eq_int ⟨N, hs, h⟩
theorem CMP.nei (h : Q (.bool (i != j)) N) : CMP C A .NotEq (.int i) (.int j) Q N := fun vx vy e1 e2 R s hs => by
  obtain ⟨t, rfl⟩ := er_int e1; obtain ⟨u, rfl⟩ := er_int e2; exact PyProof.Rows.ne_int ⟨N, hs, h⟩
theorem CMP.lti (h : Q (.bool (decide (i < j))) N) : CMP C A .Lt (.int i) (.int j) Q N := fun vx vy e1 e2 R s hs => by
  obtain ⟨t, rfl⟩ := er_int e1; obtain ⟨u, rfl⟩ := er_int e2; exact P.lt_int ⟨N, hs, h⟩
theorem CMP.gei (h : Q (.bool (decide (j ≤ i))) N) : CMP C A .GtE (.int i) (.int j) Q N := fun vx vy e1 e2 R s hs => by
  obtain ⟨t, rfl⟩ := er_int e1; obtain ⟨u, rfl⟩ := er_int e2; exact P.ge_int ⟨N, hs, h⟩
theorem TRU.bool {b : Bool} {Q : Bool → Led → Prop} (h : Q b N) : TRU C A (.bool b) Q N := fun vx e1 R s hs => by
  cases er_bool e1; exact wpAny_truthy_bool ⟨N, hs, h⟩
theorem KEEP.fn {f : Addr} {fd : FuncData} (h : FnAt C f fd) : KEEP C (.ref f) N := fun R s hs v e => by
  cases er_ref e
  obtain ⟨⟨o, ho, hd⟩, _⟩ := h.at_ hs
  exact ⟨.frame, .inl rfl, (Looks.ld (part := none) ho).andThen (by rw [hd]; exact .now)⟩
theorem KEEP.bi {n : String} : KEEP C (.bi n) N := fun R s hs v e => by
  cases er_bi e; exact ⟨.machine, .inr (.inl rfl), .now⟩
theorem KEEP.ty {n : String} : KEEP C (.ty n) N := fun R s hs v e => by
  cases er_ty e; exact ⟨.machine, .inr (.inl rfl), .now⟩

-- strs
theorem BIN.adds (hz : x.length + y.length ≤ sizeLine) (h : Q (.str (x ++ y)) N) : BIN C A .Add (.str x) (.str y) Q N := fun vx vy e1 e2 R s hs => by
  obtain ⟨t, rfl⟩ := er_str e1; obtain ⟨u, rfl⟩ := er_str e2; exact add_str (fun t' tk => ⟨N, hs.tok _, h⟩) hz
theorem INP.adds (hz : x.length + y.length ≤ sizeLine) (h : Q (.str (x ++ y)) N) : INP C A .Add (.str x) (.str y) Q N := fun vx vy e1 e2 R s hs => by
  obtain ⟨t, rfl⟩ := er_str e1; obtain ⟨u, rfl⟩ := er_str e2; exact iadd_str (fun t' tk => ⟨N, hs.tok _, h⟩) hz
end

end
section
open PySem PySem.W PyProof.Rows
section
variable {C : Cx} {A : Around} {env : Env} {N : Led} {i j : Int} {x y : Str} {Q : V → Led → Prop}

theorem CMP.eqs (h : Q (.bool (x.cps.toList == y.cps.toList)) N) : CMP C A .Eq (.str x) (.str y) Q N := fun vx vy e1 e2 R s hs => by
  obtain ⟨t, rfl⟩ := er_str e1; obtain ⟨u, rfl⟩ := er_str e2; exact P.eq_str ⟨N, hs, h⟩
theorem CMP.nes (h : Q (.bool (x.cps.toList != y.cps.toList)) N) : CMP C A .NotEq (.str x) (.str y) Q N := fun vx vy e1 e2 R s hs => by
  obtain ⟨t, rfl⟩ := er_str e1; obtain ⟨u, rfl⟩ := er_str e2; exact P.ne_str ⟨N, hs, h⟩
theorem CMP.ins (h : Q (.bool !(Builtin.Str.occurrences x y 0 x.length 1).isEmpty) N) : CMP C A .In (.str y) (.str x) Q N := fun vx vy e1 e2 R s hs => by
  obtain ⟨t, rfl⟩ := er_str e1; obtain ⟨u, rfl⟩ := er_str e2; exact P.in_str ⟨N, hs, h⟩

theorem gm_str {n : Str} {id : String} {Q : V → List V → Led → Prop} (slot : Slot "str" n id) (ty : typeOf (.builtin id) = pure (.type "method_descriptor")) (h : Q (.bi id) [.str x] N) : GM C A (.str x) n Q N := fun pl vx e R s hs => by
  obtain ⟨t, rfl⟩ := er_str e
  with_reducible refine PySem.GM.of (.str x t) (typeIs_str _ _ _) slot ty (fun a e => nomatch e) ?_
  exact ⟨N, hs, h⟩
theorem cl1 {vs : List Value} {a : V} (e : vs.map er = [a]) : ∃ v, vs = [v] ∧ er v = a := by
  cases vs with
  | nil => cases e
  | cons v r =>
    injection e with h1 e
    cases r with
    | nil => exact ⟨v, rfl, h1⟩
    | cons _ _ => cases e
theorem cl2 {vs : List Value} {a b : V} (e : vs.map er = [a, b]) : ∃ v w, vs = [v, w] ∧ er v = a ∧ er w = b := by
  cases vs with
  | nil => cases e
  | cons v r =>
    injection e with h1 e
    obtain ⟨w, rfl, h2⟩ := cl1 e
    exact ⟨v, w, rfl, h1, h2⟩
theorem cl3 {vs : List Value} {a b c : V} (e : vs.map er = [a, b, c]) : ∃ v w u, vs = [v, w, u] ∧ er v = a ∧ er w = b ∧ er u = c := by
  cases vs with
  | nil => cases e
  | cons v r =>
    injection e with h1 e
    obtain ⟨w, u, rfl, h2, h3⟩ := cl2 e
    exact ⟨v, w, u, rfl, h1, h2, h3⟩
theorem CALL.lower (hf : Builtin.Str.tooLong (Txt.lower x).length = false) (h : Q (.str (Txt.lower x)) N) : CALL C A (.bi "str.lower") [.str x] Q N := fun vf vs e1 e2 R s hs => by
  cases er_bi e1; obtain ⟨v, rfl, e⟩ := cl1 e2; obtain ⟨t, rfl⟩ := er_str e
  exact SC.lower hf ⟨N, hs.tok _, h⟩
theorem CALL.upper (hf : Builtin.Str.tooLong (Txt.upper x).length = false) (h : Q (.str (Txt.upper x)) N) : CALL C A (.bi "str.upper") [.str x] Q N := fun vf vs e1 e2 R s hs => by
  cases er_bi e1; obtain ⟨v, rfl, e⟩ := cl1 e2; obtain ⟨t, rfl⟩ := er_str e
  exact SC.upper hf ⟨N, hs.tok _, h⟩
theorem CALL.startswith (h : Q (.bool (Txt.startswith x y)) N) : CALL C A (.bi "str.startswith") [.str x, .str y] Q N := fun vf vs e1 e2 R s hs => by
  cases er_bi e1; obtain ⟨v, w, rfl, e, e'⟩ := cl2 e2; obtain ⟨t, rfl⟩ := er_str e; obtain ⟨u, rfl⟩ := er_str e'
  exact SC.startswith ⟨N, hs, h⟩
theorem CALL.find (h : Q (.int (Txt.find x y)) N) : CALL C A (.bi "str.find") [.str x, .str y] Q N := fun vf vs e1 e2 R s hs => by
  cases er_bi e1; obtain ⟨v, w, rfl, e, e'⟩ := cl2 e2; obtain ⟨t, rfl⟩ := er_str e; obtain ⟨u, rfl⟩ := er_str e'
  exact SC.find ⟨N, hs.tok _, h⟩
theorem CALL.rfind (h : Q (.int (Txt.rfind x y)) N) : CALL C A (.bi "str.rfind") [.str x, .str y] Q N := fun vf vs e1 e2 R s hs => by
  cases er_bi e1; obtain ⟨v, w, rfl, e, e'⟩ := cl2 e2; obtain ⟨t, rfl⟩ := er_str e; obtain ⟨u, rfl⟩ := er_str e'
  exact SC.rfind ⟨N, hs.tok _, h⟩
theorem CALL.scount (h : Q (.int (Txt.count x y)) N) : CALL C A (.bi "str.count") [.str x, .str y] Q N := fun vf vs e1 e2 R s hs => by
  cases er_bi e1; obtain ⟨v, w, rfl, e, e'⟩ := cl2 e2; obtain ⟨t, rfl⟩ := er_str e; obtain ⟨u, rfl⟩ := er_str e'
  exact SC.count ⟨N, hs.tok _, h⟩

/-- x[k] of a str -/
theorem SUB.str {value slice : Expr} (hr : fitsSsize i = true) (h1 : -(x.length : Int) ≤ i) (h2 : i < x.length) (h : Q (.str (Txt.item x i)) N)
    (hs : ∀ t u, subscripted slice false (.str x t) (.int i u) = operate [.str x t, .int i u] (getItem (.str x t) (.int i u)) := by intros; with_unfolding_all rfl)
    (ht : ∀ t r, letTemporaryGo value (.str x t) r = pure () := by intros; with_unfolding_all rfl) : SUB C A value slice (.str x) (.int i) Q N := fun vx vi e1 e2 R s h0 => by
  obtain ⟨t, rfl⟩ := er_str e1; obtain ⟨u, rfl⟩ := er_int e2
  exact item_str hr h1 h2 (fun _ => ⟨N, h0.tok _, h⟩) (hs t u) (ht t)

theorem made_str {x : Str} {t : Tok} {l u st : Option (Int × Tok)} {Q : V → Led → Prop} {N R : Led} {s : Shared} {z : Str} (hs : Rp C (N ++ R) s) (hz : z.length ≤ sizeLine)
    (e : z = if ((st.map (·.1)).getD 1 == 1 && (slicePicked x l u st).length == x.length) = true then x else ⟨((slicePicked x l u st).filterMap (x.cps[·]?)).toArray⟩) (h : Q (.str z) N) :
    (sliceMade x t l u st).post (fun v s' => ∃ N', Rp C (N' ++ R) s' ∧ Q (er v) N') s := by
  unfold sliceMade
  split
  · rename_i c
    rw [if_pos c] at e; subst e
    exact ⟨N, hs, h⟩
  · rename_i c
    rw [if_neg c] at e; subst e
    exact ⟨hz, N, hs.tok _, h⟩

theorem slen (x : Str) (l u : Option Int) : (Txt.slice x l u).length ≤ x.length := by
  unfold Txt.slice
  split
  · exact Nat.le_refl _
  · show (Array.size _) ≤ _
    rw [List.size_toArray]
    exact Nat.le_trans (List.length_filterMap_le ..) (sliceIndices_le ..)
/-- n[e:] of a str -/
theorem EV.strFrom {n : Str} {np p pos : Pos} {e : Expr} (h : EV C A env (.Name n np) (fun o N1 => ∃ x, o = .str x ∧ x.length ≤ sizeLine ∧ EV C A env e (fun v N2 => ∃ k, v = .int k ∧ Q (.str (Txt.slice x (some k) none)) N2) N1) N) :
    EV C A env (.Subscript (.Name n np) (.Slice (some e) none none p) pos) Q N := fun R s hs => by
  refine wpAny_Subscript_Slice (T := "str") F.slot_str_getitem.lookup (wm (h R s hs) fun o s1 ⟨N1, hs1, x, eo, hz, k⟩ => ?_)
  obtain ⟨t, rfl⟩ := er_str eo
  refine wpAny_Slice (wm (Q := fun v s' => ∃ N', Rp C (N' ++ R) s' ∧ _) (k R _ hs1) fun v s2 ⟨N2, hs2, k, ev, q⟩ => ?_)
  obtain ⟨u, rfl⟩ := er_int ev
  refine wpAny_pure (wpAny_pure ⟨typeIs_str _ x t, ?_⟩)
  refine wpAny_getItem_str_slice (l := some (k, u)) (u := none) (st := none) ⟨_, Heap.get?_push_size _ rfl, rfl, rfl⟩ rfl ?_
  exact made_str (z := Txt.slice x (some k) none) (hs2.keep (t := s2.toks) fun _ _ e => Heap.get?_push_of_some _ e) (Nat.le_trans (slen ..) hz) rfl q
end

end
section
open PySem PySem.W PyProof.Rows

/-- what is known of a list's items, of the ledger or of the base -/
noncomputable def LstAt (C : Cx) (N : Led) (a : Addr) (xs : List V) : Prop := ∀ R s, Rp C (N ++ R) s → ∃ vs, s.heap.IsList a vs ∧ vs.toList.map er = xs
noncomputable def TupAt (C : Cx) (N : Led) (a : Addr) (xs : List V) : Prop := ∀ R s, Rp C (N ++ R) s → ∃ vs n, s.heap.get? a = some { cls := .type "tuple", data := .seq vs n } ∧ vs.toList.map er = xs

section
variable {C : Cx} {A : Around} {env : Env} {N N' : Led} {a l : Addr} {xs : List V} {x y : V} {Q : V → Led → Prop}

theorem LstAt.mem (h : (a, Cell.list xs) ∈ N) : LstAt C N a xs := fun R s hs => by
  obtain ⟨o, ho, vs, n, rfl, e⟩ := hs.get (List.mem_append_left R h)
  exact ⟨vs, ⟨_, ho, rfl, n, rfl⟩, e⟩
theorem LstAt.imem (h : (a, Cell.ilist xs) ∈ N) : LstAt C N a xs := fun R s hs => by
  obtain ⟨o, ho, hc, vs, n, hd, e⟩ := hs.get (List.mem_append_left R h)
  exact ⟨vs, ⟨_, ho, hc, n, hd⟩, e⟩
theorem LstAt.base {vs : Array Value} (h : C.h₀.IsList a vs) (e : vs.toList.map er = xs) : LstAt C N a xs := fun R s hs => by
  obtain ⟨o, ho, hc, n, hd⟩ := h
  exact ⟨vs, ⟨o, hs.old.get_of_cls ho (by rw [hc]; exact nofun), hc, n, hd⟩, e⟩
theorem TupAt.mem (h : (a, Cell.tup xs) ∈ N) : TupAt C N a xs := fun R s hs => by
  obtain ⟨o, ho, vs, n, rfl, e⟩ := hs.get (List.mem_append_left R h)
  exact ⟨vs, n, ho, e⟩

theorem EV.list {elts : List Expr} {pos : Pos} (hz : elts.length ≤ 100) (h : EVS C A env pos elts (fun vs N1 => vs.length = elts.length ∧ ∀ l, Q (.ref l) ((l, .list vs) :: N1)) N) : EV C A env (.List elts pos) Q N := fun R s hs =>
  wpAny_List (wm (h R s hs) fun vs s1 ⟨N1, hs1, hl, k⟩ => ⟨by rw [List.length_map] at hl; rw [hl, sizeLine_eq]; omega,
    _, hs1.push (c := .list (vs.map er)) (t := s1.toks) rfl ⟨vs.toArray, 0, rfl, by simp⟩, k _⟩)
theorem EV.tuple {elts : List Expr} {k : Nat} {pos : Pos} (hz : elts.length ≤ 100) (h : EVS C A env pos elts (fun vs N1 => vs.length = elts.length ∧ ∀ l, Q (.ref l) ((l, .tup vs) :: N1)) N) : EV C A env (.Tuple elts k pos) Q N := fun R s hs =>
  wpAny_Tuple (wm (h R s hs) fun vs s1 ⟨N1, hs1, hl, k⟩ => ⟨by rw [List.length_map] at hl; rw [hl, sizeLine_eq]; omega,
    _, hs1.push (c := .tup (vs.map er)) (t := s1.toks) rfl ⟨vs.toArray, 0, rfl, by simp⟩, k _⟩)

theorem CALL.lenList (hl : LstAt C N a xs) (hz : xs.length < 2 ^ 62) (h : Q (.int xs.length) N) : CALL C A (.bi "len") [.ref a] Q N := fun vf vs e1 e2 R s hs => by
  cases er_bi e1; obtain ⟨v, rfl, e⟩ := cl1 e2; cases er_ref e
  obtain ⟨vs, hl', ev⟩ := hl R s hs
  have hn : vs.size = xs.length := by rw [← ev, List.length_map, Array.length_toList]
  exact PyProof.Rows.len_list hl' (by rw [hn]; omega) ⟨N, hs.tok _, by show Q (.int vs.size) N; rw [hn]; exact h⟩

theorem er_get {vs : Array Value} {i : Nat} {x : V} (e : vs.toList.map er = xs) (hx : xs[i]? = some x) : ∃ v, vs[i]? = some v ∧ er v = x := by
  subst e
  rw [List.getElem?_map] at hx
  cases q : vs.toList[i]? with
  | none => rw [q] at hx; cases hx
  | some v => rw [q] at hx; exact ⟨v, by rw [← Array.getElem?_toList]; exact q, Option.some.inj hx⟩
theorem GIT.list {i : Int} (hl : LstAt C N a xs) (h0 : 0 ≤ i) (hf : i < 2 ^ 63) (hx : xs[i.toNat]? = some x) (h : Q x N) : GIT C A (.ref a) (.int i) Q N := fun vx vi e1 e2 R s hs => by
  cases er_ref e1; obtain ⟨u, rfl⟩ := er_int e2
  obtain ⟨vs, hl', ev⟩ := hl R s hs
  obtain ⟨v, hv, rfl⟩ := er_get ev hx
  exact wpAny_getItem_list hl' h0 hf hv ⟨N, hs, h⟩
theorem GIT.listNeg {i : Int} (hl : LstAt C N a xs) (h0 : i < 0) (h1 : -(xs.length : Int) ≤ i) (hf : -(2 ^ 63) ≤ i) (hx : xs[(i + xs.length).toNat]? = some x) (h : Q x N) : GIT C A (.ref a) (.int i) Q N := fun vx vi e1 e2 R s hs => by
  cases er_ref e1; obtain ⟨u, rfl⟩ := er_int e2
  obtain ⟨vs, hl', ev⟩ := hl R s hs
  have hn : vs.size = xs.length := by rw [← ev, List.length_map, Array.length_toList]
  obtain ⟨v, hv, rfl⟩ := er_get ev hx
  exact wpAny_getItem_list_neg hl' h0 (by rw [hn]; exact h1) hf (by rw [hn]; exact hv) ⟨N, hs, h⟩
theorem GIT.tup {i : Int} {j : Nat} (hl : TupAt C N a xs) (hlo : -(2 ^ 63) ≤ i) (hhi : i < 2 ^ 63) (hj : seqIndex? i xs.length = some j) (hx : xs[j]? = some x) (h : Q x N) : GIT C A (.ref a) (.int i) Q N := fun vx vi e1 e2 R s hs => by
  cases er_ref e1; obtain ⟨u, rfl⟩ := er_int e2
  obtain ⟨vs, n, ho, ev⟩ := hl R s hs
  have hn : vs.size = xs.length := by rw [← ev, List.length_map, Array.length_toList]
  obtain ⟨v, hv, rfl⟩ := er_get ev hx
  exact getItem_tuple ⟨_, ho, rfl, n, rfl⟩ hlo hhi (by rw [hn]; exact hj) hv ⟨N, hs, h⟩

/-- o[i] of a list or tuple by an int: from the item's rule -/
theorem SUB.list {value slice : Expr} {i : Int} (hl : LstAt C N a xs) (hg : GIT C A (.ref a) (.int i) Q N)
    (hs : ∀ t u, subscripted slice false (.ref t) (.int i u) = operate [.ref t, .int i u] (getItem (.ref t) (.int i u)) := by intros; with_unfolding_all rfl) : SUB C A value slice (.ref a) (.int i) Q N := fun vx vi e1 e2 R s h0 => by
  obtain ⟨vs, hl', ev⟩ := hl R s h0
  have q := hg vx vi e1 e2 R s h0
  cases er_ref e1; obtain ⟨u, rfl⟩ := er_int e2
  exact tail_any hl'.typeIs slot_list_getitem.lookup q (hs a u)
theorem SUB.tup {value slice : Expr} {i : Int} (hl : TupAt C N a xs) (hg : GIT C A (.ref a) (.int i) Q N)
    (hs : ∀ t u, subscripted slice false (.ref t) (.int i u) = operate [.ref t, .int i u] (getItem (.ref t) (.int i u)) := by intros; with_unfolding_all rfl) : SUB C A value slice (.ref a) (.int i) Q N := fun vx vi e1 e2 R s h0 => by
  obtain ⟨vs, n, ho, ev⟩ := hl R s h0
  have q := hg vx vi e1 e2 R s h0
  cases er_ref e1; obtain ⟨u, rfl⟩ := er_int e2
  exact tail_any ⟨_, ho, rfl⟩ slot_tuple_getitem.lookup q (hs a u)

theorem KEEP.any {n : String} : KEEP C (.bi n) N := KEEP.bi
theorem gm_list {n : Str} {id : String} {Q : V → List V → Led → Prop} (slot : Slot "list" n id) (ty : typeOf (.builtin id) = pure (.type "method_descriptor")) (hm : (a, Cell.list xs) ∈ N) (h : Q (.bi id) [.ref a] N) : GM C A (.ref a) n Q N := fun pl vx e R s hs => by
  cases er_ref e
  obtain ⟨o, ho, vs, k, rfl, ev⟩ := hs.get (List.mem_append_left R hm)
  have hT : s.TypeIs (.ref a) "list" := ⟨_, ho, rfl⟩
  with_reducible refine getMethod_builtin (v := .ref a) hT F.plainAttrs_list slot ty (fun b e => ⟨_, by cases e; exact ho, rfl⟩) ?_
  exact ⟨N, hs, h⟩

theorem CALL.append (hm : Upd a (.list xs) (.list (xs ++ [x])) N N') (hz : xs.length ≤ sizeLine) (h : Q .none N') : CALL C A (.bi "list.append") [.ref a, x] Q N := fun vf vs e1 e2 R s hs => by
  cases er_bi e1; obtain ⟨v, w, rfl, e, e'⟩ := cl2 e2; cases er_ref e
  have u := hm.app R
  obtain ⟨o, ho, vs, k, rfl, ev⟩ := hs.get u.mem
  have hn : vs.size = xs.length := by rw [← ev, List.length_map, Array.length_toList]
  refine wpAny_list_append_plain ⟨k, ho⟩ (fun h' ⟨k', hp⟩ hsb => ⟨N', hs.upd (t := s.toks) u hsb ⟨_, hp, _, k', rfl, ?_⟩, h⟩) (by rw [hn]; exact hz)
  rw [Array.toList_push, List.map_append, ev, ← e']; rfl
theorem map_eraseIdx {α β : Type} (f : α → β) : ∀ (l : List α) (i : Nat), (l.eraseIdx i).map f = (l.map f).eraseIdx i
  | [], i => by simp
  | _ :: _, 0 => rfl
  | x :: l, i + 1 => by simp only [List.eraseIdx_cons_succ, List.map_cons]; rw [map_eraseIdx f l i]
theorem CALL.pop (hm : Upd a (.list (xs ++ [x])) (.list xs) N N') (hz : xs.length < sizeLine) (h : Q x N') : CALL C A (.bi "list.pop") [.ref a] Q N := fun vf vs e1 e2 R s hs => by
  cases er_bi e1; obtain ⟨v, rfl, e⟩ := cl1 e2; cases er_ref e
  have u := hm.app R
  obtain ⟨o, ho, vs, k, rfl, ev⟩ := hs.get u.mem
  have hn : vs.size = xs.length + 1 := by rw [← Array.length_toList, ← List.length_map (f := er), ev, List.length_append]; rfl
  obtain ⟨v, hv, evx⟩ := er_get (i := xs.length) ev (x := x) (by simp)
  refine call_meets F.slot_list_pop ⟨_, ho, rfl⟩ F.entry_list_pop (F.args_list_pop_1 _) (MeetsSeq.list_pop_last a vs k v (by rw [hn]; exact hv) (by rw [hn]; omega)) ⟨ho, N', ?_, by show Q (er v) N'; rw [evx]; exact h⟩
  refine hs.upd u (Heap.SameBut.update ..) ⟨_, IsL.update ho _, _, _, rfl, ?_⟩
  rw [hn, Array.eraseIdxIfInBounds, dif_pos (by rw [hn]; omega), Array.toList_eraseIdx]
  show List.map er (vs.toList.eraseIdx (xs.length + 1 - 1)) = xs
  rw [map_eraseIdx, ev, Nat.add_sub_cancel, List.eraseIdx_append_of_length_le (Nat.le_refl _), Nat.sub_self]
  simp
theorem CALL.pop0 (hm : Upd a (.list (x :: xs)) (.list xs) N N') (hz : xs.length < sizeLine) (h : Q x N') : CALL C A (.bi "list.pop") [.ref a, .int 0] Q N := fun vf vs e1 e2 R s hs => by
  cases er_bi e1; obtain ⟨v, w, rfl, e, e'⟩ := cl2 e2; cases er_ref e; obtain ⟨t, rfl⟩ := er_int e'
  have u := hm.app R
  obtain ⟨o, ho, vs, k, rfl, ev⟩ := hs.get u.mem
  have hn : vs.size = xs.length + 1 := by rw [← Array.length_toList, ← List.length_map (f := er), ev, List.length_cons]
  obtain ⟨v, hv, evx⟩ := er_get (i := 0) ev (x := x) (by simp)
  refine call_meets F.slot_list_pop ⟨_, ho, rfl⟩ F.entry_list_pop (F.args_list_pop_2 _ _) (MeetsSeq.list_pop_at a vs k 0 t 0 v (by decide) (by unfold seqIndex?; rw [hn]; simp) hv (by rw [hn]; omega)) ⟨ho, N', ?_, by show Q (er v) N'; rw [evx]; exact h⟩
  refine hs.upd u (Heap.SameBut.update ..) ⟨_, IsL.update ho _, _, _, rfl, ?_⟩
  rw [Array.eraseIdxIfInBounds, dif_pos (by rw [hn]; omega), Array.toList_eraseIdx, map_eraseIdx, ev]; rfl
theorem SIT.list {i : Int} (hm : Upd a (.ilist xs) (.ilist (xs.set i.toNat x)) N N') (h0 : 0 ≤ i) (hf : i < 2 ^ 63) (hn : i < xs.length) {Q : Led → Prop} (h : Q N') : SIT C A (.ref a) (.int i) x Q N := fun vx vi vy e1 e2 e3 R s hs => by
  cases er_ref e1; obtain ⟨t, rfl⟩ := er_int e2
  have u := hm.app R
  obtain ⟨o, ho, hc, vs, k, hd, ev⟩ := hs.get u.mem
  have hn' : vs.size = xs.length := by rw [← ev, List.length_map, Array.length_toList]
  refine wpAny_setItem_list ⟨o, ho, hc, k, hd⟩ h0 hf (by rw [hn']; exact hn) fun h' ⟨o', ho', hc', k', hd'⟩ hsb => ⟨N', hs.upd (t := s.toks) u hsb ⟨o', ho', hc', _, k', hd', ?_⟩, h⟩
  rw [Array.toList_setIfInBounds, List.map_set, ev, e3]
/-- a list is looked at as one whose exact make is forgotten -/
theorem W.ilist {α : Type} {t : Sem α} {Q : α → Led → Prop} (hm : Upd a (.list xs) (.ilist xs) N N') (h : W C A t Q N') : W C A t Q N := fun R s hs => by
  refine h R s ?_
  have u := hm.app R
  obtain ⟨o, ho, vs, k, rfl, ev⟩ := hs.get u.mem
  exact hs.upd (t := s.toks) u (Heap.SameBut.refl ..) ⟨_, ho, rfl, vs, k, rfl, ev⟩

theorem TRU.list (hl : LstAt C N a xs) (hz : xs.length < 2 ^ 62) {Q : Bool → Led → Prop} (h : Q (!xs.isEmpty) N) : TRU C A (.ref a) Q N := fun vx e R s hs => by
  cases er_ref e
  obtain ⟨vs, hl', ev⟩ := hl R s hs
  have hn : vs.size = xs.length := by rw [← ev, List.length_map, Array.length_toList]
  refine wpAny_truthy_list hl' (by rw [hn]; omega) ⟨N, hs.tok _, ?_⟩
  have : vs.isEmpty = xs.isEmpty := by
    rw [← ev]
    cases vs with | mk l => cases l <;> rfl
  rw [this]; exact h

theorem strs_of : ∀ {vs : List Value} {ys : List Str}, vs.map er = ys.map .str → StrsAre vs ys
  | [], [], _ => .nil
  | v :: vs, y :: ys, e => by
    rw [List.map_cons, List.map_cons] at e
    injection e with e1 e2
    obtain ⟨t, rfl⟩ := er_str e1
    exact .cons y t (strs_of e2)
  | [], _ :: _, e => by cases e
  | _ :: _, [], e => by cases e
theorem CMP.inList {k : Str} {ys : List Str} (hl : LstAt C N a (ys.map .str)) (h : Q (.bool (ys.any (· == k))) N) : CMP C A .In (.str k) (.ref a) Q N := fun vx vy e1 e2 R s hs => by
  obtain ⟨t, rfl⟩ := er_str e1; cases er_ref e2
  obtain ⟨vs, hl', ev⟩ := hl R s hs
  exact in_list_strs (vs := vs.toList) hl' (strs_of ev) ⟨N, hs, h⟩
theorem CMP.notInList {k : Str} {ys : List Str} (hl : LstAt C N a (ys.map .str)) (h : Q (.bool (!(ys.any (· == k)))) N) : CMP C A .NotIn (.str k) (.ref a) Q N := fun vx vy e1 e2 R s hs => by
  obtain ⟨t, rfl⟩ := er_str e1; cases er_ref e2
  obtain ⟨vs, hl', ev⟩ := hl R s hs
  exact notin_list_strs (vs := vs.toList) hl' (strs_of ev) ⟨N, hs, h⟩

-- iteration over a list
theorem ITR.list (hl : LstAt C N a xs) (h : ∀ it, Q (.ref it) ((it, .flds "list_iterator" [.ref a, .int 0 0]) :: N)) : ITR C A (.ref a) Q N := fun vx e R s hs => by
  cases er_ref e
  obtain ⟨vs, hl', ev⟩ := hl R s hs
  exact wpAny_pyIter_list hl' ⟨_, hs.push (c := .flds "list_iterator" [.ref a, .int 0 0]) (t := s.toks) rfl ⟨rfl, rfl⟩, h _⟩
theorem NXT.list {it : Addr} {i : Nat} {Q : Option V → Led → Prop} (hl : LstAt C N a xs) (hx : xs[i]? = some x)
    (hm : Upd it (.flds "list_iterator" [.ref a, .int i 0]) (.flds "list_iterator" [.ref a, .int (i + 1 : Nat) 0]) N N') (h : Q (some x) N') : NXT C A (.ref it) Q N := fun vx e R s hs => by
  cases er_ref e
  obtain ⟨vs, hl', ev⟩ := hl R s hs
  have u := hm.app R
  obtain ⟨o, ho, hc, hd⟩ := hs.get u.mem
  obtain ⟨v, hv, evx⟩ := er_get ev hx
  refine wpAny_pyNext_list_item ⟨o, ho, hc, hd⟩ hl' hv fun h' ⟨o', ho', hc', hd'⟩ hsb => ⟨N', hs.upd (t := s.toks) u hsb ⟨o', ho', hc', hd'⟩, ?_⟩
  show Q (some (er v)) N'
  rw [evx]; exact h
end

end
section
open PySem PySem.W PyProof.Rows

noncomputable def putK {K : Type} [DecidableEq K] (kvs : List (K × V)) (k : K) (v : V) : List (K × V) :=
  if kvs.any (fun kv => kv.1 = k) then kvs.map (fun kv => if kv.1 = k then (kv.1, v) else kv) else kvs ++ [(k, v)]
noncomputable def getK {K : Type} [DecidableEq K] (kvs : List (K × V)) (k : K) : Option V := (kvs.find? fun kv => kv.1 = k).map (·.2)
noncomputable def erP {K : Type} (p : K × Value) : K × V := (p.1, er p.2)

theorem stored_er {K : Type} [DecidableEq K] (kvs : List (K × Value)) (k : K) (v : Value) : (stored kvs k v).map erP = putK (kvs.map erP) k (er v) := by
  unfold stored putK
  have e : (kvs.map erP).any (fun kv => kv.1 = k) = kvs.any (fun kv => kv.1 = k) := by rw [List.any_map]; rfl
  rw [e]
  split
  · rw [List.map_map, List.map_map]
    congr 1
    funext p
    by_cases h : p.1 = k
    · have h' : (erP p).1 = k := h
      show erP (if p.1 = k then _ else _) = if (erP p).1 = k then _ else _
      rw [if_pos h, if_pos h']; rfl
    · have h' : ¬ (erP p).1 = k := h
      show erP (if p.1 = k then _ else _) = if (erP p).1 = k then _ else _
      rw [if_neg h, if_neg h']
  · rw [List.map_append]; rfl
theorem valueAt_er {K : Type} [DecidableEq K] (kvs : List (K × Value)) (k : K) : (valueAt kvs k).map er = getK (kvs.map erP) k := by
  unfold valueAt getK
  induction kvs with
  | nil => rfl
  | cons p r ih =>
    rw [List.map_cons, List.find?_cons, List.find?_cons]
    by_cases h : p.1 = k
    · simp [h, erP]
    · have h1 : decide ((erP p).1 = k) = false := decide_eq_false h
      rw [h1, decide_eq_false h]; exact ih

noncomputable def DictC {prog : Program} {w : World} {K : Type} [DecidableEq K] (knd : KeyKind prog w K) (kvs : List (K × V)) (ep : Nat) (o : Obj) : Prop :=
  ∃ es kvs', o.ExactDict ∧ o.data = .dict es ep ∧ PySem.KeysOf knd es ∧ Pairs knd es.toList kvs' ∧ (kvs'.map (·.1)).Nodup ∧ kvs'.map erP = kvs

/-- a kind of dict cell -/
structure DK (C : Cx) (K : Type) [DecidableEq K] where
  knd : KeyKind C.prog C.w K
  cf : List (K × V) → Nat → Cell
  is : ∀ kvs ep o, (cf kvs ep).Is C.w C.prog o ↔ DictC knd kvs ep o
  kv : K → V
  key : ∀ k v, er v = kv k → knd.is k v = true
  yek : ∀ k v, knd.is k v = true → er v = kv k
  sup : ∀ kvs ep H, (cf kvs ep).Sup H

noncomputable def dkS (C : Cx) : DK C Str where
  knd := PySem.strKind C.prog C.w
  cf := .dictS
  is := fun _ _ _ => Iff.rfl
  kv := .str
  key := fun k v e => by obtain ⟨t, rfl⟩ := er_str e; exact strKind_is _ _ _ _
  yek := fun k v e => by obtain ⟨t, rfl⟩ := Value.isStrOf_shape e; rfl
  sup := fun _ _ _ => trivial
noncomputable def dkI (C : Cx) : DK C Int where
  knd := intKind C.prog C.w
  cf := .dictI
  is := fun _ _ _ => Iff.rfl
  kv := .int
  key := fun k v e => by obtain ⟨t, rfl⟩ := er_int e; exact intKind_is _ _ _ _
  yek := fun k v e => by obtain ⟨t, rfl⟩ := Value.isInt_shape e; rfl
  sup := fun _ _ _ => trivial

section
variable {C : Cx} {A : Around} {env : Env} {N N' : Led} {K : Type} [DecidableEq K] (D : DK C K) {d : Addr} {kvs : List (K × V)} {ep : Nat} {k : K} {x y : V} {Q : V → Led → Prop}

theorem DK.at_ {R : Led} {s : Shared} (hs : Rp C (N ++ R) s) (hm : (d, D.cf kvs ep) ∈ N) : ∃ kvs', s.heap.DictAt D.knd d kvs' ep ∧ kvs'.map erP = kvs := by
  obtain ⟨o, ho, hi⟩ := hs.get (List.mem_append_left R hm)
  obtain ⟨es, kvs', h1, h2, h3, h4, h5, h6⟩ := (D.is _ _ _).mp hi
  exact ⟨kvs', ⟨o, es, ho, h1, h2, h3, h4, h5⟩, h6⟩
theorem DK.of_ {h : Heap} {kvs' : List (K × Value)} (hd : h.DictOf D.knd d kvs') : ∃ ep, ∃ o, h.get? d = some o ∧ (D.cf (kvs'.map erP) ep).Is C.w C.prog o := by
  obtain ⟨o, es, ep, ho, h1, h2, h3, h4, h5⟩ := hd
  exact ⟨ep, o, ho, (D.is _ _ _).mpr ⟨es, kvs', h1, h2, h3, h4, h5, rfl⟩⟩
theorem DK.lo {R : Led} {s : Shared} (hs : Rp C (N ++ R) s) {c : Cell} (hm : (d, c) ∈ N) : (d == sysModules) = false := by
  have h1 : (200 : Nat) ≤ C.h₀.objs.size := hs.low.lo
  have h2 : (C.h₀.objs.size : Nat) ≤ d := hs.ge (List.mem_append_left R hm)
  have e : sysModules = 1 := rfl
  have h3 : (d : Nat) ≠ 1 := fun e => by rw [e] at h2; omega
  rw [e]; exact beq_false_of_ne h3

theorem GIT.dict (hm : (d, D.cf kvs ep) ∈ N) (hx : getK kvs k = some x) (h : Q x N) : GIT C A (.ref d) (D.kv k) Q N := fun vx vi e1 e2 R s hs => by
  cases er_ref e1
  obtain ⟨kvs', hd, rfl⟩ := D.at_ hs hm
  rw [← valueAt_er] at hx
  cases q : valueAt kvs' k with
  | none => rw [q] at hx; cases hx
  | some v =>
    rw [q] at hx
    have e : er v = x := Option.some.inj hx
    exact wpAny_getItem_of (D.key k vi e2) hd.dictOf.mapOf q ⟨N, hs.tok _, by show Q (er v) N; rw [e]; exact h⟩
theorem SUB.dict {value slice : Expr} (hm : (d, D.cf kvs ep) ∈ N) (hg : GIT C A (.ref d) (D.kv k) Q N) (hk : ∀ a, D.kv k ≠ .ref a)
    (hs : ∀ t v, subscripted slice false (.ref t) v = operate [.ref t, v] (getItem (.ref t) v) := by intros; with_unfolding_all rfl) : SUB C A value slice (.ref d) (D.kv k) Q N := fun vx vi e1 e2 R s h0 => by
  obtain ⟨kvs', hd, _⟩ := D.at_ h0 hm
  have q := hg vx vi e1 e2 R s h0
  cases er_ref e1
  exact tail_any hd.dictOf.typeIs slot_dict_getitem.lookup q (hs d vi)
theorem CMP.inDict (hm : (d, D.cf kvs ep) ∈ N) (h : Q (.bool (getK kvs k).isSome) N) : CMP C A .In (D.kv k) (.ref d) Q N := fun vx vy e1 e2 R s hs => by
  cases er_ref e2
  obtain ⟨kvs', hd, rfl⟩ := D.at_ hs hm
  refine wpAny_in_of (D.key k vx e1) (DK.lo hs hm) hd.dictOf.mapOf ⟨N, hs.tok _, ?_⟩
  rw [← valueAt_er, Option.isSome_map] at h
  exact h
theorem SIT.dict {N' : Nat → Led} {Q : Led → Prop} (hm : ∀ ep', Upd d (D.cf kvs ep) (D.cf (putK kvs k x) ep') N (N' ep')) (hz : kvs.length ≤ sizeLine) (h : ∀ ep', Q (N' ep')) : SIT C A (.ref d) (D.kv k) x Q N := fun vx vi vy e1 e2 e3 R s hs => by
  cases er_ref e1
  obtain ⟨kvs', hd, rfl⟩ := D.at_ hs (hm 0).mem
  refine wpAny_setItem_pairs (D.key k vi e2) hd.dictOf (fun h' hd' hsb => ?_) (by rw [List.length_map] at hz; exact hz)
  obtain ⟨ep', o, ho, hi⟩ := D.of_ hd'
  rw [stored_er, e3] at hi
  exact ⟨N' ep', hs.upd ((hm ep').app R) hsb ⟨o, ho, hi⟩ (D.sup _ _), h ep'⟩
theorem gm_dict {n : Str} {id : String} {Q : V → List V → Led → Prop} (slot : Slot "dict" n id) (ty : typeOf (.builtin id) = pure (.type "method_descriptor")) (hm : (d, D.cf kvs ep) ∈ N) (h : Q (.bi id) [.ref d] N) : GM C A (.ref d) n Q N := fun pl vx e R s hs => by
  cases er_ref e
  obtain ⟨kvs', hd, _⟩ := D.at_ hs hm
  with_reducible refine getMethod_builtin (v := .ref d) hd.dictOf.typeIs F.plainAttrs_dict slot ty hd.dictOf.mapOf.noDict ?_
  exact ⟨N, hs, h⟩
theorem CALL.dget (hm : (d, D.cf kvs ep) ∈ N) (h : Q ((getK kvs k).getD y) N) : CALL C A (.bi "dict.get") [.ref d, D.kv k, y] Q N := fun vf vs e1 e2 R s hs => by
  cases er_bi e1; obtain ⟨v, w, u, rfl, e, e', e''⟩ := cl3 e2; cases er_ref e
  obtain ⟨kvs', hd, rfl⟩ := D.at_ hs hm
  refine call_meetsIn F.slot_dict_get hd.dictOf.typeIs F.entry_dict_get (F.args_dict_get_3 _ _ _) (meets_dict_get_default D.knd d (D.key k w e') (DK.lo hs hm) u) ⟨_, hd.dictOf.mapOf, N, hs.tok _, ?_⟩
  show Q (er ((valueAt kvs' k).getD u)) N
  rw [← valueAt_er] at h
  cases q : valueAt kvs' k with
  | none => rw [q, ← e''] at h; exact h
  | some z => rw [q] at h; exact h
theorem CALL.items (hm : (d, D.cf kvs ep) ∈ N) (h : ∀ v, Q (.ref v) ((v, .flds "dict_items" [.ref d]) :: N)) : CALL C A (.bi "dict.items") [.ref d] Q N := fun vf vs e1 e2 R s hs => by
  cases er_bi e1; obtain ⟨v, rfl, e⟩ := cl1 e2; cases er_ref e
  obtain ⟨kvs', hd, _⟩ := D.at_ hs hm
  exact call_meetsIn F.slot_dict_items hd.dictOf.typeIs F.entry_dict_items (F.args_dict_items_1 _) (meets_dict_items D.knd d (DK.lo hs hm)) ⟨⟨_, hd.dictOf⟩, _, hs.push (c := .flds "dict_items" [.ref d]) (t := s.toks) rfl ⟨rfl, rfl⟩, h _⟩
theorem CALL.values (hm : (d, D.cf kvs ep) ∈ N) (h : ∀ v, Q (.ref v) ((v, .flds "dict_values" [.ref d]) :: N)) : CALL C A (.bi "dict.values") [.ref d] Q N := fun vf vs e1 e2 R s hs => by
  cases er_bi e1; obtain ⟨v, rfl, e⟩ := cl1 e2; cases er_ref e
  obtain ⟨kvs', hd, _⟩ := D.at_ hs hm
  exact call_meetsIn F.slot_dict_values hd.dictOf.typeIs F.entry_dict_values (F.args_dict_values_1 _) (meets_dict_values D.knd d (DK.lo hs hm)) ⟨⟨_, hd.dictOf⟩, _, hs.push (c := .flds "dict_values" [.ref d]) (t := s.toks) rfl ⟨rfl, rfl⟩, h _⟩
theorem EV.dict0 {pos : Pos} (h : ∀ d ep, Q (.ref d) ((d, D.cf [] ep) :: N)) : EV C A env (.Dict [] [] pos) Q N := fun R s hs => by
  refine wpAny_Dict_empty ?_
  exact ⟨_, hs.push (hS := D.sup _ _) (c := D.cf [] 0) (t := s.toks) rfl ((D.is _ _ _).mpr ⟨#[], [], ⟨rfl, rfl, rfl⟩, rfl, fun _ h => by simp at h, .nil, .nil, rfl⟩), h _ _⟩

-- iteration
theorem ITR.dict (hm : (d, D.cf kvs ep) ∈ N) (h : ∀ it, Q (.ref it) ((it, .flds "dict_keyiterator" [.ref d, .int 0 0, .int kvs.length 0, .int ep 0]) :: N)) : ITR C A (.ref d) Q N := fun vx e R s hs => by
  cases er_ref e
  obtain ⟨kvs', hd, rfl⟩ := D.at_ hs hm
  rw [List.length_map] at h
  exact wpAny_pyIter_dict (DK.lo hs hm) hd ⟨_, hs.push (c := .flds "dict_keyiterator" [.ref d, .int 0 0, .int kvs'.length 0, .int ep 0]) (t := s.toks) rfl ⟨rfl, rfl⟩, h _⟩
theorem NXT.dict {it : Addr} {i : Nat} {Q : Option V → Led → Prop} (hm : (d, D.cf kvs ep) ∈ N) (hx : kvs[i]? = some (k, x))
    (hu : Upd it (.flds "dict_keyiterator" [.ref d, .int i 0, .int kvs.length 0, .int ep 0]) (.flds "dict_keyiterator" [.ref d, .int (i + 1 : Nat) 0, .int kvs.length 0, .int ep 0]) N N') (h : Q (some (D.kv k)) N') : NXT C A (.ref it) Q N := fun vx e R s hs => by
  cases er_ref e
  obtain ⟨kvs', hd, rfl⟩ := D.at_ hs hm
  have u := hu.app R
  obtain ⟨o, ho, hc, hdt⟩ := hs.get u.mem
  rw [List.length_map] at hdt u
  rw [List.getElem?_map] at hx
  cases q : kvs'[i]? with
  | none => rw [q] at hx; cases hx
  | some p =>
    obtain ⟨k', v'⟩ := p
    rw [q] at hx
    cases hx
    refine wpAny_pyNext_dict_item ⟨o, ho, hc, hdt⟩ hd q fun key h' hkey ⟨o', ho', hc', hd'⟩ hsb => ⟨N', hs.upd (t := s.toks) u hsb ⟨o', ho', hc', hd'⟩, ?_⟩
    show Q (some (er key)) N'
    rw [D.yek _ _ hkey]; exact h
theorem ITR.values {v : Addr} (hm : (d, D.cf kvs ep) ∈ N) (hv : (v, Cell.flds "dict_values" [.ref d]) ∈ N) (h : ∀ it, Q (.ref it) ((it, .flds "dict_valueiterator" [.ref d, .int 0 0, .int kvs.length 0, .int ep 0]) :: N)) : ITR C A (.ref v) Q N := fun vx e R s hs => by
  cases er_ref e
  obtain ⟨kvs', hd, rfl⟩ := D.at_ hs hm
  obtain ⟨o, ho, hc, hdt⟩ := hs.get (List.mem_append_left R hv)
  rw [List.length_map] at h
  exact wpAny_pyIter_values ⟨o, ho, hc, hdt⟩ hd ⟨_, hs.push (c := .flds "dict_valueiterator" [.ref d, .int 0 0, .int kvs'.length 0, .int ep 0]) (t := s.toks) rfl ⟨rfl, rfl⟩, h _⟩
theorem NXT.values {it : Addr} {i : Nat} {Q : Option V → Led → Prop} (hm : (d, D.cf kvs ep) ∈ N) (hx : kvs[i]? = some (k, x))
    (hu : Upd it (.flds "dict_valueiterator" [.ref d, .int i 0, .int kvs.length 0, .int ep 0]) (.flds "dict_valueiterator" [.ref d, .int (i + 1 : Nat) 0, .int kvs.length 0, .int ep 0]) N N') (h : Q (some x) N') : NXT C A (.ref it) Q N := fun vx e R s hs => by
  cases er_ref e
  obtain ⟨kvs', hd, rfl⟩ := D.at_ hs hm
  have u := hu.app R
  obtain ⟨o, ho, hc, hdt⟩ := hs.get u.mem
  rw [List.length_map] at hdt u
  rw [List.getElem?_map] at hx
  cases q : kvs'[i]? with
  | none => rw [q] at hx; cases hx
  | some p =>
    obtain ⟨k', v'⟩ := p
    rw [q] at hx
    cases hx
    exact wpAny_pyNext_values_item ⟨o, ho, hc, hdt⟩ hd q fun h' ⟨o', ho', hc', hd'⟩ hsb => ⟨N', hs.upd (t := s.toks) u hsb ⟨o', ho', hc', hd'⟩, h⟩
theorem ITR.items {v : Addr} (hm : (d, D.cf kvs ep) ∈ N) (hv : (v, Cell.flds "dict_items" [.ref d]) ∈ N) (h : ∀ it, Q (.ref it) ((it, .itemIt d 0 kvs.length ep) :: N)) : ITR C A (.ref v) Q N := fun vx e R s hs => by
  cases er_ref e
  obtain ⟨kvs', hd, rfl⟩ := D.at_ hs hm
  obtain ⟨o, ho, hc, hdt⟩ := hs.get (List.mem_append_left R hv)
  rw [List.length_map] at h
  exact wpAny_pyIter_items ⟨o, ho, hc, hdt⟩ hd ⟨_, hs.push (c := .itemIt d 0 kvs'.length ep) (t := s.toks) rfl ⟨_, _, rfl⟩, h _⟩
end

end
section
open PySem PySem.W PyProof.Rows

inductive Del (a : Addr) (c : Cell) : Led → Led → Prop
  | head {N : Led} : Del a c ((a, c) :: N) N
  | tail {p : Addr × Cell} {N N' : Led} : Del a c N N' → Del a c (p :: N) (p :: N')
theorem Del.app {a : Addr} {c : Cell} {N N' : Led} (u : Del a c N N') (R : Led) : Del a c (N ++ R) (N' ++ R) := by
  induction u with
  | head => exact .head
  | tail _ ih => exact .tail ih
theorem Del.mem {a : Addr} {c : Cell} {N N' : Led} (u : Del a c N N') : (a, c) ∈ N := by
  induction u with
  | head => exact .head _
  | tail _ ih => exact .tail _ ih
theorem Del.sub {a : Addr} {c : Cell} {N N' : Led} (u : Del a c N N') : N'.Sublist N := by
  induction u with
  | head => exact List.sublist_cons_self ..
  | tail _ ih => exact ih.cons₂ _
theorem Del.ne {a : Addr} {c : Cell} {N N' : Led} (u : Del a c N N') (hn : (N.map (·.1)).Nodup) : ∀ p ∈ N', p.1 ≠ a := by
  induction u with
  | head =>
    intro p hp e
    rw [List.map_cons, List.nodup_cons] at hn
    exact hn.1 (List.mem_map.mpr ⟨p, hp, e⟩)
  | tail u ih =>
    intro p hp
    rw [List.map_cons, List.nodup_cons] at hn
    rcases List.mem_cons.mp hp with rfl | hp
    · exact fun e => hn.1 (e ▸ List.mem_map_of_mem u.mem)
    · exact ih hn.2 p hp

theorem OldK.ext {h₀ h h' : Heap} (K : OldK h₀ h) {a : Addr} (ha : h₀.objs.size ≤ a) (hs : Heap.ExtBut a h h') : OldK h₀ h' := by
  have ne : ∀ b o, h₀.get? b = some o → b ≠ a := fun b o e => Nat.ne_of_lt (Nat.lt_of_lt_of_le (Heap.lt_size e) ha)
  refine ⟨fun b o e => ?_, fun b o e => let ⟨o', ho'⟩ := K.there b o e; ⟨o', hs b _ (ne b o e) ho'⟩⟩
  rcases K.old b o e with x | ⟨t, hc, vs, more, hv, x⟩ | ⟨rfl, hc, ⟨o', es, n, ho', r⟩, z⟩
  · exact .inl (hs b _ (ne b o e) x)
  · exact .inr (.inl ⟨t, hc, vs, more, hv, hs b _ (ne b o e) x⟩)
  · exact .inr (.inr ⟨rfl, hc, ⟨o', es, n, hs _ _ (ne _ o e) ho', r⟩, fun key => by rw [OldK.staticOf_congr ((hs _ _ (ne _ o e) ho').trans ho'.symm) key]; exact z key⟩)

section
variable {C : Cx} {A : Around} {env : Env} {N N' : Led} {a l : Addr} {xs : List V} {x y : V} {Q : V → Led → Prop}

theorem Rp.del {s : Shared} (h : Rp C N s) {c : Cell} (u : Del a c N N') {h' : Heap} {t : Nat} (hs : Heap.ExtBut a s.heap h') : Rp C N' { s with heap := h', toks := t } := by
  obtain ⟨l1, l2, l3⟩ := low3 h.low
  obtain ⟨H, x⟩ := h
  have uH := u.app H
  have ha := (x.at_ (a, c) uH.mem).1
  have ne : ∀ b : Addr, b < C.h₀.objs.size → b ≠ a := fun b hb e => absurd (Nat.lt_of_lt_of_le (e ▸ hb) ha) (Nat.lt_irrefl _)
  refine ⟨H, x.low, OldK.ext x.old ha hs, x.lim.extBut hs (ne _ l3), x.g.extBut hs (ne _ l1), x.b.extBut hs (ne _ l2), (uH.sub.map _).nodup x.nd, ?_, fun p hp => x.sup p (uH.sub.subset hp), ?_, x.os, x.gens⟩
  · intro p hp
    obtain ⟨z, o, ho, hi⟩ := x.at_ p (uH.sub.subset hp)
    exact ⟨z, o, hs _ _ (uH.ne x.nd p hp) ho, hi⟩
  · intro t ht
    obtain ⟨z1, z2, _⟩ := x.low.tc t ht
    obtain ⟨ps, y1, y2, y3⟩ := x.tb t ht
    exact ⟨ps, y1.extBut hs (ne _ z1) (ne _ z2), y2.extBut hs (ne _ z1) (ne _ z2), y3⟩

theorem NXT.listEnd {n : Nat} {it : Addr} {i : Nat} {Q : Option V → Led → Prop} (hr : Room n A) (hl : LstAt C N a xs) (hx : xs[i]? = none)
    (hm : Del it (.flds "list_iterator" [.ref a, .int i 0]) N N') (h : Q none N') : NXT C A (.ref it) Q N := fun vx e R s hs => by
  cases er_ref e
  obtain ⟨vs, hl', ev⟩ := hl R s hs
  have u := hm.app R
  obtain ⟨o, ho, hc, hd⟩ := hs.get u.mem
  have hv : vs[i]? = none := by
    rw [← Array.getElem?_toList]
    rw [← ev, List.getElem?_map, Option.map_eq_none_iff] at hx
    exact hx
  exact wpAny_pyNext_list_end hr.hd ⟨o, ho, hc, hd⟩ hl' hv fun h' hsb => ⟨N', hs.del (t := s.toks) u hsb, h⟩

variable {K : Type} [DecidableEq K] (D : DK C K) {d : Addr} {kvs : List (K × V)} {ep : Nat} {k : K}
theorem NXT.dictEnd {n : Nat} {it : Addr} {i : Nat} {Q : Option V → Led → Prop} (hr : Room n A) (hm : (d, D.cf kvs ep) ∈ N) (hx : kvs[i]? = none)
    (hu : Del it (.flds "dict_keyiterator" [.ref d, .int i 0, .int kvs.length 0, .int ep 0]) N N') (h : Q none N') : NXT C A (.ref it) Q N := fun vx e R s hs => by
  cases er_ref e
  obtain ⟨kvs', hd, rfl⟩ := D.at_ hs hm
  have u := hu.app R
  obtain ⟨o, ho, hc, hdt⟩ := hs.get u.mem
  rw [List.length_map] at hdt
  rw [List.getElem?_map, Option.map_eq_none_iff] at hx
  exact wpAny_pyNext_dict_end hr.hd ⟨o, ho, hc, hdt⟩ hd hx fun h' hsb => ⟨N', hs.del (t := s.toks) u hsb, h⟩
theorem NXT.valuesEnd {n : Nat} {it : Addr} {i : Nat} {Q : Option V → Led → Prop} (hr : Room n A) (hm : (d, D.cf kvs ep) ∈ N) (hx : kvs[i]? = none)
    (hu : Del it (.flds "dict_valueiterator" [.ref d, .int i 0, .int kvs.length 0, .int ep 0]) N N') (h : Q none N') : NXT C A (.ref it) Q N := fun vx e R s hs => by
  cases er_ref e
  obtain ⟨kvs', hd, rfl⟩ := D.at_ hs hm
  have u := hu.app R
  obtain ⟨o, ho, hc, hdt⟩ := hs.get u.mem
  rw [List.length_map] at hdt
  rw [List.getElem?_map, Option.map_eq_none_iff] at hx
  exact wpAny_pyNext_values_end hr.hd ⟨o, ho, hc, hdt⟩ hd hx fun h' hsb => ⟨N', hs.del (t := s.toks) u hsb, h⟩
theorem NXT.itemsEnd {n : Nat} {it : Addr} {i : Nat} {Q : Option V → Led → Prop} (hr : Room n A) (hm : (d, D.cf kvs ep) ∈ N) (hx : kvs[i]? = none)
    (hu : Del it (.itemIt d i kvs.length ep) N N') (h : Q none N') : NXT C A (.ref it) Q N := fun vx e R s hs => by
  cases er_ref e
  obtain ⟨kvs', hd, rfl⟩ := D.at_ hs hm
  have u := hu.app R
  obtain ⟨o, ho, ok, ov, rfl⟩ := hs.get u.mem
  rw [List.length_map] at ho
  rw [List.getElem?_map, Option.map_eq_none_iff] at hx
  exact wpAny_pyNext_items_end hr.hd ho hd hx fun h' hsb => ⟨N', hs.del (t := s.toks) u hsb, h⟩

/-- an assignment of a tuple's items to names -/
noncomputable def ASN (C : Cx) (A : Around) (env : Env) (target : Expr) (v : V) (Q : Led → Prop) (N : Led) : Prop := ∀ vv, er vv = v → W C A (assign target env vv) (fun _ N' => Q N') N
theorem ASN.name {n : Str} {p : Pos} {v : V} {Q : Led → Prop} (h : STO C A env n v Q N) : ASN C A env (.Name n p) v Q N := fun vv e R s hs => wpAny_assign_Name (h vv e R s hs)
theorem ASN.tup2 {n : Nat} {t1 t2 : Expr} {x1} {p : Pos} {Q : Led → Prop} (hr : Room n A) (ht : TupAt C N a [x, y]) (h : ASN C A env t1 x (fun N1 => ASN C A env t2 y Q N1) N)
    (he : assignEach [t1, t2] env = [(false, assign t1 env), (false, assign t2 env)] := by rfl) : ASN C A env (.Tuple [t1, t2] x1 p) (.ref a) Q N := fun vv e R s hs => by
  cases er_ref e
  obtain ⟨vs, k, ho, ev⟩ := ht R s hs
  obtain ⟨v, w, ew, e1, e2⟩ := cl2 ev
  refine wpAny_assign_Tuple hr.hd ⟨_, ho, rfl, k, rfl⟩ (by rw [he, ← Array.length_toList, ew]; rfl) (by rw [he]; rfl) fun h' hx => ?_
  have hs' : Rp C (N ++ R) { s with heap := h' } := hs.keep (t := s.toks) fun b o q => hx b o (Nat.ne_of_lt (Heap.lt_size q)) q
  rw [he, ew]
  exact assignInOrder_cons (wm (h v e1 R _ hs') fun _ s1 ⟨N1, hs1, k1⟩ => assignInOrder_cons (wm (k1 w e2 R _ hs1) fun _ _ k2 => assignInOrder_nil k2))
theorem ASN.tup3 {n : Nat} {t1 t2 t3 : Expr} {x1} {p : Pos} {z : V} {Q : Led → Prop} (hr : Room n A) (ht : TupAt C N a [x, y, z]) (h : ASN C A env t1 x (fun N1 => ASN C A env t2 y (fun N2 => ASN C A env t3 z Q N2) N1) N)
    (he : assignEach [t1, t2, t3] env = [(false, assign t1 env), (false, assign t2 env), (false, assign t3 env)] := by rfl) : ASN C A env (.Tuple [t1, t2, t3] x1 p) (.ref a) Q N := fun vv e R s hs => by
  cases er_ref e
  obtain ⟨vs, k, ho, ev⟩ := ht R s hs
  obtain ⟨v, w, u, ew, e1, e2, e3⟩ := cl3 ev
  refine wpAny_assign_Tuple hr.hd ⟨_, ho, rfl, k, rfl⟩ (by rw [he, ← Array.length_toList, ew]; rfl) (by rw [he]; rfl) fun h' hx => ?_
  have hs' : Rp C (N ++ R) { s with heap := h' } := hs.keep (t := s.toks) fun b o q => hx b o (Nat.ne_of_lt (Heap.lt_size q)) q
  rw [he, ew]
  exact assignInOrder_cons (wm (h v e1 R _ hs') fun _ s1 ⟨N1, hs1, k1⟩ => assignInOrder_cons (wm (k1 w e2 R _ hs1) fun _ _ ⟨N2, hs2, k2⟩ => assignInOrder_cons (wm (k2 u e3 R _ hs2) fun _ _ k3 => assignInOrder_nil k3)))
theorem SX.assignTup {elts : List Expr} {x1} {p : Pos} {value : Expr} {pos : Pos} {Q : Fl → Led → Prop} (h : EV C A env value (fun v N1 => ASN C A env (.Tuple elts x1 p) v (fun N2 => Q .next N2) N1) N)
    (hs : swapsWithSole [.Tuple elts x1 p] value pos.line env = pure false := by rfl) (hw : swappedStores [.Tuple elts x1 p] value env = pure none := by rfl) :
    SX C A env (.Assign [.Tuple elts x1 p] value pos) Q N := fun R s h0 => by
  refine wpAny_Assign_stores (wm (h R s h0) fun v s1 ⟨N1, hs1, k⟩ => ?_) hs hw
  exact k v rfl R _ hs1

theorem Rp.updNew {s : Shared} (h : Rp C N s) {c c' c2 : Cell} {b : Addr} (u : Upd a c c' N N') {h' : Heap} {t : Nat} (hs : Heap.ExtBut a s.heap h')
    (hc : ∃ o, h'.get? a = some o ∧ c'.Is C.w C.prog o) (hb : s.heap.objs.size ≤ b) (hc2 : ∃ o, h'.get? b = some o ∧ c2.Is C.w C.prog o) (hS : ∀ H, c'.Sup H := by intro _; trivial) (hS2 : ∀ H, c2.Sup H := by intro _; trivial) : Rp C ((b, c2) :: N') { s with heap := h', toks := t } := by
  have hsz := h.size
  obtain ⟨l1, l2, l3⟩ := low3 h.low
  obtain ⟨H, x⟩ := h
  have uH := u.app H
  have ha := (x.at_ (a, c) uH.mem).1
  have ne : ∀ b : Addr, b < C.h₀.objs.size → b ≠ a := fun b hb e => absurd (Nat.lt_of_lt_of_le (e ▸ hb) ha) (Nat.lt_irrefl _)
  refine ⟨H, x.low, OldK.ext x.old ha hs, x.lim.extBut hs (ne _ l3), x.g.extBut hs (ne _ l1), x.b.extBut hs (ne _ l2), ?_, ?_, fun p hp => ?_, ?_, x.os, x.gens⟩
  · rw [List.cons_append, List.map_cons, List.nodup_cons, uH.keys]
    refine ⟨fun hm => ?_, x.nd⟩
    obtain ⟨p, hp, e⟩ := List.mem_map.mp hm
    obtain ⟨o, ho, _⟩ := (x.at_ p hp).2
    exact absurd (Nat.lt_of_lt_of_le (Heap.lt_size ho) (e ▸ hb)) (Nat.lt_irrefl _)
  · intro p hp
    rcases List.mem_cons.mp hp with rfl | hp
    · exact ⟨Nat.le_trans hsz hb, hc2⟩
    · rcases uH.inv x.nd p hp with rfl | ⟨hp, hne⟩
      · exact ⟨ha, hc⟩
      · obtain ⟨z, o, ho, hi⟩ := x.at_ p hp
        exact ⟨z, o, hs _ _ hne ho, hi⟩
  · rcases List.mem_cons.mp hp with rfl | hp
    · exact hS2 H
    · rcases uH.inv x.nd p hp with rfl | ⟨hp, _⟩
      · exact hS H
      · exact x.sup p hp
  · intro t ht
    obtain ⟨z1, z2, _⟩ := x.low.tc t ht
    obtain ⟨ps, y1, y2, y3⟩ := x.tb t ht
    exact ⟨ps, y1.extBut hs (ne _ z1) (ne _ z2), y2.extBut hs (ne _ z1) (ne _ z2), y3⟩

noncomputable def itOut (d : Addr) (i n ep : Nat) (ok ov : Value) (a : Addr) : Obj := { cls := .type "dict_itemiterator", dict := none, data := .fields #[rawInt a, .bool false, .ref d, .int i 0, .int n 0, .int ep 0, ok, ov], slots := #[] }
theorem NXT.items {n : Nat} {it : Addr} {i : Nat} {N' : Value → Value → Addr → Led} {Q : Option V → Led → Prop} (hm : (d, D.cf kvs ep) ∈ N) (hx : kvs[i]? = some (k, x))
    (hu : ∀ key v t, Upd it (.itemIt d i kvs.length ep) (.raw (itOut d (i + 1) kvs.length ep key v t)) N (N' key v t))
    (h : ∀ key v t, Q (some (.ref t)) ((t, .tup [D.kv k, x]) :: N' key v t)) : NXT C A (.ref it) Q N := fun vx e R s hs => by
  cases er_ref e
  obtain ⟨kvs', hd, rfl⟩ := D.at_ hs hm
  have u := (hu .none .none it).app R
  obtain ⟨o, ho, ok, ov, rfl⟩ := hs.get u.mem
  rw [List.length_map] at ho hu
  rw [List.getElem?_map] at hx
  cases q : kvs'[i]? with
  | none => rw [q] at hx; cases hx
  | some p =>
    obtain ⟨k', v'⟩ := p
    rw [q] at hx
    cases hx
    refine wpAny_pyNext_items_item ho hd q fun key h' hkey hout htup _ hk => ⟨_, hs.updNew (t := s.toks) ((hu key v' s.heap.objs.size).app R) (fun b o ne e => hk b o ne e) ⟨_, hout, rfl⟩ (Nat.le_refl _) (c2 := .tup [D.kv k', er v']) ⟨_, htup, _, _, rfl, ?_⟩, h key v' _⟩
    simp only [List.map_cons, List.map_nil]
    rw [D.yek _ _ hkey]
theorem BND.items {n : Nat} {it t : Addr} {i : Nat} {m ep : Nat} {t1 t2 : Expr} {x1} {p : Pos} {key v : Value} {y : V} {N' : Led} {Q : Led → Prop} (hr : Room n A)
    (hu : Upd it (.raw (itOut d i m ep key v t)) (.itemIt d i m ep) N N') (ht : (t, .tup [y, x]) ∈ N')
    (h : ASN C A env t1 y (fun N1 => ASN C A env t2 x Q N1) N')
    (he : assignEach [t1, t2] env = [(false, assign t1 env), (false, assign t2 env)] := by rfl) : BND C A env (.Tuple [t1, t2] x1 p) (.ref it) (.ref t) Q N := fun vi vv e1 e2 R s hs => by
  cases er_ref e1; cases er_ref e2
  have u := hu.app R
  obtain ⟨o, ho, eo⟩ := hs.get u.mem
  subst eo
  refine wpAny_bind (wpAny_letOwnedTupleGo_items (d := d) (i := i) (n := m) (ep := ep) (ok := key) (ov := v) ho fun h' hit hsb => ?_)
  have hs' := hs.upd (t := s.toks) u hsb ⟨_, hit, key, v, rfl⟩
  exact ASN.tup2 hr (TupAt.mem ht) h he _ rfl R _ hs'
/-- a turn over a dict's items -/
theorem LOOP.items {it : Addr} {i : Nat} {t1 t2 : Expr} {pt : Pos} {x1} {body : List Stmt} {n : Nat} {Q : Fl → Led → Prop} (hr : Room n A) (hm : (d, D.cf kvs ep) ∈ N) (hx : kvs[i]? = some (k, x))
    (hu : Upd it (.itemIt d i kvs.length ep) (.itemIt d (i + 1) kvs.length ep) N N')
    (h : ASN C A env t1 (D.kv k) (fun N1 => ASN C A env t2 x (fun N2 => ST C A env body (fun f N3 => match f with
        | .next => LOOP C A env (.Tuple [t1, t2] x1 pt) body [] (.ref it) Q N3
        | .cont => LOOP C A env (.Tuple [t1, t2] x1 pt) body [] (.ref it) Q N3
        | .brk => Q .next N3
        | .ret v => Q (.ret v) N3) N2) N1) N')
    (he : assignEach [t1, t2] env = [(false, assign t1 env), (false, assign t2 env)] := by rfl) : LOOP C A env (.Tuple [t1, t2] x1 pt) body [] (.ref it) Q N := by
  obtain ⟨N1, h1, h2⟩ : ∃ N1 : Value → Value → Addr → Led, (∀ key v t, Upd it (.itemIt d i kvs.length ep) (.raw (itOut d (i + 1) kvs.length ep key v t)) N (N1 key v t)) ∧ ∀ key v t, Upd it (.raw (itOut d (i + 1) kvs.length ep key v t)) (.itemIt d (i + 1) kvs.length ep) (N1 key v t) N' := by
    clear h he hr hm hx
    generalize e1 : Cell.itemIt d i kvs.length ep = c1 at hu
    generalize e2 : Cell.itemIt d (i + 1) kvs.length ep = c2 at hu
    subst e1 e2
    induction hu with
    | head => exact ⟨fun key v t => _, fun key v t => .head, fun key v t => .head⟩
    | @tail p N N' u ih =>
      obtain ⟨N1, h1, h2⟩ := ih
      exact ⟨fun key v t => p :: N1 key v t, fun key v t => .tail (h1 key v t), fun key v t => .tail (h2 key v t)⟩
  refine LOOP.step (NXT.items D (n := n) hm hx h1 fun key v t => ?_)
  refine BND.items hr (.tail (h2 key v t)) (.head _) ?_ he
  exact fun vv e R s hs => (h vv e R s (hs.weak (List.sublist_cons_self ..)))
end

end
section
open PySem PySem.W PyProof.Rows

/-- the cells that a new frame lays -/
noncomputable def LAY : List (Str × NameKind) → List (Str × Addr) → (List (Str × Addr) → Led → Prop) → Led → Prop
  | [], cs, P, N => P cs N
  | (n, k) :: r, cs, P, N => if k == .cell then ∀ a, LAY r ((n, a) :: cs) P ((a, .cell none) :: N) else LAY r cs P N

/-- stores into a new frame -/
noncomputable def STOS (C : Cx) (A : Around) (env : Env) : List (Str × V) → (Led → Prop) → Led → Prop
  | [], Q, N => Q N
  | (n, v) :: r, Q, N => STO C A env n v (fun N1 => STOS C A env r Q N1) N

theorem lay_ {C : Cx} {A : Around} {R : Led} (f : Str × NameKind → List (Str × Addr) → Sem (ForInStep (List (Str × Addr))))
    (hf : ∀ name kind cells, f (name, kind) cells = if kind == .cell then (do let a ← alloc { cls := .type "cell", data := .cell none }; pure (.yield ((name, a) :: cells))) else pure (.yield cells)) :
    ∀ (names : List (Str × NameKind)) (acc : List (Str × Addr)) (N : Led) (s : Shared) (P : List (Str × Addr) → Led → Prop), Rp C (N ++ R) s → LAY names acc P N →
      wpAny (model C.prog C.w) A (forIn names acc f) (fun cs s' => ∃ N', Rp C (N' ++ R) s' ∧ P cs N') (fun _ _ => False) s
  | [], acc, N, s, P, hs, h => by rw [List.forIn_nil]; exact wpAny_pure ⟨N, hs, h⟩
  | (name, kind) :: r, acc, N, s, P, hs, h => by
    rw [List.forIn_cons, hf]
    unfold LAY at h
    split at h
    · rename_i hk
      rw [if_pos hk]
      refine wpAny_bind (wpAny_bind (wpAny_alloc (wpAny_pure ?_)))
      exact lay_ f hf r _ ((s.heap.objs.size, .cell none) :: N) _ P (hs.push (t := s.toks) (c := .cell none) rfl ⟨_, rfl, rfl⟩) (h _)
    · rename_i hk
      rw [if_neg hk]
      exact wpAny_bind (wpAny_pure (lay_ f hf r acc N s P hs h))

theorem stos_ {C : Cx} {A : Around} {env : Env} {R : Led} (f : Str × Value → PUnit → Sem (ForInStep PUnit)) (hf : ∀ n v u, f (n, v) u = (do storeName env n v; pure (.yield ⟨⟩))) :
    ∀ (binds : List (Str × Value)) (N : Led) (s : Shared) (Q : Led → Prop), Rp C (N ++ R) s → STOS C A env (binds.map fun p => (p.1, er p.2)) Q N →
      wpAny (model C.prog C.w) A (forIn binds ⟨⟩ f) (fun _ s' => ∃ N', Rp C (N' ++ R) s' ∧ Q N') (fun _ _ => False) s
  | [], N, s, Q, hs, h => by rw [List.forIn_nil]; exact wpAny_pure ⟨N, hs, h⟩
  | (n, v) :: r, N, s, Q, hs, h => by
    rw [List.forIn_cons, hf]
    exact wpAny_bind (wpAny_bind (wm (h v rfl R s hs) fun _ s1 ⟨N1, hs1, k⟩ => wpAny_pure (stos_ f hf r N1 s1 Q hs1 k)))

section
variable {C : Cx} {A : Around} {env : Env} {N N' : Led} {L : Addr} {nm : List (Str × NameKind)} {cs : List (Str × Addr)}

theorem ns_new {R : Led} {s : Shared} (hs : Rp C (N ++ R) s) (cls : String) : Rp C ((s.heap.objs.size, .ns []) :: N ++ R) { s with heap := s.heap.push { cls := .type cls, data := .dict #[] } } := by
  obtain ⟨o, es, ep, ho, hd, hk, hq⟩ := Heap.Ns.new s.heap (.type cls)
  refine hs.push (t := s.toks) (c := .ns []) rfl ?_
  refine ⟨#[], 0, rfl, fun _ h => by simp at h, fun name => rfl⟩

theorem NEWENV {scope : Scope} {globals : Addr} {closure : List (Str × Addr)} {binds : List (Str × Value)} {qual : Str} {func : Option Addr} {code : Value} {around : Option Env} {builtins : Addr} {Q : Env → Led → Prop}
    (hk : scope.kind = .function) (hg : globals = mainGlobals) (hb : (match around with | some o => o.builtins | none => builtins) = builtinsNs)
    (h : ∀ L, LAY scope.names closure (fun cs N1 => ∀ env, EnvOk env L scope.names cs → env.scope = scope → env.code = (match around with | some o => o.code | none => code) → env.qual = qual → STOS C A env (binds.map fun p => (p.1, er p.2)) (fun N2 => Q env N2) N1) ((L, .ns []) :: N)) :
    W C A (newFunctionEnv scope globals closure binds qual func code around builtins) Q N := fun R s hs => by
  cases around with
  | none =>
    simp only [newFunctionEnv, Option.isSome_none, Bool.false_eq_true, if_false]
    refine wpAny_bind (wpAny_alloc ?_)
    refine wpAny_bind (wm (lay_ _ (fun name kind cells => by cases hkc : kind == NameKind.cell <;> simp [hkc]) _ _ _ _ _ (ns_new hs _) (h s.heap.objs.size)) fun cs s1 ⟨N1, hs1, k⟩ => ?_)
    refine wpAny_bind (wm (stos_ _ (fun _ _ _ => rfl) _ _ _ _ hs1 (k { scope, locals := s.heap.objs.size, globals, cells := cs, qual, func, code, frame := some s.heap.objs.size, builtins } ⟨hk, rfl, rfl, hg, hb, rfl⟩ rfl rfl rfl)) fun _ s2 q => wpAny_pure q)
  | some o =>
    simp only [newFunctionEnv, Option.isSome_some, if_true]
    refine wpAny_bind (wpAny_alloc ?_)
    refine wpAny_bind (wm (lay_ _ (fun name kind cells => by cases hkc : kind == NameKind.cell <;> simp [hkc]) _ _ _ _ _ (ns_new hs _) (h s.heap.objs.size)) fun cs s1 ⟨N1, hs1, k⟩ => ?_)
    refine wpAny_bind (wm (stos_ _ (fun _ _ _ => rfl) _ _ _ _ hs1 (k { scope, locals := s.heap.objs.size, globals, cells := cs, qual, func, code := o.code, frame := o.frame, builtins := o.builtins } ⟨hk, rfl, rfl, hg, hb, rfl⟩ rfl rfl rfl)) fun _ s2 q => wpAny_pure q)

/-- the entry of a def that has cells or a closure -/
theorem FN.enterC {n : Nat} {f : Addr} {fd : FuncData} {body : List Stmt} {ps : List Str} {vs : List V} {nm : List (Str × NameKind)} {Q : V → Led → Prop} (hr : Room (n + 1) A)
    (hat : ∀ R s, Rp C (N ++ R) s → (∃ o, s.heap.get? f = some o ∧ o.data = .func fd) ∧ s.heap.CodeRec fd.code fd.qualname) (hnm : fd.scope.names = nm) (hbody : fd.body = .stmts body)
    (hb : ∀ vs' : List Value, vs'.map er = vs → bindArgs fd ⟨vs', []⟩ = pure (ps.zip vs'))
    (h : ∀ L, LAY nm fd.closure (fun cs N1 => ∀ env, EnvOk env L nm cs → env.code = fd.code → env.qual = fd.qualname ++ ".<locals>." → STOS C A.in1 env (ps.zip vs) (fun N2 => Room n (A.deeper env) → ST C (A.deeper env) env body (End Q) N2) N1) ((L, .ns []) :: N))
    (hg : fd.globals = mainGlobals := by rfl) (hbl : fd.builtins = builtinsNs := by rfl)
    (hco : fd.scope.isCoroutine = false := by rfl) (hgen : fd.scope.isGenerator = false := by rfl) (hk : fd.scope.kind = .function := by rfl) : FN C A f vs Q N := fun vs' e R s hs => by
  obtain ⟨⟨o, ho, hd⟩, hcd⟩ := hat R s hs
  subst hnm
  refine codeAny_call_function hr.depth ho hd hco hgen hbody hcd ?_
  rw [hb vs' e]
  refine wpAny_pure (wm (NEWENV (C := C) (A := A.in1) (around := none) (Q := fun env N2 => Room n (A.deeper env) → ST C (A.deeper env) env body (End Q) N2) hk hg hbl (fun L => ?_) R s hs) fun env s2 ⟨N2, hs2, k⟩ => ⟨hs2.lim, codeAny_func ?_⟩)
  · have := h L
    refine LAY_mono (fun cs N1 q env he _ hcd hq => ?_) _ _ _ this
    rw [zip_er, e]
    exact q env he hcd hq
  · exact wm (k (hr.deeper env) R _ hs2) fun fl s' ⟨N1, hs', N3, hsub, q⟩ => ⟨_, rfl, N3, hs'.weak (hsub.append_right R), by cases fl <;> exact q⟩
where LAY_mono {P P' : List (Str × Addr) → Led → Prop} (k : ∀ cs N, P cs N → P' cs N) : ∀ names acc N, LAY names acc P N → LAY names acc P' N
  | [], acc, N, h => k _ _ h
  | (n, kd) :: r, acc, N, h => by
    unfold LAY at h ⊢
    split
    · rename_i hh
      rw [if_pos hh] at h
      exact fun a => LAY_mono k r _ _ (h a)
    · rename_i hh
      rw [if_neg hh] at h
      exact LAY_mono k r _ _ h

noncomputable def relN (nm : List (Str × NameKind)) (names : List (Str × NameKind)) : List (Str × NameKind) := names.map fun (n, k) => if (k == .free && nm.lookup n == some .cell) then (n, .cell) else (n, k)
/-- the cells that a comprehension takes with it -/
noncomputable def clsN (cs : List (Str × Addr)) : List (Str × NameKind) → List (Str × Addr) → Option (List (Str × Addr))
  | [], acc => some acc
  | (n, k) :: r, acc => if k == .free then (match cs.lookup n with | some a => clsN cs r ((n, a) :: acc) | none => none) else clsN cs r acc
theorem closureFor_cls (he : EnvOk env L nm cs) {scope : Scope} {names : List (Str × NameKind)} (hn : scope.names = names) {cl : List (Str × Addr)} (h : clsN cs names [] = some cl) : closureFor scope env = pure cl := by
  unfold closureFor
  rw [hn]
  have key : ∀ (names : List (Str × NameKind)) (acc cl : List (Str × Addr)), clsN cs names acc = some cl →
      (forIn names acc (fun x r => if (x.2 == NameKind.free) = true then do let a ← cellOf env x.1; pure (ForInStep.yield ((x.1, a) :: r)) else pure (ForInStep.yield r)) : Sem _) = pure cl := by
    intro names
    induction names with
    | nil => intro acc cl h; cases h; rfl
    | cons p r ih =>
      intro acc cl h
      obtain ⟨n, k⟩ := p
      rw [List.forIn_cons]
      unfold clsN at h
      split at h
      · rename_i hk
        simp only [if_pos hk]
        cases q : cs.lookup n with
        | none => rw [q] at h; cases h
        | some a =>
          rw [q] at h
          have e : cellOf env n = pure a := by unfold cellOf; rw [he.cells, q]
          rw [e]
          exact ih _ _ h
      · rename_i hk
        simp only [if_neg hk]
        exact ih _ _ h
  have := key names [] cl h
  simp only [bind_pure] at *
  exact this

noncomputable def CLOOP (C : Cx) (A : Around) (env : Env) (e : Expr) (it acc : V) (Q : Led → Prop) (N : Led) : Prop := ∀ vi va, er vi = it → er va = acc → ∀ R s, Rp C (N ++ R) s →
  codeAny (model C.prog C.w) A (.compLoop e 0 vi va env) (fun r s' => ∃ f, r = .ok f ∧ ∃ N', Rp C (N' ++ R) s' ∧ Q N') s
noncomputable def CSTART (C : Cx) (A : Around) (env : Env) (e : Expr) (it acc : V) (Q : Led → Prop) (N : Led) : Prop := ∀ vi va, er vi = it → er va = acc → ∀ R s, Rp C (N ++ R) s →
  codeAny (model C.prog C.w) A (.compStart e 0 vi va env) (fun r s' => ∃ f, r = .ok f ∧ ∃ N', Rp C (N' ++ R) s' ∧ Q N') s
/-- an iterator of which iter gives itself -/
noncomputable def SELF (C : Cx) (A : Around) (it : V) (N : Led) : Prop := ∀ Q : V → Led → Prop, Q it N → ITR C A it Q N

theorem CSTART.list {elt target iter : Expr} {ifs : List Expr} {rest : List Comprehension} {scope : Scope} {pos : Pos} {it acc : V} {Q : Led → Prop} (hi : SELF C A it N)
    (h : CLOOP C A env (.ListComp elt (⟨target, iter, ifs, 0⟩ :: rest) scope pos) it acc Q N) : CSTART C A env (.ListComp elt (⟨target, iter, ifs, 0⟩ :: rest) scope pos) it acc Q N := fun vi va e1 e2 R s hs => by
  refine codeAny_compStart_list (h vi va e1 e2 R s hs) (wm (hi (fun v N' => v = it ∧ N' = N) ⟨rfl, rfl⟩ vi e1 R s hs) ?_)
  rintro it' s' ⟨N', hs', e, rfl⟩
  exact h it' va e e2 R _ hs'
theorem CSTART.dict {kx vx target iter : Expr} {ifs : List Expr} {rest : List Comprehension} {scope : Scope} {pos : Pos} {it acc : V} {Q : Led → Prop} (hi : SELF C A it N)
    (h : CLOOP C A env (.DictComp kx vx (⟨target, iter, ifs, 0⟩ :: rest) scope pos) it acc Q N) : CSTART C A env (.DictComp kx vx (⟨target, iter, ifs, 0⟩ :: rest) scope pos) it acc Q N := fun vi va e1 e2 R s hs => by
  refine codeAny_compStart_dict (h vi va e1 e2 R s hs) (wm (hi (fun v N' => v = it ∧ N' = N) ⟨rfl, rfl⟩ vi e1 R s hs) ?_)
  rintro it' s' ⟨N', hs', e, rfl⟩
  exact h it' va e e2 R _ hs'

theorem CLOOP.list1 {elt target iter : Expr} {scope : Scope} {pos : Pos} {it acc : V} {Q : Led → Prop}
    (h : NXT C A it (fun o N1 => match o with
      | none => Q N1
      | some v => BND C A env target it v (fun N2 => EV C A env elt (fun x N3 => CALL C A (.bi "list.append") [acc, x] (fun _ N4 => CLOOP C A env (.ListComp elt [⟨target, iter, [], 0⟩] scope pos) it acc Q N4) N3) N2) N1) N) :
    CLOOP C A env (.ListComp elt [⟨target, iter, [], 0⟩] scope pos) it acc Q N := fun vi va e1 e2 R s hs => by
  refine codeAny_of_tree ?_
  show wpAny _ A ((compTurn (.ListComp elt [⟨target, iter, [], 0⟩] scope pos) 0 vi va env).onRaise (fun x => do noteFrame x env; theTreesLotGoes x)) _ _ s
  refine wpAny_onRaise (wpAny_mono (Q := fun fin s' => match fin with | .done f => ∃ f', (Except.ok f : Result) = .ok f' ∧ ∃ N', Rp C (N' ++ R) s' ∧ Q N' | .again c' => c'.quiet = true ∧ codeAny (model C.prog C.w) A c' (fun r s' => ∃ f, r = .ok f ∧ ∃ N', Rp C (N' ++ R) s' ∧ Q N') s') (E := fun _ _ => False) ?_ (fun _ _ x => x) (fun _ _ x => x.elim))
  rw [compTurn_list1]
  refine wpAny_bind (wpAny_standAt (wpAny_bind (wm (h vi e1 R s hs) fun r s1 ⟨N1, hs1, k⟩ => ?_)))
  cases r with
  | none => exact wpAny_pure ⟨_, rfl, N1, hs1, k⟩
  | some v =>
    have k' := k vi v e1 rfl R s1 hs1
    dsimp only
    rw [← bind_assoc]
    refine wpAny_bind (wm k' fun _ s2 ⟨N2, hs2, k2⟩ => wpAny_bind (wpAny_bind (wm (k2 R _ hs2) fun x s3 ⟨N3, hs3, k3⟩ =>
      wpAny_bind (wm (k3 (.builtin "list.append") [va, x] rfl (by rw [← e2]; rfl) R _ hs3) fun _ s4 ⟨N4, hs4, k4⟩ => wpAny_pure (wpAny_pure ⟨rfl, k4 vi va e1 e2 R _ hs4⟩)))))
theorem CLOOP.listIf {elt target iter c : Expr} {scope : Scope} {pos : Pos} {it acc : V} {Q : Led → Prop}
    (h : NXT C A it (fun o N1 => match o with
      | none => Q N1
      | some v => BND C A env target it v (fun N2 => IST C A env c (fun b N3 => if b then EV C A env elt (fun x N4 => CALL C A (.bi "list.append") [acc, x] (fun _ N5 => CLOOP C A env (.ListComp elt [⟨target, iter, [c], 0⟩] scope pos) it acc Q N5) N4) N3
          else CLOOP C A env (.ListComp elt [⟨target, iter, [c], 0⟩] scope pos) it acc Q N3) N2) N1) N) :
    CLOOP C A env (.ListComp elt [⟨target, iter, [c], 0⟩] scope pos) it acc Q N := fun vi va e1 e2 R s hs => by
  refine codeAny_of_tree ?_
  show wpAny _ A ((compTurn (.ListComp elt [⟨target, iter, [c], 0⟩] scope pos) 0 vi va env).onRaise (fun x => do noteFrame x env; theTreesLotGoes x)) _ _ s
  refine wpAny_onRaise (wpAny_mono (Q := fun fin s' => match fin with | .done f => ∃ f', (Except.ok f : Result) = .ok f' ∧ ∃ N', Rp C (N' ++ R) s' ∧ Q N' | .again c' => c'.quiet = true ∧ codeAny (model C.prog C.w) A c' (fun r s' => ∃ f, r = .ok f ∧ ∃ N', Rp C (N' ++ R) s' ∧ Q N') s') (E := fun _ _ => False) ?_ (fun _ _ x => x) (fun _ _ x => x.elim))
  rw [compTurn_list]
  refine wpAny_bind (wpAny_standAt (wpAny_bind (wm (h vi e1 R s hs) fun r s1 ⟨N1, hs1, k⟩ => ?_)))
  cases r with
  | none => exact wpAny_pure ⟨_, rfl, N1, hs1, k⟩
  | some v =>
    have k' := k vi v e1 rfl R s1 hs1
    dsimp only
    rw [← bind_assoc]
    refine wpAny_bind (wm k' fun _ s2 ⟨N2, hs2, k2⟩ => wpAny_bind (wpAny_tests_one (wm (k2 R _ hs2) fun b s3 ⟨N3, hs3, k3⟩ => ?_)))
    cases b with
    | false => exact wpAny_pure ⟨rfl, k3 vi va e1 e2 R _ hs3⟩
    | true => exact wpAny_bind (wpAny_bind (wm (k3 R _ hs3) fun x s4 ⟨N4, hs4, k4⟩ => wpAny_bind (wm (k4 (.builtin "list.append") [va, x] rfl (by rw [← e2]; rfl) R _ hs4) fun _ s5 ⟨N5, hs5, k5⟩ => wpAny_pure (wpAny_pure ⟨rfl, k5 vi va e1 e2 R _ hs5⟩))))
noncomputable def DSET (C : Cx) (A : Around) (d : Addr) (k x : V) (Q : Led → Prop) (N : Led) : Prop := ∀ vk vx, er vk = k → er vx = x → W C A (dictSet d vk vx) (fun _ N' => Q N') N
theorem CLOOP.dict1 {kx vx target iter : Expr} {scope : Scope} {pos : Pos} {it : V} {d : Addr} {Q : Led → Prop}
    (h : NXT C A it (fun o N1 => match o with
      | none => Q N1
      | some v => BND C A env target it v (fun N2 => EV C A env kx (fun x N3 => EV C A env vx (fun y N4 => DSET C A d x y (fun N5 => CLOOP C A env (.DictComp kx vx [⟨target, iter, [], 0⟩] scope pos) it (.ref d) Q N5) N4) N3) N2) N1) N) :
    CLOOP C A env (.DictComp kx vx [⟨target, iter, [], 0⟩] scope pos) it (.ref d) Q N := fun vi va e1 e2 R s hs => by
  cases er_ref e2
  refine codeAny_of_tree ?_
  show wpAny _ A ((compTurn (.DictComp kx vx [⟨target, iter, [], 0⟩] scope pos) 0 vi (.ref d) env).onRaise (fun x => do noteFrame x env; theTreesLotGoes x)) _ _ s
  refine wpAny_onRaise (wpAny_mono (Q := fun fin s' => match fin with | .done f => ∃ f', (Except.ok f : Result) = .ok f' ∧ ∃ N', Rp C (N' ++ R) s' ∧ Q N' | .again c' => c'.quiet = true ∧ codeAny (model C.prog C.w) A c' (fun r s' => ∃ f, r = .ok f ∧ ∃ N', Rp C (N' ++ R) s' ∧ Q N') s') (E := fun _ _ => False) ?_ (fun _ _ x => x) (fun _ _ x => x.elim))
  rw [compTurn_dict]
  refine wpAny_bind (wpAny_standAt (wpAny_bind (wm (h vi e1 R s hs) fun r s1 ⟨N1, hs1, k⟩ => ?_)))
  cases r with
  | none => exact wpAny_pure ⟨_, rfl, N1, hs1, k⟩
  | some v =>
    have k' := k vi v e1 rfl R s1 hs1
    dsimp only
    rw [← bind_assoc]
    refine wpAny_bind (wm k' fun _ s2 ⟨N2, hs2, k2⟩ => wpAny_bind (wpAny_tests_nil ?_))
    refine wpAny_bind (wpAny_bind (wm (k2 R _ hs2) fun x s3 ⟨N3, hs3, k3⟩ => wpAny_bind (wpAny_holding (wm (k3 R _ hs3) fun y s4 ⟨N4, hs4, k4⟩ => wpAny_bind (wpAny_standAt (wpAny_holding (wm (k4 x y rfl rfl R _ hs4) fun _ s5 ⟨N5, hs5, k5⟩ => wpAny_pure ⟨rfl, k5 vi (.ref d) e1 rfl R _ hs5⟩)))))))
theorem DSET.mk {K : Type} [DecidableEq K] (D : DK C K) {d : Addr} {kvs : List (K × V)} {ep : Nat} {k : K} {x : V} {N' : Nat → Led} {Q : Led → Prop} (hm : ∀ ep', Upd d (D.cf kvs ep) (D.cf (putK kvs k x) ep') N (N' ep')) (hz : kvs.length ≤ sizeLine) (h : ∀ ep', Q (N' ep')) : DSET C A d (D.kv k) x Q N := fun vi vy e2 e3 R s hs => by
  obtain ⟨kvs', hd, rfl⟩ := D.at_ hs (hm 0).mem
  refine wpAny_dictSet_pairs (D.key k vi e2) hd.dictOf (fun h' hd' hsb => ?_) (by rw [List.length_map] at hz; exact hz)
  obtain ⟨ep', o, ho, hi⟩ := D.of_ hd'
  rw [stored_er, e3] at hi
  exact ⟨N' ep', hs.upd ((hm ep').app R) hsb ⟨o, ho, hi⟩ (D.sup _ _), h ep'⟩

/-- the end of a comprehension: its frame goes -/
noncomputable def CEND (L : Addr) (Q : Led → Prop) (N : Led) : Prop := ∃ m N', Del L (.ns m) N N' ∧ Q N'

theorem cend {R : Led} {s : Shared} {L : Addr} {Q : Led → Prop} {N : Led} (hs : Rp C (N ++ R) s) (h : CEND L Q N) : ∃ m, s.heap.Ns L m ∧ ∀ h', Heap.SameBut L s.heap h' → ∃ N', Rp C (N' ++ R) { s with heap := h' } ∧ Q N' := by
  obtain ⟨m, N', u, q⟩ := h
  obtain ⟨o, ho, hc⟩ := hs.get (u.app R).mem
  obtain ⟨f, hn, hf⟩ := ns_of ho hc
  exact ⟨f, hn, fun h' hsb => ⟨N', hs.del (t := s.toks) (u.app R) hsb.extBut, q⟩⟩

theorem comp_ {e : Expr} {scope : Scope} {pos : Pos} {newAcc first : Sem Value} {g : Comprehension} {gs : List Comprehension} {names : List (Str × NameKind)} {cl : List (Str × Addr)} {Q : V → Led → Prop}
    (he : EnvOk env L nm cs) (hn : scope.names = names) (hcl : clausesOf e = g :: gs) (hs : ∀ x, foldedSetIterable g.iter env x = pure x) (hclos : clsN cs names [] = some cl)
    (hkind : scope.kind = .function) (hnames : ∀ x ∈ names, x.2 = .local → names.lookup x.1 = some .local)
    (h : W C A first (fun x N1 => ITR C A (er x) (fun it N2 => W C A newAcc (fun acc N3 => ∀ L', LAY names cl (fun cs' N4 => ∀ cenv, EnvOk cenv L' (relN nm names) cs' →
      CSTART C A cenv e it (er acc) (CEND L' (Q (er acc))) N4) ((L', .ns []) :: N3)) N2) N1) N) :
    W C A (comprehension e scope env pos newAcc false first) (fun v N' => Q (er v) N') N := fun R s h0 => by
  subst hn
  refine wpAny_comprehension_free hcl hs (closureFor_cls he rfl hclos) hkind hnames (wm (h R s h0) fun x s1 ⟨N1, hs1, k1⟩ => wm (k1 x rfl R _ hs1) fun it s2 ⟨N2, hs2, k2⟩ => wm (k2 R _ hs2) fun acc s3 ⟨N3, hs3, k3⟩ => ?_)
  refine wm ((NEWENV (C := C) (A := A) (binds := []) (around := some env) (Q := fun cenv N4 => ∃ cs', EnvOk cenv cenv.locals scope.names cs' ∧ cenv.scope = scope ∧ ∀ cenv', EnvOk cenv' cenv.locals (relN nm scope.names) cs' → CSTART C A cenv' e (er it) (er acc) (CEND cenv.locals (Q (er acc))) N4) hkind he.glob he.blt fun L' => ?_) R _ hs3) fun cenv s4 ⟨N4, hs4, cs', ok, hsc, k4⟩ => ?_
  · refine LAY_mono (fun cs' N4 q env' ok hsc _ _ => ?_) _ _ _ (k3 L')
    have el := ok.loc
    exact ⟨cs', by rw [el]; exact ok, hsc, fun cenv' ok' => by rw [el] at ok' ⊢; exact q cenv' ok'⟩
  · have hnm : (relabel scope env).names = relN nm scope.names := by
      show List.map _ _ = List.map _ _
      congr 1
      funext ⟨n, k⟩
      have e1 : (env.scope.kind == ScopeKind.function) = true := by rw [he.kind]; rfl
      have e2 : env.kindOf n = nm.lookup n := by unfold Env.kindOf; rw [he.names]
      show (if (k == NameKind.free && env.scope.kind == ScopeKind.function && env.kindOf n == some NameKind.cell) = true then (n, NameKind.cell) else (n, k)) = if (k == NameKind.free && List.lookup n nm == some NameKind.cell) = true then (n, NameKind.cell) else (n, k)
      rw [e1, e2, Bool.and_true]
    have ok2 : EnvOk { cenv with scope := relabel scope env } cenv.locals (relN nm scope.names) cs' := ⟨hkind, hnm, rfl, ok.glob, ok.blt, ok.cells⟩
    refine codeAny_mono (k4 _ ok2 it acc rfl rfl R _ hs4) ?_
    rintro r s5 ⟨f, rfl, N5, hs5, k5⟩
    exact cend hs5 k5
where LAY_mono {P P' : List (Str × Addr) → Led → Prop} (k : ∀ cs N, P cs N → P' cs N) : ∀ names acc N, LAY names acc P N → LAY names acc P' N
  | [], acc, N, h => k _ _ h
  | (n, kd) :: r, acc, N, h => by
    unfold LAY at h ⊢
    split
    · rename_i hh
      rw [if_pos hh] at h
      exact fun a => LAY_mono k r _ _ (h a)
    · rename_i hh
      rw [if_neg hh] at h
      exact LAY_mono k r _ _ h

theorem compUse_ {e : Expr} {scope : Scope} {pos : Pos} {newAcc first : Sem Value} {g : Comprehension} {gs : List Comprehension} {names : List (Str × NameKind)} {cl : List (Str × Addr)} {use : Value → Sem Unit} {Q : Led → Prop}
    (he : EnvOk env L nm cs) (hn : scope.names = names) (hcl : clausesOf e = g :: gs) (hs : ∀ x, foldedSetIterable g.iter env x = pure x) (hclos : clsN cs names [] = some cl)
    (hkind : scope.kind = .function) (hnames : ∀ x ∈ names, x.2 = .local → names.lookup x.1 = some .local)
    (h : W C A first (fun x N1 => ITR C A (er x) (fun it N2 => W C A newAcc (fun acc N3 => ∀ L', LAY names cl (fun cs' N4 => ∀ cenv, EnvOk cenv L' (relN nm names) cs' →
      CSTART C A cenv e it (er acc) (fun N5 => W C A (use acc) (fun _ N6 => CEND L' Q N6) N5) N4) ((L', .ns []) :: N3)) N2) N1) N) :
    W C A (comprehension e scope env pos newAcc false first (some use)) (fun v N' => Q N') N := fun R s h0 => by
  subst hn
  refine wpAny_comprehension_free (use := some use) hcl hs (closureFor_cls he rfl hclos) hkind hnames (wm (h R s h0) fun x s1 ⟨N1, hs1, k1⟩ => wm (k1 x rfl R _ hs1) fun it s2 ⟨N2, hs2, k2⟩ => wm (k2 R _ hs2) fun acc s3 ⟨N3, hs3, k3⟩ => ?_)
  refine wm ((NEWENV (C := C) (A := A) (binds := []) (around := some env) (Q := fun cenv N4 => ∃ cs', EnvOk cenv cenv.locals scope.names cs' ∧ cenv.scope = scope ∧ ∀ cenv', EnvOk cenv' cenv.locals (relN nm scope.names) cs' → CSTART C A cenv' e (er it) (er acc) (fun N5 => W C A (use acc) (fun _ N6 => CEND cenv.locals Q N6) N5) N4) hkind he.glob he.blt fun L' => ?_) R _ hs3) fun cenv s4 ⟨N4, hs4, cs', ok, hsc, k4⟩ => ?_
  · refine comp_.LAY_mono (fun cs' N4 q env' ok hsc _ _ => ?_) _ _ _ (k3 L')
    have el := ok.loc
    exact ⟨cs', by rw [el]; exact ok, hsc, fun cenv' ok' => by rw [el] at ok' ⊢; exact q cenv' ok'⟩
  · have hnm : (relabel scope env).names = relN nm scope.names := by
      show List.map _ _ = List.map _ _
      congr 1
      funext ⟨n, k⟩
      have e1 : (env.scope.kind == ScopeKind.function) = true := by rw [he.kind]; rfl
      have e2 : env.kindOf n = nm.lookup n := by unfold Env.kindOf; rw [he.names]
      show (if (k == NameKind.free && env.scope.kind == ScopeKind.function && env.kindOf n == some NameKind.cell) = true then (n, NameKind.cell) else (n, k)) = if (k == NameKind.free && List.lookup n nm == some NameKind.cell) = true then (n, NameKind.cell) else (n, k)
      rw [e1, e2, Bool.and_true]
    have ok2 : EnvOk { cenv with scope := relabel scope env } cenv.locals (relN nm scope.names) cs' := ⟨hkind, hnm, rfl, ok.glob, ok.blt, ok.cells⟩
    refine codeAny_mono (k4 _ ok2 it acc rfl rfl R _ hs4) ?_
    rintro r s5 ⟨f, rfl, N5, hs5, k5⟩
    exact wm (k5 R _ hs5) fun _ s6 ⟨N6, hs6, k6⟩ => cend hs6 k6

theorem W.newList {Q : Value → Led → Prop} (h : ∀ l, Q (.ref l) ((l, .list []) :: N)) : W C A (newList []) Q N := fun R s hs =>
  wpAny_newList ⟨_, hs.push (c := .list []) (t := s.toks) rfl ⟨#[], 0, rfl, rfl⟩, h _⟩ (by simp)
theorem W.newDict {K : Type} [DecidableEq K] (D : DK C K) {Q : Value → Led → Prop} (h : ∀ d ep, Q (.ref d) ((d, D.cf [] ep) :: N)) : W C A newDict Q N := fun R s hs =>
  wpAny_newObj_type (T := "dict") ⟨_, hs.push (hS := D.sup _ _) (c := D.cf [] 0) (t := s.toks) rfl ((D.is _ _ _).mpr ⟨#[], [], ⟨rfl, rfl, rfl⟩, rfl, fun _ h => by simp at h, .nil, .nil, rfl⟩), h _ _⟩ (by size_fits)

theorem EV.listcomp {elt target iter : Expr} {ifs : List Expr} {scope : Scope} {pos : Pos} {names : List (Str × NameKind)} {cl : List (Str × Addr)} {Q : V → Led → Prop}
    (he : EnvOk env L nm cs) (hn : scope.names = names) (hclos : clsN cs names [] = some cl)
    (h : EV C A env iter (fun x N1 => ITR C A x (fun it N2 => ∀ l L', LAY names cl (fun cs' N4 => ∀ cenv, EnvOk cenv L' (relN nm names) cs' → SELF C A it N4 ∧
      CLOOP C A cenv (.ListComp elt [⟨target, iter, ifs, 0⟩] scope pos) it (.ref l) (CEND L' (Q (.ref l))) N4) ((L', .ns []) :: (l, .list []) :: N2)) N1) N)
    (hnames : ∀ x ∈ names, x.2 = .local → names.lookup x.1 = some .local := by decide) (hkind : scope.kind = .function := by rfl)
    (hs : ∀ x, foldedSetIterable iter env x = pure x := by intro _; rfl) : EV C A env (.ListComp elt [⟨target, iter, ifs, 0⟩] scope pos) Q N := fun R s h0 => by
  show wpAny _ _ (eval _ env) _ _ _
  rw [eval_ListComp]
  refine comp_ he hn rfl hs hclos hkind hnames ?_ R s h0
  refine W.mono h fun x N1 k => fun vx ex => W.mono (k vx ex) fun it N2 k2 => W.newList fun l L' => comp_.LAY_mono (fun cs' N4 k4 cenv ok => ?_) _ _ _ (k2 l L')
  obtain ⟨k5, k6⟩ := k4 cenv ok
  exact CSTART.list k5 k6
theorem EV.dictcomp {K : Type} [DecidableEq K] (D : DK C K) {kx vx target iter : Expr} {ifs : List Expr} {scope : Scope} {pos : Pos} {names : List (Str × NameKind)} {cl : List (Str × Addr)} {Q : V → Led → Prop}
    (he : EnvOk env L nm cs) (hn : scope.names = names) (hclos : clsN cs names [] = some cl)
    (h : EV C A env iter (fun x N1 => ITR C A x (fun it N2 => ∀ d ep L', LAY names cl (fun cs' N4 => ∀ cenv, EnvOk cenv L' (relN nm names) cs' → SELF C A it N4 ∧
      CLOOP C A cenv (.DictComp kx vx [⟨target, iter, ifs, 0⟩] scope pos) it (.ref d) (CEND L' (Q (.ref d))) N4) ((L', .ns []) :: (d, D.cf [] ep) :: N2)) N1) N)
    (hnames : ∀ x ∈ names, x.2 = .local → names.lookup x.1 = some .local := by decide) (hkind : scope.kind = .function := by rfl)
    (hs : ∀ x, foldedSetIterable iter env x = pure x := by intro _; rfl) : EV C A env (.DictComp kx vx [⟨target, iter, ifs, 0⟩] scope pos) Q N := fun R s h0 => by
  show wpAny _ _ (comprehension (.DictComp kx vx [⟨target, iter, ifs, 0⟩] scope pos) scope env (firstIterPos [⟨target, iter, ifs, 0⟩] pos) newDict false (eval iter env)) _ _ _
  refine comp_ he hn rfl hs hclos hkind hnames ?_ R s h0
  refine W.mono h fun x N1 k => fun vx ex => W.mono (k vx ex) fun it N2 k2 => W.newDict D fun d ep L' => comp_.LAY_mono (fun cs' N4 k4 cenv ok => ?_) _ _ _ (k2 d ep L')
  obtain ⟨k5, k6⟩ := k4 cenv ok
  exact CSTART.dict k5 k6
theorem SX.assignList {y : Str} {py : Pos} {elt target iter : Expr} {ifs : List Expr} {scope : Scope} {pos spos : Pos} {names : List (Str × NameKind)} {cl : List (Str × Addr)} {Q : Fl → Led → Prop}
    (he : EnvOk env L nm cs) (hn : scope.names = names) (hclos : clsN cs names [] = some cl)
    (h : EV C A env iter (fun x N1 => ITR C A x (fun it N2 => ∀ l L', LAY names cl (fun cs' N4 => ∀ cenv, EnvOk cenv L' (relN nm names) cs' → SELF C A it N4 ∧
      CLOOP C A cenv (.ListComp elt [⟨target, iter, ifs, 0⟩] scope pos) it (.ref l) (fun N5 => STO C A env y (.ref l) (fun N6 => CEND L' (Q .next) N6) N5) N4) ((L', .ns []) :: (l, .list []) :: N2)) N1) N)
    (hsw : swapsWith (.ListComp elt [⟨target, iter, ifs, 0⟩] scope pos) (some (.Name y py)) spos.line env = pure true)
    (hnames : ∀ x ∈ names, x.2 = .local → names.lookup x.1 = some .local := by decide) (hkind : scope.kind = .function := by rfl)
    (hs : ∀ x, foldedSetIterable iter env x = pure x := by intro _; rfl) : SX C A env (.Assign [.Name y py] (.ListComp elt [⟨target, iter, ifs, 0⟩] scope pos) spos) Q N := fun R s h0 => by
  show wpAny _ _ (exec _ env) _ _ _
  rw [exec_Assign_Name_used _ _ _ _ hsw]
  refine wpAny_bind (wpAny_standAt (wpAny_bind ?_))
  show wpAny _ A (do let _ ← comprehension (.ListComp elt [⟨target, iter, ifs, 0⟩] scope pos) scope env _ (PySem.newList []) false (eval iter env) (some (PySem.assign (.Name y py) env))) _ _ s
  refine wpAny_bind (wm (compUse_ (Q := Q .next) he hn rfl hs hclos hkind hnames ?_ R s h0) fun _ s' q => wpAny_pure (wpAny_pure q))
  refine W.mono h fun x N1 k => fun vx ex => W.mono (k vx ex) fun it N2 k2 => W.newList fun l L' => comp_.LAY_mono (fun cs' N4 k4 cenv ok => ?_) _ _ _ (k2 l L')
  obtain ⟨k5, k6⟩ := k4 cenv ok
  refine CSTART.list k5 ?_
  exact fun vi va e1 e2 R s hs => codeAny_mono (k6 vi va e1 e2 R s hs) fun r s' ⟨f, e, N', hs', q⟩ => ⟨f, e, N', hs', fun R s hs => wpAny_assign_Name (q _ rfl R s hs)⟩
theorem SX.assignDict {K : Type} [DecidableEq K] (D : DK C K) {y : Str} {py : Pos} {kx vx target iter : Expr} {ifs : List Expr} {scope : Scope} {pos spos : Pos} {names : List (Str × NameKind)} {cl : List (Str × Addr)} {Q : Fl → Led → Prop}
    (he : EnvOk env L nm cs) (hn : scope.names = names) (hclos : clsN cs names [] = some cl)
    (h : EV C A env iter (fun x N1 => ITR C A x (fun it N2 => ∀ l ep L', LAY names cl (fun cs' N4 => ∀ cenv, EnvOk cenv L' (relN nm names) cs' → SELF C A it N4 ∧
      CLOOP C A cenv (.DictComp kx vx [⟨target, iter, ifs, 0⟩] scope pos) it (.ref l) (fun N5 => STO C A env y (.ref l) (fun N6 => CEND L' (Q .next) N6) N5) N4) ((L', .ns []) :: (l, D.cf [] ep) :: N2)) N1) N)
    (hsw : swapsWith (.DictComp kx vx [⟨target, iter, ifs, 0⟩] scope pos) (some (.Name y py)) spos.line env = pure true)
    (hnames : ∀ x ∈ names, x.2 = .local → names.lookup x.1 = some .local := by decide) (hkind : scope.kind = .function := by rfl)
    (hs : ∀ x, foldedSetIterable iter env x = pure x := by intro _; rfl) : SX C A env (.Assign [.Name y py] (.DictComp kx vx [⟨target, iter, ifs, 0⟩] scope pos) spos) Q N := fun R s h0 => by
  show wpAny _ _ (exec _ env) _ _ _
  rw [exec_Assign_Name_used _ _ _ _ hsw]
  refine wpAny_bind (wpAny_standAt (wpAny_bind ?_))
  show wpAny _ A (do let _ ← comprehension (.DictComp kx vx [⟨target, iter, ifs, 0⟩] scope pos) scope env _ PySem.newDict false (eval iter env) (some (PySem.assign (.Name y py) env))) _ _ s
  refine wpAny_bind (wm (compUse_ (Q := Q .next) he hn rfl hs hclos hkind hnames ?_ R s h0) fun _ s' q => wpAny_pure (wpAny_pure q))
  refine W.mono h fun x N1 k => fun vx ex => W.mono (k vx ex) fun it N2 k2 => W.newDict D fun l ep L' => comp_.LAY_mono (fun cs' N4 k4 cenv ok => ?_) _ _ _ (k2 l ep L')
  obtain ⟨k5, k6⟩ := k4 cenv ok
  refine CSTART.dict k5 ?_
  exact fun vi va e1 e2 R s hs => codeAny_mono (k6 vi va e1 e2 R s hs) fun r s' ⟨f, e, N', hs', q⟩ => ⟨f, e, N', hs', fun R s hs => wpAny_assign_Name (q _ rfl R s hs)⟩
end

end
section
open PySem PySem.W PyProof.Rows
section
variable {C : Cx} {A : Around} {env : Env} {N N' : Led} {L : Addr} {nm : List (Str × NameKind)} {cs : List (Str × Addr)} {a b l : Addr} {xs ys : List V} {x y : Str} {i j : Int} {Q : V → Led → Prop}

-- dict displays
theorem EV.dict1 {K : Type} [DecidableEq K] (D : DK C K) {k v : Expr} {pos : Pos}
    (h : ∀ d, EV C A env k (fun kx N1 => EV C A env v (fun vx N2 => ∃ (k : K) (N' : Nat → Led), kx = D.kv k ∧ (∀ ep, Upd d (D.cf [] 0) (D.cf [(k, vx)] ep) N2 (N' ep)) ∧ ∀ ep, Q (.ref d) (N' ep)) N1) ((d, D.cf [] 0) :: N))
    (hsh : (evalEachOpt [some k] env).zip ((evalEach [v] env).map fun v => do let x ← v; standAt pos; pure x) = [(some (eval k env), do let x ← eval v env; standAt pos; pure x)] := by rfl) : EV C A env (.Dict [some k] [v] pos) Q N := fun R s hs => by
  refine wpAny_Dict_pairs (knd := D.knd) (pairs := [(eval k env, do let x ← eval v env; standAt pos; pure x)]) hsh (by simp) (by simp) ?_
  have hs1 := hs.push (o := { cls := .type "dict", data := .dict #[] }) (hS := D.sup _ _) (c := D.cf [] 0) (t := s.toks) rfl ((D.is _ _ _).mpr ⟨#[], [], ⟨rfl, rfl, rfl⟩, rfl, fun _ h => by simp at h, .nil, .nil, rfl⟩)
  refine evalPairs_cons (wm (h s.heap.objs.size R _ hs1) fun kv s2 ⟨N1, hs2, k1⟩ => wpAny_bind (wm (k1 R _ hs2) fun vv s3 ⟨N2, hs3, k, N', e, hu, q⟩ => wpAny_bind (wpAny_standAt (wpAny_pure (evalPairs_nil ?_)))))
  obtain ⟨kvs', hd, e0⟩ := D.at_ hs3 (hu 0).mem
  obtain rfl : kvs' = [] := by cases kvs' with | nil => rfl | cons _ _ => cases e0
  refine ⟨[(k, vv)], ⟨D.key k kv e, rfl, trivial⟩, hd.dictOf, fun h' hd' hsb => ?_⟩
  obtain ⟨ep', o, ho, hi⟩ := D.of_ hd'
  exact ⟨N' ep', hs3.upd ((hu ep').app R) hsb ⟨o, ho, hi⟩ (D.sup _ _), q ep'⟩
theorem EV.dict2 {K : Type} [DecidableEq K] (D : DK C K) {k v k2 v2 : Expr} {pos : Pos}
    (h : ∀ d, EV C A env k (fun kx N1 => EV C A env v (fun vx N2 => EV C A env k2 (fun kx2 N3 => EV C A env v2 (fun vx2 N4 => ∃ (k k2 : K) (N' : Nat → Led), kx = D.kv k ∧ kx2 = D.kv k2 ∧
      (∀ ep, Upd d (D.cf [] 0) (D.cf (putK [(k, vx)] k2 vx2) ep) N4 (N' ep)) ∧ ∀ ep, Q (.ref d) (N' ep)) N3) N2) N1) ((d, D.cf [] 0) :: N))
    (hsh : (evalEachOpt [some k, some k2] env).zip ((evalEach [v, v2] env).map fun v => do let x ← v; standAt pos; pure x) = [(some (eval k env), do let x ← eval v env; standAt pos; pure x), (some (eval k2 env), do let x ← eval v2 env; standAt pos; pure x)] := by rfl) :
    EV C A env (.Dict [some k, some k2] [v, v2] pos) Q N := fun R s hs => by
  refine wpAny_Dict_pairs (knd := D.knd) (pairs := [(eval k env, do let x ← eval v env; standAt pos; pure x), (eval k2 env, do let x ← eval v2 env; standAt pos; pure x)]) hsh (by simp) (by simp) ?_
  have hs1 := hs.push (o := { cls := .type "dict", data := .dict #[] }) (hS := D.sup _ _) (c := D.cf [] 0) (t := s.toks) rfl ((D.is _ _ _).mpr ⟨#[], [], ⟨rfl, rfl, rfl⟩, rfl, fun _ h => by simp at h, .nil, .nil, rfl⟩)
  refine evalPairs_cons (wm (h s.heap.objs.size R _ hs1) fun kv s2 ⟨N1, hs2, k1⟩ => wpAny_bind (wm (k1 R _ hs2) fun vv s3 ⟨N2, hs3, k2⟩ => wpAny_bind (wpAny_standAt (wpAny_pure ?_))))
  refine evalPairs_cons (wm (k2 R _ hs3) fun kv2 s4 ⟨N3, hs4, k3⟩ => wpAny_bind (wm (k3 R _ hs4) fun vv2 s5 hx => wpAny_bind (wpAny_standAt (wpAny_pure (evalPairs_nil ?_)))))
  refine hide fun G hG => ?_
  obtain ⟨N4, hs5, k, k2, N', e, e2, hu, q⟩ := hx
  refine hG ?_
  clear hG
  obtain ⟨kvs', hd, e0⟩ := D.at_ hs5 (hu 0).mem
  obtain rfl : kvs' = [] := by cases kvs' with | nil => rfl | cons _ _ => cases e0
  refine ⟨[(k, vv), (k2, vv2)], ⟨D.key k kv e, rfl, D.key k2 kv2 e2, rfl, trivial⟩, hd.dictOf, fun h' hd' hsb => ?_⟩
  obtain ⟨ep', o, ho, hi⟩ := D.of_ hd'
  have e3 : (merged [] [(k, vv), (k2, vv2)]).map erP = putK [(k, er vv)] k2 (er vv2) := by
    show (stored (stored [] k vv) k2 vv2).map erP = _
    rw [stored_er, stored_er]; rfl
  rw [e3] at hi
  exact ⟨N' ep', hs5.upd ((hu ep').app R) hsb ⟨o, ho, hi⟩ (D.sup _ _), q ep'⟩

-- slices
theorem EV.listFrom {n : Str} {np p pos : Pos} {e : Expr} (h : EV C A env (.Name n np) (fun o N1 => EV C A env e (fun v N2 => ∃ a xs k, o = .ref a ∧ LstAt C N2 a xs ∧ xs.length ≤ sizeLine ∧ v = .int (k : Nat) ∧ ∀ l, Q (.ref l) ((l, .list (xs.drop k)) :: N2)) N1) N) :
    EV C A env (.Subscript (.Name n np) (.Slice (some e) none none p) pos) Q N := fun R s hs => by
  refine wpAny_Subscript_list_slice (wm (h R s hs) fun o s1 ⟨N1, hs1, k1⟩ => wm (Q := fun v s' => ∃ N2, Rp C (N2 ++ R) s' ∧ _) (k1 R _ hs1) fun v s2 hx => ?_)
  refine hide fun G hG => ?_
  obtain ⟨N2, hs2, a, xs, k, eo, hl, hz, ev, q⟩ := hx
  obtain ⟨vs, hl', e⟩ := hl R _ hs2
  refine hG ?_
  clear hG
  refine wpAny_pure ?_
  cases er_ref eo
  obtain ⟨u, rfl⟩ := er_int ev
  have hn : vs.size = xs.length := by rw [← e, List.length_map, Array.length_toList]
  refine ⟨a, vs, _, _, rfl, hl', by rw [hn]; exact hz, .int _ u, .none, ?_⟩
  have hs3 := (hs2.keep (t := s2.toks) (h' := s2.heap.push { cls := .type "slice", data := .fields #[.int k u, .none, .none] }) fun _ _ e => Heap.get?_push_of_some _ e).push (o := { cls := .type "list", data := .seq (slicePick vs (some k) none none) }) (c := .list (xs.drop k)) (t := s2.toks) rfl ⟨_, 0, rfl, by rw [slicePick_from', ← e]; simp⟩
  rw [Heap.size_push] at hs3
  exact ⟨_, hs3, q _⟩
theorem EV.listTo {n : Str} {np p pos : Pos} {e : Expr} (h : EV C A env (.Name n np) (fun o N1 => EV C A env e (fun v N2 => ∃ a xs k, o = .ref a ∧ LstAt C N2 a xs ∧ xs.length ≤ sizeLine ∧ v = .int (k : Nat) ∧ ∀ l, Q (.ref l) ((l, .list (xs.take k)) :: N2)) N1) N) :
    EV C A env (.Subscript (.Name n np) (.Slice none (some e) none p) pos) Q N := fun R s hs => by
  refine wpAny_Subscript_list_slice (wm (h R s hs) fun o s1 ⟨N1, hs1, k1⟩ => wpAny_pure (wm (Q := fun v s' => ∃ N2, Rp C (N2 ++ R) s' ∧ _) (k1 R _ hs1) fun v s2 hx => ?_))
  refine hide fun G hG => ?_
  obtain ⟨N2, hs2, a, xs, k, eo, hl, hz, ev, q⟩ := hx
  obtain ⟨vs, hl', e⟩ := hl R _ hs2
  refine hG ?_
  clear hG
  cases er_ref eo
  obtain ⟨u, rfl⟩ := er_int ev
  have hn : vs.size = xs.length := by rw [← e, List.length_map, Array.length_toList]
  refine ⟨a, vs, _, _, rfl, hl', by rw [hn]; exact hz, .none, .int _ u, ?_⟩
  have hs3 := (hs2.keep (t := s2.toks) (h' := s2.heap.push { cls := .type "slice", data := .fields #[.none, .int k u, .none] }) fun _ _ e => Heap.get?_push_of_some _ e).push (o := { cls := .type "list", data := .seq (slicePick vs none (some k) none) }) (c := .list (xs.take k)) (t := s2.toks) rfl ⟨_, 0, rfl, by rw [slicePick_upto', ← e]; simp⟩
  rw [Heap.size_push] at hs3
  exact ⟨_, hs3, q _⟩

noncomputable def Str.rev (x : Str) : Str := ⟨x.cps.reverse⟩
theorem fmap_congr {α β : Type} (f g : α → Option β) : ∀ l : List α, (∀ x ∈ l, f x = g x) → l.filterMap f = l.filterMap g
  | [], _ => rfl
  | x :: l, h => by rw [List.filterMap_cons, List.filterMap_cons, h x List.mem_cons_self, fmap_congr f g l fun y hy => h y (List.mem_cons_of_mem _ hy)]
theorem rev_picked (x : Str) : (Builtin.Str.strSliceIndices none none (-1) x.length).filterMap (x.cps[·]?) = x.cps.toList.reverse := by
  have hx : x.length = x.cps.size := rfl
  show (sliceRange ((x.length : Int) - 1) (-1) (-1)).filterMap _ = _
  unfold sliceRange
  have hcount : (if (-1 : Int) > 0 then (if ((x.length : Int) - 1) < -1 then (-1 - ((x.length : Int) - 1) + -1 - 1) / (-1) else 0) else (if ((x.length : Int) - 1) > -1 then (((x.length : Int) - 1) - -1 - -1 - 1) / (- -1) else 0)).toNat = x.cps.size := by
    rw [if_neg (by decide), hx]
    split
    · rw [show (- -1 : Int) = 1 by decide, Int.ediv_one]; omega
    · omega
  dsimp only
  rw [hcount, List.filterMap_map]
  have key : ∀ k ∈ List.range x.cps.size, ((fun i : Nat => x.cps[i]?) ∘ fun k : Nat => ((x.length : Int) - 1 + -1 * (k : Int)).toNat) k = some (x.cps.toList.getD (x.cps.size - 1 - k) 0) := by
    intro k hk
    have hk := List.mem_range.mp hk
    show x.cps[((x.length : Int) - 1 + -1 * (k : Int)).toNat]? = _
    have e : ((x.length : Int) - 1 + -1 * (k : Int)).toNat = x.cps.size - 1 - k := by rw [hx]; omega
    rw [e, ← Array.getElem?_toList, List.getD_eq_getElem?_getD]
    have hlt : x.cps.size - 1 - k < x.cps.toList.length := by rw [Array.length_toList]; omega
    rw [List.getElem?_eq_getElem hlt]; rfl
  have e2 : List.filterMap ((fun i : Nat => x.cps[i]?) ∘ fun k : Nat => ((x.length : Int) - 1 + -1 * (k : Int)).toNat) (List.range x.cps.size) = (List.range x.cps.size).map (fun k => x.cps.toList.getD (x.cps.size - 1 - k) 0) := by
    rw [← List.filterMap_eq_map]
    exact fmap_congr _ _ _ key
  rw [e2]
  apply List.ext_getElem
  · simp
  · intro k h1 h2
    rw [List.getElem_map, List.getElem_range, List.getElem_reverse, List.getD_eq_getElem?_getD]
    have hlt : x.cps.size - 1 - k < x.cps.toList.length := by
      have : k < x.cps.toList.length := by simpa using h2
      rw [Array.length_toList] at this ⊢; omega
    rw [List.getElem?_eq_getElem hlt]
    simp
theorem EV.strRev {n : Str} {np p pos : Pos} {e : Expr} (h : EV C A env (.Name n np) (fun o N1 => EV C A env e (fun v N2 => ∃ x, o = .str x ∧ x.length ≤ sizeLine ∧ v = .int (-1) ∧ Q (.str (Str.rev x)) N2) N1) N) :
    EV C A env (.Subscript (.Name n np) (.Slice none none (some e) p) pos) Q N := fun R s hs => by
  refine wpAny_Subscript_Slice_step (T := "str") F.slot_str_getitem.lookup (wm (h R s hs) fun o s1 ⟨N1, hs1, k1⟩ => ?_)
  refine wpAny_Slice (wpAny_pure (wpAny_pure (wm (Q := fun v s' => ∃ N', Rp C (N' ++ R) s' ∧ _) (k1 R _ hs1) fun v s2 ⟨N2, hs2, x, eo, hz, ev, q⟩ => ?_)))
  obtain ⟨t, rfl⟩ := er_str eo
  obtain ⟨u, rfl⟩ := er_int ev
  refine ⟨typeIs_str _ x t, ?_⟩
  refine wpAny_getItem_str_slice (l := none) (u := none) (st := some (-1, u)) ⟨_, Heap.get?_push_size _ rfl, rfl, rfl⟩ rfl ?_
  refine made_str (z := Str.rev x) (hs2.keep (t := s2.toks) fun _ _ e => Heap.get?_push_of_some _ e) ?_ ?_ q
  · show x.cps.reverse.size ≤ _
    rw [Array.size_reverse]; exact hz
  · rw [if_neg (by simp)]
    show (⟨x.cps.reverse⟩ : Str) = ⟨((Builtin.Str.strSliceIndices none none (-1) x.length).filterMap (x.cps[·]?)).toArray⟩
    rw [rev_picked]
    simp only [Str.mk.injEq]
    apply Array.toList_inj.mp
    simp

-- ranges
noncomputable def rgo (i : Int) (t u v : Tok) : Obj := { cls := .type "range", data := .fields #[.int 0 t, .int i u, .int 1 v] }
noncomputable def rit (x left : Int) : Obj := { cls := .type "range_iterator", data := .fields #[rawInt x, rawInt left, rawInt 1] }
theorem CALL.rangeO (h : ∀ r t u v, Q (.ref r) ((r, .raw (rgo i t u v)) :: N)) : CALL C A (.ty "range") [.int i] Q N := fun vf vs e1 e2 R s hs => by
  cases er_ty e1; obtain ⟨v, rfl, e⟩ := cl1 e2; obtain ⟨t, rfl⟩ := er_int e
  exact call_range_1 ⟨_, hs.push (c := .raw (rgo i s.toks t (s.toks + 1))) (t := s.toks + 1 + 1) rfl rfl, h _ _ _ _⟩
theorem ITR.range {n : Nat} {t u v : Tok} (hm : (a, Cell.raw (rgo n t u v)) ∈ N) (hz : n ≤ 1000) (h : ∀ it, Q (.ref it) ((it, .raw (rit 0 n)) :: N)) : ITR C A (.ref a) Q N := fun vx e R s hs => by
  cases er_ref e
  obtain ⟨o, ho, eo⟩ := hs.get (List.mem_append_left R hm)
  subst eo
  have hsz : Builtin.Range.rangeSize 0 n 1 = n := by
    unfold Builtin.Range.rangeSize
    simp only [show (1 : Int) > 0 by decide, if_true, Int.ediv_one]
    split <;> omega
  refine wpAny_pyIter_range (a := 0) (b := n) (c := 1) (t := t) (u := u) (v := v) ho ?_ ?_
  · unfold Builtin.Range.small
    rw [hsz]
    have hb : ∀ z : Int, 0 ≤ z → z ≤ 1000 → Builtin.Range.rangeFitsLong z = true := by
      intro z h1 h2
      unfold Builtin.Range.rangeFitsLong
      simp only [decide_eq_true_eq, Bool.and_eq_true]
      omega
    rw [hb 0 (by omega) (by omega), hb n (by omega) (by omega), hb 1 (by omega) (by omega)]
    have e3 : Builtin.Range.rangeFitsLong ((n : Int) + (1 - 1)) = true := hb _ (by omega) (by omega)
    simp only [show (1 : Int) > 0 by decide, if_true, e3]
    simp
  · rw [hsz]
    exact ⟨_, hs.push (c := .raw (rit 0 n)) (t := s.toks) rfl rfl, h _⟩
theorem NXT.range {it : Addr} {k n : Int} {Q : Option V → Led → Prop} (hu : Upd it (.raw (rit k n)) (.raw (rit (k + 1) (n - 1))) N N') (hn : 0 < n) (h : Q (some (.int k)) N') : NXT C A (.ref it) Q N := fun vx e R s hs => by
  cases er_ref e
  have u := hu.app R
  obtain ⟨o, ho, eo⟩ := hs.get u.mem
  subst eo
  exact wpAny_pyNext_range_item (step := 1) ho hn fun h' hit hsb => ⟨N', hs.upd (t := s.toks + 1) u hsb ⟨_, hit, rfl⟩, h⟩
theorem NXT.rangeEnd {m : Nat} {it : Addr} {k : Int} {Q : Option V → Led → Prop} (hr : Room m A) (hu : Del it (.raw (rit k 0)) N N') (h : Q none N') : NXT C A (.ref it) Q N := fun vx e R s hs => by
  cases er_ref e
  have u := hu.app R
  obtain ⟨o, ho, eo⟩ := hs.get u.mem
  subst eo
  exact wpAny_pyNext_range_end (step := 1) hr.hd ho (Int.le_refl 0) fun h' hsb => ⟨N', hs.del (t := s.toks) u hsb, h⟩
-- iterators give themselves
theorem SELF.range {it : Addr} {k n : Int} (hm : (it, Cell.raw (rit k n)) ∈ N) : SELF C A (.ref it) N := fun Q h vx e R s hs => by
  cases er_ref e
  obtain ⟨o, ho, eo⟩ := hs.get (List.mem_append_left R hm)
  subst eo
  exact wpAny_pyIter_rangeiter (step := 1) ho ⟨N, hs, h⟩
theorem SELF.list {it : Addr} {i : Nat} (hm : (it, Cell.flds "list_iterator" [.ref a, .int i 0]) ∈ N) : SELF C A (.ref it) N := fun Q h vx e R s hs => by
  cases er_ref e
  obtain ⟨o, ho, hc, hd⟩ := hs.get (List.mem_append_left R hm)
  exact wpAny_pyIter_listiter ⟨o, ho, hc, hd⟩ ⟨N, hs, h⟩
-- strs
theorem ITR.str (ha : x.cps.all (· < 128) = true) (h : ∀ it t, Q (.ref it) ((it, .flds "str_ascii_iterator" [.str x t, .int 0 0]) :: N)) : ITR C A (.str x) Q N := fun vx e R s hs => by
  obtain ⟨t, rfl⟩ := er_str e
  exact wpAny_pyIter_ascii ha ⟨_, hs.push (c := .flds "str_ascii_iterator" [.str x t, .int 0 0]) (t := s.toks) rfl ⟨rfl, rfl⟩, h _ _⟩
theorem NXT.str {it : Addr} {i c : Nat} {t : Tok} {Q : Option V → Led → Prop} (hu : Upd it (.flds "str_ascii_iterator" [.str x t, .int i 0]) (.flds "str_ascii_iterator" [.str x t, .int (i + 1 : Nat) 0]) N N') (hx : x.cps[i]? = some c) (h : Q (some (.str ⟨#[c]⟩)) N') : NXT C A (.ref it) Q N := fun vx e R s hs => by
  cases er_ref e
  have u := hu.app R
  obtain ⟨o, ho, hc, hd⟩ := hs.get u.mem
  exact wpAny_pyNext_ascii_item ⟨o, ho, hc, hd⟩ hx fun h' ⟨o', ho', hc', hd'⟩ hsb => ⟨N', hs.upd (t := s.toks + 1) u hsb ⟨o', ho', hc', hd'⟩, h⟩
theorem NXT.strEnd {m : Nat} {it : Addr} {i : Nat} {t : Tok} {Q : Option V → Led → Prop} (hr : Room m A) (hu : Del it (.flds "str_ascii_iterator" [.str x t, .int i 0]) N N') (hx : x.cps[i]? = none) (h : Q none N') : NXT C A (.ref it) Q N := fun vx e R s hs => by
  cases er_ref e
  have u := hu.app R
  obtain ⟨o, ho, hc, hd⟩ := hs.get u.mem
  exact wpAny_pyNext_ascii_end hr.hd ⟨o, ho, hc, hd⟩ hx fun h' hsb => ⟨N', hs.del (t := s.toks) u hsb, h⟩
theorem CALL.listStr {m : Nat} (hr : Room m A) (hz : x.length ≤ sizeLine) (h : ∀ l, Q (.ref l) ((l, .list (x.cps.toList.map fun c => .str ⟨#[c]⟩)) :: N)) : CALL C A (.ty "list") [.str x] Q N := fun vf vs e1 e2 R s hs => by
  cases er_ty e1; obtain ⟨v, rfl, e⟩ := cl1 e2; obtain ⟨t, rfl⟩ := er_str e
  refine call_list_str hr.hd x t (fun h' tk acc' c' hk hS hacc => ⟨_, hs.add (t := tk) (c := .list (x.cps.toList.map fun c => .str ⟨#[c]⟩)) hk (Nat.le_refl _) ⟨_, hS, acc', c', rfl, ?_⟩, h _⟩) hz
  apply List.ext_getElem?
  intro k
  rw [List.getElem?_map, List.getElem?_map, Array.getElem?_toList, Array.getElem?_toList]
  cases q : acc'[k]? with
  | some v =>
    obtain ⟨c, u, hc, rfl⟩ := hacc.2 k v q
    rw [hc]; rfl
  | none =>
    have h1 := Array.getElem?_eq_none_iff.mp q
    rw [hacc.1] at h1
    rw [Array.getElem?_eq_none_iff.mpr h1]; rfl
-- numbers
theorem CALL.abs (h : Q (.int (if i < 0 then -i else i)) N) : CALL C A (.bi "abs") [.int i] Q N := fun vf vs e1 e2 R s hs => by
  cases er_bi e1; obtain ⟨v, rfl, e⟩ := cl1 e2; obtain ⟨t, rfl⟩ := er_int e
  exact call_abs_int fun u tk => ⟨N, hs.tok _, h⟩
theorem ints_of : ∀ {vs : List Value} {ns : List Int}, vs.map er = ns.map .int → IntsAre vs ns
  | [], [], _ => .nil
  | v :: vs, n :: ns, e => by
    rw [List.map_cons, List.map_cons] at e
    injection e with e1 e2
    obtain ⟨t, rfl⟩ := er_int e1
    exact .cons n t (ints_of e2)
  | [], _ :: _, e => by cases e
  | _ :: _, [], e => by cases e
theorem isiInt (h : Q (.bool false) N) : CALL C A (.bi "isinstance") [.int i, .ty "tuple"] Q N := fun vf vs e1 e2 R s hs => by
  cases er_bi e1; obtain ⟨v, w, rfl, e, e'⟩ := cl2 e2; obtain ⟨t, rfl⟩ := er_int e; cases er_ty e'
  exact IsiPair.int_tuple ⟨N, hs.tok _, h⟩
theorem isiTup (ht : TupAt C N a xs) (h : Q (.bool true) N) : CALL C A (.bi "isinstance") [.ref a, .ty "tuple"] Q N := fun vf vs e1 e2 R s hs => by
  cases er_bi e1; obtain ⟨v, w, rfl, e, e'⟩ := cl2 e2; cases er_ref e; cases er_ty e'
  obtain ⟨vs, n, ho, _⟩ := ht R s hs
  exact IsiPair.tuple_tuple ho rfl ⟨N, hs, h⟩

theorem intItems_of : ∀ {vs : List Value} {ns : List Int}, vs.map er = ns.map .int → ∃ xs : Array (Int × Tok), vs.toArray = intItems xs ∧ xs.toList.map (·.1) = ns := fun {vs ns} e => by
  suffices ∃ ys : List (Int × Tok), vs = ys.map (fun p => Value.int p.1 p.2) ∧ ys.map (·.1) = ns by
    obtain ⟨ys, rfl, rfl⟩ := this
    exact ⟨ys.toArray, by simp [intItems], by simp⟩
  induction vs generalizing ns with
  | nil => cases ns with | nil => exact ⟨[], rfl, rfl⟩ | cons _ _ => cases e
  | cons v vs ih =>
    cases ns with
    | nil => cases e
    | cons n ns =>
      rw [List.map_cons, List.map_cons] at e
      injection e with e1 e2
      obtain ⟨t, rfl⟩ := er_int e1
      obtain ⟨ys, rfl, rfl⟩ := ih e2
      exact ⟨(n, t) :: ys, rfl, rfl⟩
theorem CALL.sum {m : Nat} {ns : List Int} (hr : Room m A) (hl : LstAt C N a (ns.map .int)) (h : Q (.int ns.sum) N) : CALL C A (.bi "sum") [.ref a] Q N := fun vf vs e1 e2 R s hs => by
  cases er_bi e1; obtain ⟨v, rfl, e⟩ := cl1 e2; cases er_ref e
  obtain ⟨vs, hl', ev⟩ := hl R s hs
  obtain ⟨xs, e3, rfl⟩ := intItems_of ev
  rw [Array.toArray_toList] at e3
  subst e3
  refine sum_intListG hr.hd hl' fun h' tk t' hk => ⟨N, hs.keep (t := tk) hk, ?_⟩
  rw [preSum_eq, List.take_of_length_le (by simp)]
  exact h
theorem strs_er {vs : List Value} {ys : List Str} (h : StrsAre vs ys) : vs.map er = ys.map .str := by
  induction h with
  | nil => rfl
  | cons x t _ ih => rw [List.map_cons, List.map_cons, ih]; rfl
theorem CALL.sorted {ss : List Str} (hl : LstAt C N a (ss.map .str)) (hz : ss.length < 64) (h : ∀ l ss', ss'.Perm ss → sortedS ss' = true → Q (.ref l) ((l, .list (ss'.map .str)) :: N)) : CALL C A (.bi "sorted") [.ref a] Q N := fun vf vs e1 e2 R s hs => by
  cases er_bi e1; obtain ⟨v, rfl, e⟩ := cl1 e2; cases er_ref e
  obtain ⟨vs, hl', ev⟩ := hl R s hs
  have hn : vs.toList.length = ss.length := by rw [← List.length_map (f := er), ev, List.length_map]
  refine sorted_strs (vs := vs.toList) hl' (strs_of ev) (by rw [hn]; exact hz) fun out ss' hS hp hso => ?_
  obtain ⟨e, he⟩ := sortedAll_at s.heap vs.toList out
  refine ⟨_, hs.add (t := s.toks) (a := s.heap.objs.size + 1) (c := .list (ss'.map .str)) (fun _ _ => sortedAll_old) (Nat.le_succ _) ⟨_, he, out, e, rfl, ?_⟩, h _ _ hp hso⟩
  exact strs_er hS
theorem sorted_tail {p : Str} : ∀ {l : List Str}, risingS p l = true → ∀ x ∈ l, p.cps.toList ≤ x.cps.toList
  | [], _, x, hx => by cases hx
  | y :: r, h, x, hx => by
    simp only [risingS, Bool.and_eq_true, Bool.not_eq_true'] at h
    have h1 : p.cps.toList ≤ y.cps.toList := by
      have := h.1
      rw [ltCps_eq] at this
      exact of_decide_eq_false this
    rcases List.mem_cons.mp hx with rfl | hx
    · exact h1
    · exact List.le_trans h1 (sorted_tail h.2 x hx)
theorem sorted_rest {x : Str} {r : List Str} (h : sortedS (x :: r) = true) : sortedS r = true := by
  cases r with
  | nil => rfl
  | cons y t =>
    have : risingS x (y :: t) = true := h
    simp only [risingS, Bool.and_eq_true] at this
    exact this.2
theorem str_ext {x y : Str} (h : x.cps.toList = y.cps.toList) : x = y := by
  cases x; cases y
  simp only [Str.mk.injEq]
  exact Array.toList_inj.mp h
theorem sorted_unique : ∀ {l m : List Str}, l.Perm m → sortedS l = true → sortedS m = true → l = m
  | [], m, hp, _, _ => (List.Perm.nil_eq hp)
  | x :: r, m, hp, h1, h2 => by
    cases m with
    | nil => exact absurd hp.symm.nil_eq (by simp)
    | cons y t =>
      have a1 : x.cps.toList ≤ y.cps.toList := by
        rcases List.mem_cons.mp (hp.mem_iff.mpr List.mem_cons_self : y ∈ x :: r) with e | hm
        · rw [e]; exact List.le_refl _
        · exact sorted_tail h1 y hm
      have a2 : y.cps.toList ≤ x.cps.toList := by
        rcases List.mem_cons.mp (hp.mem_iff.mp List.mem_cons_self : x ∈ y :: t) with e | hm
        · rw [e]; exact List.le_refl _
        · exact sorted_tail h2 x hm
      have e : x = y := str_ext (List.le_antisymm a1 a2)
      subst e
      rw [sorted_unique (List.perm_cons x |>.mp hp) (sorted_rest h1) (sorted_rest h2)]
theorem CMP.neListSame {m : Nat} {ys : List Str} (hr : Room m A) (hl : LstAt C N a (ys.map .str)) (hb : LstAt C N b (ys.map .str)) (h : Q (.bool false) N) : CMP C A .NotEq (.ref a) (.ref b) Q N := fun vx vy e1 e2 R s hs => by
  cases er_ref e1; cases er_ref e2
  obtain ⟨vs, hl', ev⟩ := hl R s hs
  obtain ⟨ws, hb', ew⟩ := hb R s hs
  have n1 : vs.size = ys.length := by rw [← Array.length_toList, ← List.length_map (f := er), ev, List.length_map]
  have n2 : ws.size = ys.length := by rw [← Array.length_toList, ← List.length_map (f := er), ew, List.length_map]
  refine SeqAt.RcNeAt.lists (e := fun _ => true) hl' hb' (n1.trans n2.symm) hr.units (fun j h1 h2 => ?_) _ _ _ _ ?_
  · have g1 : er vs[j] = .str (ys[j]'(by omega)) := by
      have : (vs.toList.map er)[j]? = (ys.map V.str)[j]? := by rw [ev]
      rw [List.getElem?_map, List.getElem?_map, Array.getElem?_toList, Array.getElem?_eq_getElem h1, List.getElem?_eq_getElem (by omega)] at this
      exact Option.some.inj this
    have g2 : er ws[j] = .str (ys[j]'(by omega)) := by
      have : (ws.toList.map er)[j]? = (ys.map V.str)[j]? := by rw [ew]
      rw [List.getElem?_map, List.getElem?_map, Array.getElem?_toList, Array.getElem?_eq_getElem h2, List.getElem?_eq_getElem (by omega)] at this
      exact Option.some.inj this
    obtain ⟨t, e3⟩ := er_str g1
    obtain ⟨u, e4⟩ := er_str g2
    rw [e3, e4]
    have := SeqAt.EqAt.str_str (A := A.in1) (s := s) (ys[j]'(by omega)) t (ys[j]'(by omega)) u
    rwa [show ((ys[j]'(by omega)) == (ys[j]'(by omega))) = true from beq_self_eq_true _] at this
  · refine ⟨N, hs, ?_⟩
    have : (List.range vs.size).all (fun _ => true) = true := by simp
    rw [this]; exact h
end

end
section
open PySem PySem.W PyProof.Rows

noncomputable def drv : Nat → Sre.M → Option Sre.M
  | 0, _ => none
  | n + 1, m => if (m.runFor 4).outcome.isSome then some (m.runFor 4) else drv n (m.runFor 4)
theorem drive_ {M : Model} {A : Around} {E : Value → Shared → Prop} {s : Shared} {m' : Sre.M} {Q : Sre.M → Shared → Prop} (h : Q m' s) : ∀ (k turns : Nat) (m : Sre.M), k ≤ turns → drv k m = some m' → wpAny M A (Builtin.Re.reDrive turns m) Q E s
  | 0, _, _, _, e => by cases e
  | k + 1, 0, _, hk, _ => absurd hk (by omega)
  | k + 1, t + 1, m, hk, e => by
    unfold Builtin.Re.reDrive
    unfold drv at e
    show wpAny M A (if (m.runFor 4).outcome.isSome = true then pure (m.runFor 4) else (rule "sre.turn" >>= fun _ => Builtin.Re.reDrive t (m.runFor 4))) Q E s
    split
    · rename_i hc
      rw [if_pos hc] at e
      cases e
      exact wpAny_pure h
    · rename_i hc
      rw [if_neg hc] at e
      exact wpAny_bind (wpAny_rule (drive_ h k t _ (by omega) e))

noncomputable def patR : PySem.Flt.PatRec := (PySem.Flt.patsOf PySem.Challenge.pw_xo0025_01).headD ⟨"", [], 0, 0⟩
/-- the pattern finds nothing in a text -/
noncomputable def srch (x : Str) : Bool := match drv 400 (Sre.forSearch patR.code.toArray x.cps 0 0 (min (2 ^ 63 - 1) x.cps.size) false) with
  | some m => (match m.outcome with | some .failed => true | _ => false)
  | none => false

example : srch "w.c\"a.c7.net" = true := by decide +kernel
example : srch "w.\\ a.c\"a.ba.a.local" = true := by decide +kernel

theorem slot_search : Slot "re.Pattern" "search" "re.Pattern.search" :=
  .of (owner := "re.Pattern") (n := "search") (by rw [typeLookup_type, builtinLookup_eq_fast]; kernel_rfl) (by decide +kernel) (by decide +kernel) (by decide +kernel)
    (by first | exact .inl (by decide +kernel) | exact .inr (by decide +kernel)) (by rw [isSubtype_type]; kernel_rfl)
theorem type_search : typeOf (.builtin "re.Pattern.search") = pure (.type "method_descriptor") := by show builtinType _ = _; rw [builtinType_eq_fast]; kernel_rfl
theorem entry_search : entryFor table "re.Pattern.search" = some Builtin.«re.Pattern.search» := entryFor_of_tree (by kernel_rfl)
theorem plain_pattern : PlainAttrs "re.Pattern" :=
  ⟨⟨"object.__getattribute__", by rw [typeLookup_type, builtinLookup_eq_fast]; kernel_rfl, by decide +kernel⟩, by rw [typeLookup_type, builtinLookup_eq_fast]; kernel_rfl⟩
theorem args_search (a b : Value) : argsOk "re.Pattern.search" ⟨[a, b], []⟩ := by
  unfold argsOk; rw [signature?_of (id := "re.Pattern.search") (n := ['h', 'c', 'r', 'a', 'e', 's']) (o := ['n', 'r', 'e', 't', 't', 'a', 'P', '.', 'e', 'r']) (rows := Manifest.sig_re_Pattern) (by kernel_rfl) (by kernel_rfl)]; kernel_rfl

section
variable {prog : Program} {w : World} {A : Around} {E : Value → Shared → Prop} {s : Shared}
theorem quiet_for {M : Model} {Q : PUnit → Shared → Prop} (c : Nat → Bool) (nm : Nat → String) : ∀ l : List Nat, Q ⟨⟩ s → wpAny M A (forIn l PUnit.unit fun i _ => (if c i = true then (do rule (nm i); pure (ForInStep.yield PUnit.unit)) else pure (ForInStep.yield PUnit.unit) : Sem (ForInStep PUnit))) Q E s
  | [], h => by rw [List.forIn_nil]; exact wpAny_pure h
  | i :: l, h => by
    rw [List.forIn_cons]
    refine wpAny_bind ?_
    split
    · exact wpAny_bind (wpAny_rule (wpAny_pure (quiet_for c nm l h)))
    · exact wpAny_pure (quiet_for c nm l h)
set_option maxRecDepth 20000 in
theorem search_ {a T : Addr} {fs ws : Array Value} {n : Nat} {x : Str} {t : Tok} {Q : Fin → Shared → Prop} (ho : s.heap.get? a = some { cls := .type "re.Pattern", data := .fields fs }) (h5 : fs.getD 5 .none = .ref T)
    (h2 : Builtin.Re.reRawNat (fs.getD 2 .none) = patR.groups) (h6 : Builtin.Re.reRawNat (fs.getD 6 .none) = patR.kind) (hT : s.heap.get? T = some { cls := .type "tuple", data := .seq ws n })
    (hw : ((ws.map Builtin.Re.reRawOf).map (·.toNat)).toList = patR.code) (hx : srch x = true) (h : Q (.done (.ret .none)) s) :
    wpAny (model prog w) A (Builtin.«re.Pattern.search» ⟨[.ref a, .str x t], []⟩) Q E s := by
  unfold Builtin.«re.Pattern.search» Builtin.Re.reTarget
  refine wpAny_bind ?_
  show wpAny _ _ (Builtin.Re.reNamed _ _ _ _ _ _ >>= _) _ _ _
  refine wpAny_bind (wpAny_of_eq (a := [some (.str x t), none, none]) (by rfl) ?_)
  show wpAny _ _ (pure (0 : Int) >>= _) _ _ _
  refine wpAny_bind (wpAny_pure ?_)
  refine wpAny_bind (wpAny_pure ?_)
  refine wpAny_bind (wpAny_fieldsOf ho rfl ?_)
  show wpAny _ _ (Builtin.Re.reTextOf _ >>= _) _ _ _
  refine wpAny_bind (wpAny_of_eq (a := (x.cps, 0)) (by rfl) ?_)
  rw [h6]
  refine wpAny_bind (m := (pure () : Sem Unit)) (wpAny_pure ?_)
  unfold Builtin.Re.reRawItems seqItems?
  rw [h5]
  dsimp only
  refine wpAny_bind (wpAny_bind (wpAny_bind (wpAny_load hT (wpAny_pure (wpAny_pure (wpAny_pure ?_))))))
  unfold Builtin.Re.reAnswer Builtin.Re.reRunToEnd
  have hx' := hx
  unfold srch at hx'
  have hc : Array.map (fun x => x.toNat) (Array.map Builtin.Re.reRawOf ws) = patR.code.toArray := by rw [← hw]
  have hg : patR.groups = 0 := by decide +kernel
  show wpAny _ _ ((Builtin.Re.reDrive (2 ^ 64) (Sre.forSearch (Array.map (fun x => x.toNat) (Array.map Builtin.Re.reRawOf ws)) x.cps (Builtin.Re.reRawNat (fs.getD 2 .none)) (min (0 : Int).toNat x.cps.size) (min (2 ^ 63 - 1 : Int).toNat x.cps.size) false) >>= _) >>= _) _ _ _
  rw [hc, h2, hg, show min (0 : Int).toNat x.cps.size = 0 by simp, show (2 ^ 63 - 1 : Int).toNat = 2 ^ 63 - 1 by decide]
  generalize Sre.forSearch patR.code.toArray x.cps 0 0 (min (2 ^ 63 - 1) x.cps.size) false = m at hx' ⊢
  cases hm : drv 400 m with
  | none => rw [hm] at hx'; cases hx'
  | some m' =>
    rw [hm] at hx'
    refine wpAny_bind (wpAny_bind (drive_ (m' := m') ?_ 400 (2 ^ 64) m (by decide) hm))
    refine wpAny_bind (quiet_for (fun i => m'.seen.has i) (fun i => Sre.names.getD i "") _ ?_)
    dsimp only at hx' ⊢
    cases ho : m'.outcome with
    | none => rw [ho] at hx'; cases hx'
    | some o =>
      rw [ho] at hx'
      cases o with
      | failed => exact wpAny_pure (wpAny_pure h)
      | matched => cases hx'
      | stuck _ => cases hx'
end

section
variable {C : Cx} {A : Around} {N : Led} {x : Str} {Q : V → Led → Prop}
theorem GM.search {a : Addr} {Q : V → List V → Led → Prop} (hp : PySem.Flt.IsPattern C.h₀ a patR) (h : Q (.bi "re.Pattern.search") [.ref a] N) : GM C A (.ref a) "search" Q N := fun pl vx e R s hs => by
  cases er_ref e
  obtain ⟨fs, T, ws, n, h1, _⟩ := hp
  have h1' := hs.old.get_of_cls h1 nofun
  have hT : s.TypeIs (.ref a) "re.Pattern" := ⟨_, h1', rfl⟩
  with_reducible refine getMethod_builtin (v := .ref a) hT plain_pattern slot_search type_search (fun b e => ⟨_, by cases e; exact h1', rfl⟩) ?_
  exact ⟨N, hs, h⟩
theorem CALL.search {a : Addr} (hp : PySem.Flt.IsPattern C.h₀ a patR) (hx : srch x = true) (h : Q .none N) : CALL C A (.bi "re.Pattern.search") [.ref a, .str x] Q N := fun vf vs e1 e2 R s hs => by
  cases er_bi e1; obtain ⟨v, w, rfl, e, e'⟩ := cl2 e2; cases er_ref e; obtain ⟨t, rfl⟩ := er_str e'
  obtain ⟨fs, T, ws, n, h1, h5, h2, h6, hT, hw⟩ := hp
  have h1' := hs.old.get_of_cls h1 nofun
  have hT' := hs.old.get_of_cls hT nofun
  have hTy : s.TypeIs (.ref a) "re.Pattern" := ⟨_, h1', rfl⟩
  exact wpAny_call_entry slot_search hTy entry_search (search_ h1' h5 h2 h6 hT' hw hx ⟨_, rfl, N, hs, h⟩) (args_search _ _)
theorem TRU.none {Q : Bool → Led → Prop} (h : Q false N) : TRU C A .none Q N := fun vx e1 R s hs => by
  cases er_none e1; exact wpAny_of_eq (by rfl) ⟨N, hs, h⟩
end

end
section
open PySem PySem.W PyProof.Rows PySem.Calls PySem.Builtin PySem.Builtin.ObjectAttr

/-- what the walk reads of the one class -/
structure ClsOk (C : Cx) (K : Frag) : Prop where
  inn : K.In C.h₀
  real : ∀ a o, K.lookup a = some o → o.cls ≠ .none
  ga : findIn K (.ref 95) "__getattribute__" = some (some (.builtin "object.__getattribute__"))
  noga : findIn K (.ref 95) "__getattr__" = some none
  sa : findIn K (.ref 95) "__setattr__" = some (some (.builtin "object.__setattr__"))
  over : plainOver K 95 = true
  hasd : hasDictIn K 95 = true
  make : makesIn K 95 = true
  keep : keepIn K (.ref 95) = true
  none_ : ∀ n ∈ (["lineno", "instream", "whitespace", "pushback", "read"] : List Str), findIn K (.ref 95) n = some none
  init : findIn K (.ref 95) "__init__" = some (some (.ref 71))
  m78 : findIn K (.ref 95) "_read_char" = some (some (.ref 78))
  m85 : findIn K (.ref 95) "get_token" = some (some (.ref 85))
  m92 : findIn K (.ref 95) "push_token" = some (some (.ref 92))
  fn : ∀ f ∈ ([71, 78, 85, 92] : List Nat), isFn K (.ref f) = true
  fget : specialIn K (.ref 78) "__get__" = some (some (.builtin "function.__get__"))
  ftake : takesIn K (.ref 78) = some false

theorem ClsOk.in_ {C : Cx} {K : Frag} (h : ClsOk C K) {N : Led} {s : Shared} (hs : Rp C N s) : K.In s.heap := fun a o e => hs.old.get_of_cls (h.inn a o e) (h.real a o e)

theorem putName_ok {name : Str} {hsh : Int} {t : Tok} {v : Value} {o : Obj} {es : Array DictEntry} {ep : Nat} (hd : o.data = .dict es ep) (hk : StrKeys es) :
    ∃ es' ep', (Obj.putName name hsh (.str name t) v o).data = .dict es' ep' ∧ StrKeys es' ∧ es'.size ≤ es.size + 1 ∧ ∀ x, nsFind es' x = if x = name then some v else nsFind es x := by
  obtain ⟨c, d, dt, sl⟩ := o
  subst hd
  cases hi : es.findIdx? (·.key.isStr name) with
  | some i =>
    refine ⟨_, ep, by simp only [Obj.putName_eq, Obj.putNameByArray, hi]; rfl, hk.modify _ _, by simp, fun x => ?_⟩
    exact findBy_modify (fun n v => v.isStr n) Value.isStr_inj es name x v i hi
  | none =>
    refine ⟨_, ep + 1, by simp only [Obj.putName_eq, Obj.putNameByArray, hi]; rfl, hk.push _ _ _ _, by simp, fun x => ?_⟩
    exact findBy_push (fun n v => v.isStr n) es name x _ _ v (fun y => by
      show (name == y) = decide (y = name)
      by_cases h : y = name
      · subst h; simp
      · have : ¬ name = y := fun e => h e.symm
        simp [h, this]) hi
theorem lookIn_ok {o : Obj} {es : Array DictEntry} {ep : Nat} (hd : o.data = .dict es ep) (hk : StrKeys es) (name : Str) : lookIn name o = some (nsFind es name) := by
  unfold lookIn
  rw [hd]
  dsimp only
  have hany : es.toList.any (·.refKey) = false := by
    rw [Array.any_toList, Array.any_eq_false']; intro e he; obtain ⟨n, t, h⟩ := hk e he; simp [DictEntry.refKey, h]
  unfold nsFind findBy
  rw [← Array.find?_toList]
  cases hf : es.toList.find? (fun e => e.key.isStr name) with
  | some e => rfl
  | none => rw [hany]; rfl

section
variable {C : Cx} {A : Around} {env : Env} {N N' : Led} {K : Frag} {x d : Addr} {m m' : List (Str × V)} {n : Nat} {y : V} {k : Str} {Q : V → Led → Prop}

theorem inst_at {R : Led} {s : Shared} (hs : Rp C (N ++ R) s) (hx : (x, Cell.inst 95 d) ∈ N) (hd : (d, Cell.attrs m n) ∈ N) :
    ∃ od es ep, InstAt s.heap x ⟨.ref 95, some d, .plain, #[]⟩ 95 (some od) ∧ s.heap.get? d = some od ∧ od.data = .dict es ep ∧ StrKeys es ∧ es.size ≤ n ∧ ∀ name, (nsFind es name).map er = m.lookup name := by
  obtain ⟨ox, ho, h1, h2, h3, h4⟩ := hs.get (List.mem_append_left R hx)
  obtain ⟨od, hod, es, ep, e1, e2, e3, e4⟩ := hs.get (List.mem_append_left R hd)
  obtain ⟨c, dd, dt, sl⟩ := ox
  dsimp only at h1 h2 h3 h4
  subst h1 h2 h3 h4
  exact ⟨od, es, ep, ⟨ho, rfl, rfl, hod⟩, hod, e1, e2, e3, e4⟩
theorem handed_er {v : Value} (h : ∀ i, er v ≠ .bi i) : handedIn v = true := by
  cases v <;> first | rfl | exact absurd rfl (h _)
theorem own_at {R : Led} {s : Shared} (B : ClsOk C K) (hs : Rp C (N ++ R) s) (hx : (x, Cell.inst 95 d) ∈ N) (hd : (d, Cell.attrs m n) ∈ N) (hk : k ∈ (["lineno", "instream", "whitespace", "pushback", "read"] : List Str)) (hm : Lk m k y) (hy : ∀ i, y ≠ .bi i) {Qv : Value → Shared → Prop} {E : Value → Shared → Prop} {expr : Bool}
    (h : ∀ v, er v = y → Qv v { s with toks := s.toks + 1 }) : wpAny (model C.prog C.w) A (getAttr (.ref x) k expr) Qv E s := by
  obtain ⟨od, es, ep, I, hod, e1, e2, e3, e4⟩ := inst_at hs hx hd
  have q := (e4 k).trans hm.lookup
  cases hf : nsFind es k with
  | none => rw [hf] at q; cases q
  | some v =>
    rw [hf] at q
    have ev : er v = y := Option.some.inj q
    refine get_value (B.in_ hs) I B.ga (findObj_own B.hasd (B.none_ k hk) rfl (by rw [lookIn_ok e1 e2, hf])) (handed_er (by rw [ev]; exact hy)) (h v ev)

theorem GAT.inst (B : ClsOk C K) (hx : (x, Cell.inst 95 d) ∈ N) (hd : (d, Cell.attrs m n) ∈ N) (hk : k ∈ (["lineno", "instream", "whitespace", "pushback", "read"] : List Str)) (hm : Lk m k y) (hy : ∀ i, y ≠ .bi i) (h : Q y N) : GAT C A (.ref x) k Q N := fun vx e R s hs => by
  cases er_ref e
  exact own_at B hs hx hd hk hm hy fun v ev => ⟨N, hs.tok _, by show Q (er v) N; rw [ev]; exact h⟩
theorem GM.own (B : ClsOk C K) {Q : V → List V → Led → Prop} (hx : (x, Cell.inst 95 d) ∈ N) (hd : (d, Cell.attrs m n) ∈ N) (hk : k ∈ (["lineno", "instream", "whitespace", "pushback", "read"] : List Str)) (hm : Lk m k y) (hy : ∀ i, y ≠ .bi i) (h : Q y [] N) : GM C A (.ref x) k Q N := fun pl vx e R s hs => by
  cases er_ref e
  obtain ⟨od, es, ep, I, hod, e1, e2, e3, e4⟩ := inst_at hs hx hd
  exact method_usual (B.in_ hs) I B.ga B.noga (B.none_ k hk) rfl (own_at B hs hx hd hk hm hy fun v ev => ⟨N, hs.tok _, by show Q (er v) [] N; rw [ev]; exact h⟩)
theorem GM.cls (B : ClsOk C K) {Q : V → List V → Led → Prop} {f : Addr} (hx : (x, Cell.inst 95 d) ∈ N) (hd : (d, Cell.attrs m n) ∈ N) (hf : findIn K (.ref 95) k = some (some (.ref f))) (hfn : isFn K (.ref f) = true) (hm : m.lookup k = none) (h : Q (.ref f) [.ref x] N) : GM C A (.ref x) k Q N := fun pl vx e R s hs => by
  cases er_ref e
  obtain ⟨od, es, ep, I, hod, e1, e2, e3, e4⟩ := inst_at hs hx hd
  have q := (e4 k).trans hm
  have hf0 : nsFind es k = none := by cases hf : nsFind es k with | none => rfl | some v => rw [hf] at q; cases q
  exact method_fn (B.in_ hs) I B.ga B.noga hf (beq_iff_eq.mp hfn) (by show (lookIn k od).map _ = _; rw [lookIn_ok e1 e2, hf0]; rfl) ⟨N, hs, h⟩
/-- the bound method of a read -/
theorem GAT.bound (B : ClsOk C K) (hx : (x, Cell.inst 95 d) ∈ N) (hd : (d, Cell.attrs m n) ∈ N) (hm : m.lookup ("_read_char" : Str) = none) (h : ∀ q, Q (.ref q) ((q, .raw (methodObj (.ref 78) (.ref x))) :: N)) : GAT C A (.ref x) "_read_char" Q N := fun vx e R s hs => by
  cases er_ref e
  obtain ⟨od, es, ep, I, hod, e1, e2, e3, e4⟩ := inst_at hs hx hd
  have q := (e4 "_read_char").trans hm
  have hf0 : nsFind es "_read_char" = none := by cases hf : nsFind es "_read_char" with | none => rfl | some v => rw [hf] at q; cases q
  have X := B.in_ hs
  have hfo : findObj K 95 (some od) "_read_char" = some (.bind (.builtin "function.__get__") (.ref 78)) := by
    obtain ⟨cd, hc', hd⟩ := any_some B.hasd
    unfold findObj
    have ho : PySem.W.ownOf cd (some od) "_read_char" = some none := by unfold PySem.W.ownOf; rw [if_pos hd]; show lookIn _ od = _; rw [lookIn_ok e1 e2, hf0]
    rw [hc', Option.bind_some, B.m78, Option.bind_some]
    have hcop : copiedNames.contains "_read_char" = false := by decide +kernel
    simp only [B.fget, B.ftake, Option.bind_some, ho, hcop, Bool.false_and, Bool.false_eq_true, if_false]
  refine get_bind X I B.ga hfo B.noga ?_
  refine wpAny_call (fn_get (s := { s with toks := s.toks + 1 }) X (beq_iff_eq.mp (B.fn 78 (by decide))) ?_)
  exact handed_on rfl ⟨_, hs.push (t := s.toks + 1) (c := .raw (methodObj (.ref 78) (.ref x))) rfl rfl, h _⟩

theorem SAT.inst (B : ClsOk C K) {Q : Led → Prop} (hx : (x, Cell.inst 95 d) ∈ N) (hk : k ∈ (["lineno", "instream", "whitespace", "pushback", "read"] : List Str)) (hp : Put m k y m') (hu : Upd d (.attrs m n) (.attrs m' (n + 1)) N N') (hz : n ≤ 1000) (h : Q N') : SAT C A (.ref x) k y Q N := fun vx vy e1 e2 R s hs => by
  cases er_ref e1
  have u := hu.app R
  refine hide fun G hG => ?_
  obtain ⟨od, es, ep, I, hod, q1, q2, q3, q4⟩ := inst_at hs hx hu.mem
  obtain ⟨cd, hc, hd'⟩ := any_some B.hasd
  obtain ⟨es', ep', r1, r2, r3, r4⟩ := putName_ok (name := k) (hsh := PyData.keyHash C.w.params k) (t := s.toks + 1) (v := vy) q1 q2
  refine hG ?_
  clear hG
  have X := B.in_ hs
  have ht : takerIn K 95 k = some none := by unfold takerIn; rw [B.none_ k hk]; rfl
  refine set_plain X I B.sa (osa_open (s := { s with toks := s.toks + 1 }) X I B.over ht fun b => ?_)
  refine wpAny_bind (wpAny_pure (wpAny_bind (wpAny_bind (wpAny_loadPart I.at_ (wpAny_bind (Looks.here (s := { s with toks := s.toks + 1 }) (looks_clsIn X hc) ?_))))))
  rw [hd']
  refine wpAny_pure (a := some d) (wpAny_bind (wpAny_pure (wpAny_bind ?_)))
  unfold nsSet
  refine wpAny_bind (wpAny_bind (wpAny_askSetting (wpAny_pure (wpAny_bind (wpAny_mkText (wpAny_bind (wpAny_loadPart hod ?_)))))))
  rw [q1]
  dsimp only
  have c : (!es.any (·.key.isStr k) && es.any (·.refKey)) = false := by
    have hany : es.any (·.refKey) = false := by
      rw [Array.any_eq_false']; intro e he; obtain ⟨n, t, h⟩ := q2 e he; simp [DictEntry.refKey, h]
    rw [hany, Bool.and_false]
  rw [aRefKeyMayBeTheName_at, c]
  have D' : (s.heap.update d (Obj.putName k (PyData.keyHash C.w.params k) (.str k (s.toks + 1)) vy)).get? d = some _ := Heap.get?_update_self _ hod (Obj.isFreed_of_dict r1)
  refine wpAny_updatePart hod ?_
  refine wpAny_bind (wpAny_lookBehind D' (by rw [r1]; exact pastItsLine_dict (by rw [sizeLine_eq]; omega)) ?_)
  refine wpAny_pure ⟨N', hs.upd (t := s.toks + 1 + 1) u (Heap.SameBut.update ..) ⟨_, D', es', ep', r1, r2, by omega, fun z => ?_⟩, h⟩
  rw [r4, hp.lookup]
  by_cases e : z = k
  · rw [if_pos e, if_pos e, ← e2]; rfl
  · rw [if_neg e, if_neg e]; exact q4 z

theorem KEEP.cls (B : ClsOk C K) : KEEP C (.ref 95) N := fun R s hs v e => by
  cases er_ref e
  exact keeps_K B.keep _ (B.in_ hs)
theorem instObj_is (dx : Addr) : (Cell.inst 95 dx).Is C.w C.prog (instObj 95 dx) := ⟨rfl, rfl, rfl, rfl⟩
theorem tc_frames (vs : Args) : (Code.builtin "type.__call__" vs).frames = 0 := by kernel_rfl
theorem tc_weight (vs : Args) : (Code.builtin "type.__call__" vs).weight ≤ 2 := by
  unfold Code.weight
  rw [tc_frames]
  have h1 : (Code.builtin "type.__call__" vs).isGuard = false := by show guardIds.contains "type.__call__" = false; decide +kernel
  have h2 : (Code.builtin "type.__call__" vs).isCaller = false := by simp [Code.isCaller]
  rw [h1, h2]
  split <;> simp
theorem tc_units (vs : Args) : (Code.builtin "type.__call__" vs).cUnits ≤ 1 := by
  show 1 + 3 * (Code.builtin "type.__call__" vs).frames ≤ 1
  rw [tc_frames]; omega
theorem Room.under {n : Nat} (hr : Room (n + 2) A) (vs : Args) : Room n (A.under (.builtin "type.__call__" vs)) := by
  refine ⟨hr.hd, ?_, ?_⟩
  · show A.depth + _ + n ≤ 900
    have := tc_weight vs; have := hr.dp; omega
  · show A.units + _ + 20 * n ≤ 9000
    have := tc_units vs; have := hr.un; omega
/-- an object of the class is made -/
theorem CALL.cls (B : ClsOk C K) {r : Nat} (hr : Room (r + 2) A) (h : ∀ A', Room r A' → ∀ x dx, FN C A' 71 [.ref x, y] (fun r N1 => r = .none ∧ Q (.ref x) N1) ((x, .inst 95 dx) :: (dx, .attrs [] 0) :: N)) : CALL C A (.ref 95) [y] Q N := fun vf vs e1 e2 R s hs => by
  cases er_ref e1; obtain ⟨v, rfl, e⟩ := cl1 e2
  have X := B.in_ hs
  obtain ⟨hh, g, dr, t, os⟩ := s
  have hs1 := hs.push (t := t) (o := emptyDict) (c := .attrs [] 0) rfl ⟨#[], 0, rfl, fun _ h => by simp at h, Nat.le_refl _, fun _ => rfl⟩
  have hs2 := hs1.push (t := t) (o := instObj 95 hh.objs.size) (c := .inst 95 hh.objs.size) rfl (instObj_is _)
  refine wpAny_call (make_core (makes_of X B.make) (looks_findIn X B.init) (fun self => bind_fn X self (beq_iff_eq.mp (B.fn 71 (by decide)))) (.inl rfl) ?_)
  have := h _ (hr.under ⟨[.ref 95, v], []⟩) (hh.objs.size + 1) hh.objs.size [.ref (hh.objs.size + 1), v] (by rw [← e]; rfl) R _ (by
    have e3 : (Heap.push hh emptyDict).objs.size = hh.objs.size + 1 := Heap.size_push ..
    rw [← e3]; exact hs2)
  refine codeAny_mono this ?_
  rintro r s' ⟨v', rfl, N1, hs', e4, q⟩
  exact ⟨er_none e4, N1, hs', q⟩

-- the callable iterator
theorem owner_ci : Manifest.owners.lookup (String.ofList "callable_iterator".toList.reverse.reverse) = some Manifest.sig_callable_iterator := by kernel_rfl
theorem slot_ci_next : Slot "callable_iterator" "__next__" "callable_iterator.__next__" :=
  .of (owner := "callable_iterator") (n := "__next__") (by rw [typeLookup_type, builtinLookup_eq_fast]; kernel_rfl) (by decide +kernel) (by decide +kernel) (by decide +kernel)
    (by first | exact .inl (by decide +kernel) | exact .inr (by decide +kernel)) (by rw [isSubtype_type]; kernel_rfl)
theorem entry_ci_next : entryFor table "callable_iterator.__next__" = some Builtin.«callable_iterator.__next__» := entryFor_of_tree (by kernel_rfl)
theorem args_ci_next (a : Value) : argsOk "callable_iterator.__next__" ⟨[a], []⟩ := by unfold argsOk; kernel_rfl
theorem slot_ci_iter : Slot "callable_iterator" "__iter__" "callable_iterator.__iter__" :=
  .of (owner := "callable_iterator") (n := "__iter__") (by rw [typeLookup_type, builtinLookup_eq_fast]; kernel_rfl) (by decide +kernel) (by decide +kernel) (by decide +kernel)
    (by first | exact .inl (by decide +kernel) | exact .inr (by decide +kernel)) (by rw [isSubtype_type]; kernel_rfl)
theorem entry_ci_iter : entryFor table "callable_iterator.__iter__" = some Builtin.«dict_keyiterator.__iter__» :=
  entryFor_alias (id' := "dict_keyiterator.__iter__") (by kernel_rfl) (by first | rfl | decide +kernel | (unfold String.splitOn; simp +decide [String.splitOnAux])) (by decide +kernel) (by kernel_rfl)
theorem args_ci_iter (a : Value) : argsOk "callable_iterator.__iter__" ⟨[a], []⟩ := by unfold argsOk; kernel_rfl
theorem kind_iter : builtinKind "iter" = none := by decide +kernel
theorem plain_iter : plainId "iter" = true := by decide +kernel
theorem entry_iter : entryFor table "iter" = some Builtin.«iter» := entryFor_of_tree (by kernel_rfl)
theorem args_iter (a b : Value) : argsOk "iter" ⟨[a, b], []⟩ := by unfold argsOk; kernel_rfl
theorem lookup_method_call : ∃ v, typeLookup (.type "method") "__call__" = pure (some v) := ⟨.builtin "method.__call__", by rw [typeLookup_type, builtinLookup_eq_fast]; kernel_rfl⟩
end

end
section
open PySem PySem.W PyProof.Rows PySem.Calls PySem.Builtin PySem.Builtin.ObjectAttr
section
variable {C : Cx} {A : Around} {env : Env} {N N' : Led} {K : Frag} {x q it : Addr} {n : Nat} {Q : V → Led → Prop}

theorem CALL.iterS (hq : (q, Cell.raw (methodObj (.ref 78) (.ref x))) ∈ N) (h : ∀ it t, Q (.ref it) ((it, .flds "callable_iterator" [.ref q, .str "" t, .bool false]) :: N)) : CALL C A (.bi "iter") [.ref q, .str ""] Q N := fun vf vs e1 e2 R s hs => by
  cases er_bi e1; obtain ⟨v, w, rfl, e, e'⟩ := cl2 e2; cases er_ref e; obtain ⟨t, rfl⟩ := er_str e'
  obtain ⟨o, ho, eo⟩ := hs.get (List.mem_append_left R hq)
  subst eo
  refine call_function_entry kind_iter plain_iter entry_iter (args_iter _ _) ?_
  unfold Builtin.«iter»
  refine wpAny_bind (wpAny_of_eq (a := [.ref q, .str "" t]) (by rfl) ?_)
  dsimp only
  obtain ⟨cv, hcv⟩ := lookup_method_call
  refine wpAny_bind (wpAny_specialOf (s := s) (T := "method") ⟨_, ho, rfl⟩ hcv ?_)
  simp only [Option.isNone_some, Bool.false_eq_true, if_false]
  refine wpAny_bind (wpAny_rule (wpAny_bind ?_))
  refine wpAny_newObj_type ?_ (by size_fits)
  exact wpAny_pure ⟨_, rfl, _, hs.push (t := s.toks) (c := .flds "callable_iterator" [.ref q, .str "" t, .bool false]) rfl ⟨rfl, rfl⟩, h _ _⟩
theorem ITR.ci {f : Value} {t : Tok} (hm : (it, Cell.flds "callable_iterator" [f, .str "" t, .bool false]) ∈ N) (h : Q (.ref it) N) : ITR C A (.ref it) Q N := fun vx e R s hs => by
  cases er_ref e
  obtain ⟨o, ho, hc, hd⟩ := hs.get (List.mem_append_left R hm)
  have hT : s.TypeIs (.ref it) "callable_iterator" := ⟨o, ho, hc⟩
  refine wpAny_pyIter_slot hT slot_ci_iter (wpAny_call_entry slot_ci_iter hT entry_ci_iter ?_ (args_ci_iter _))
  show wpAny _ _ (ret (.ref it)) _ _ s
  exact wpAny_pure ⟨_, rfl, "callable_iterator", _, hT, slot_ci_next.lookup, N, hs, h⟩

theorem wpAny_callBorrowed {M : Model} {E : Value → Shared → Prop} {s : Shared} {f : Value} {pos : List Value} {Q : Value → Shared → Prop}
    (h : codeAny M A (.call f ⟨pos, []⟩) (fun r s' => match r with | .ok (.ret v) => Q v s' | .ok _ => False | .error e => E e s') s) : wpAny M A (callBorrowed f pos) Q E s := by
  intro Γ p hΓ
  unfold callBorrowed
  rw [Sem.wp_call]
  refine wpCode_mono ?_ (h _ p rfl (hΓ.enter _ none p (by intro x; cases x)))
  rintro r s' q
  rcases r with e | f
  · exact q
  · cases f <;> first | exact q | exact q.elim
theorem wpAny_setField_rec' {M : Model} {E : Value → Shared → Prop} {s : Shared} {a : Addr} {o : Obj} {cl : Value} {fs : Array Value} {i : Nat} {v : Value} {Q : Unit → Shared → Prop} (ho : s.heap.get? a = some o) (hc : o.cls = cl) (hd : o.data = .fields fs) (hi : i < fs.size)
    (h : ∀ h' o', h'.get? a = some o' → o'.cls = cl → o'.data = .fields (fs.setIfInBounds i v) → Heap.SameBut a s.heap h' → Q () { s with heap := h' }) : wpAny M A (setField (.ref a) i v) Q E s := by
  refine wpAny_setField ho hd hi (h _ _ (Heap.get?_update_self _ ho (Obj.isFreed_of_fields (Obj.data_mapFields hd _))) ((Obj.cls_mapFields ..).trans hc) (by rw [Obj.data_mapFields hd]) (Heap.SameBut.update ..))
theorem NXT.ci (hr : Room (n + 1) A) (B : Base C) {t : Tok} {Q : Option V → Led → Prop} (hm : (it, Cell.flds "callable_iterator" [.ref q, .str "" t, .bool false]) ∈ N) (hq : (q, Cell.raw (methodObj (.ref 78) (.ref x))) ∈ N)
    (h : FN C A.in1 78 [.ref x] (fun r N1 => ∃ c, r = .str c ∧ (it, Cell.flds "callable_iterator" [.ref q, .str "" t, .bool false]) ∈ N1 ∧ (q, Cell.raw (methodObj (.ref 78) (.ref x))) ∈ N1 ∧
      if c = "" then ∃ N2, Del it (.flds "callable_iterator" [.ref q, .str "" t, .bool false]) N1 N2 ∧ Q none N2 else Q (some r) N1) N) : NXT C A (.ref it) Q N := fun vx e R s hs => by
  cases er_ref e
  refine hide fun G hG => ?_
  obtain ⟨o, ho, hc, hd⟩ := hs.get (List.mem_append_left R hm)
  obtain ⟨oq, hoq, eo⟩ := hs.get (List.mem_append_left R hq)
  obtain ⟨⟨of, hof, hdf⟩, _⟩ := B.f78.at_ hs
  refine hG ?_
  clear hG
  subst eo
  have hT : s.TypeIs (.ref it) "callable_iterator" := ⟨o, ho, hc⟩
  unfold pyNext
  refine wpAny_bind (wpAny_attempt (wpAny_callSpecial?_slot (name := Str.ofString "__next__") hT slot_ci_next
    (wpAny_call_entry slot_ci_next hT entry_ci_next ?_ (args_ci_next _))))
  unfold Builtin.«callable_iterator.__next__»
  refine wpAny_bind (wpAny_of_eq (a := (.ref it, [])) (by rfl) ?_)
  dsimp only
  refine wpAny_bind (wpAny_field ho hd (x := .bool false) rfl ?_)
  rw [if_neg (by decide)]
  refine wpAny_bind (wpAny_field ho hd (x := .ref q) rfl ?_)
  unfold callOutOfASlot borrowsExactly
  refine wpAny_bind (wpAny_attempt ?_)
  refine wpAny_bind (wpAny_bind (wpAny_load hoq ?_))
  dsimp only [methodObj]
  rw [if_pos (by rfl)]
  show wpAny _ _ (load 78 >>= _) _ _ _
  refine wpAny_bind (wpAny_load hof ?_)
  rw [hdf]
  refine wpAny_pure ?_
  simp only [if_true]
  refine wpAny_callBorrowed (method_call hoq ?_)
  refine codeAny_mono (h [.ref x] rfl R s hs) ?_
  intro r s' hx
  refine hide fun G hG => ?_
  obtain ⟨v, er_, N1, hs1, c, ec, hm1, hq2, k⟩ := hx
  obtain ⟨u, eu⟩ := er_str ec
  obtain ⟨o1, ho1, hc1, hd1⟩ := hs1.get (List.mem_append_left R hm1)
  refine hG ?_
  clear hG
  subst eu
  subst er_
  dsimp only
  refine wpAny_bind (wpAny_field ho1 hd1 (x := .bool false) rfl ?_)
  rw [if_neg (by decide)]
  refine wpAny_bind (wpAny_field ho1 hd1 (x := .str "" t) rfl ?_)
  refine wpAny_bind (wpAny_holding ?_)
  have hq1 := SeqAt.EqAt.str_str (A := A.in1) (s := s') "" t c u
  refine hq1 _ _ _ _ ?_
  by_cases e0 : c = ""
  · subst e0
    rw [if_pos rfl] at k
    rw [show (("" : Str) == "") = true from beq_self_eq_true _, if_neg (by decide)]
    refine hide fun G hG => ?_
    obtain ⟨N2, hdel, qn⟩ := k
    obtain ⟨oq1, hoq1, eo1⟩ := hs1.get (List.mem_append_left R hq2)
    obtain ⟨⟨of1, hof1, hdf1⟩, _⟩ := B.f78.at_ hs1
    refine hG ?_
    clear hG
    subst eo1
    refine wpAny_bind (wpAny_rule (wpAny_bind ?_))
    refine wpAny_bind (wpAny_field ho1 hd1 (x := .ref q) rfl (wpAny_bind ?_))
    unfold slotLetsGo borrowsExactly
    refine wpAny_bind (wpAny_bind (wpAny_load hoq1 ?_))
    dsimp only [methodObj]
    rw [if_pos (by rfl)]
    show wpAny _ _ (load 78 >>= _) _ _ _
    refine wpAny_bind (wpAny_load hof1 ?_)
    rw [hdf1]
    refine wpAny_pure ?_
    simp only [if_true]
    refine wpAny_pure ?_
    refine wpAny_bind (wpAny_setField_rec' ho1 hc1 hd1 (by simp) fun h1 o2 ho2 hc2 hd2 sb1 => ?_)
    refine wpAny_bind (wpAny_setField_rec' ho2 hc2 hd2 (by simp) fun h2 o3 ho3 hc3 hd3 sb2 => ?_)
    refine wpAny_setField_rec' ho3 hc3 hd3 (by simp) fun h3 o4 ho4 hc4 hd4 sb3 => ?_
    show wpAny _ _ (newExc (.type "StopIteration") [] >>= _) _ _ _
    refine wpAny_bind ?_
    simp only [newExc, newTuple]
    refine wpAny_bind (wpAny_newObj_type ?_ (by size_fits))
    refine wpAny_bind (m := firstArgMember _ _) (wpAny_of_eq (a := Value.none) (by first | rfl | (simp only [firstArgMember]; rfl)) ?_)
    refine wpAny_newObj_type ?_ (by size_fits)
    simp only [raiseNew]
    refine wpAny_bind (wpAny_handled ?_)
    rw [show A.in1.handled = none from hr.hd]
    refine wpAny_bind (wpAny_pure (wpAny_throw ?_))
    refine wpAny_bind (wpAny_isInstance (T := "StopIteration") (b := true) ⟨_, Heap.get?_push_size _ rfl, rfl⟩ isSubtype_stop ?_)
    exact wpAny_pure ⟨N2, hs1.del (t := s'.toks) (hdel.app R) (((sb1.trans (sb2.trans sb3)).extBut.push _).push _), qn⟩
  · rw [if_neg e0] at k
    have e1 : (("" : Str) == c) = false := beq_false_of_ne fun h => e0 h.symm
    rw [e1, if_pos (by decide)]
    exact wpAny_pure ⟨_, rfl, wpAny_pure ⟨N1, hs1, k⟩⟩
end

end
section
open PySem PySem.W PyProof.Rows PySem.Calls
section
variable {C : Cx} {A : Around} {env : Env} {N N' : Led} {L : Addr} {nm : List (Str × NameKind)} {cs : List (Str × Addr)}

theorem Rp.table {s : Shared} (h : Rp C N s) {t : TbIx} (ht : t ∈ C.tabs) {h' : Heap} {tk : Nat} {c' : Addr} (htab : s.heap.TableAt t.c t.P #[]) (hx : Heap.ExtBut t.P s.heap h') (hge : s.heap.objs.size ≤ c')
    (hok' : h'.IsCode t.c t.P (#[] ++ #[rawInt t.line, rawInt t.col, .ref c'])) (htab' : h'.TableAt t.c t.P (#[] ++ #[rawInt t.line, rawInt t.col, .ref c'])) (hrec : h'.CodeRec (.ref c') t.q) :
    ∃ H, Rp' C H N { s with heap := h', toks := tk } ∧ (c', Cell.crec t.q) ∈ H := by
  have hsz := h.size
  obtain ⟨H, x⟩ := h
  obtain ⟨z1, z2, z3, ps₀, hps₀⟩ := x.low.tc t ht
  have hP2 : t.P ≠ cStatics := fun e => by have : (t.P : Nat) = 2 := e; omega
  have hP3 : mainGlobals ≠ t.P := fun e => by have : (3 : Nat) = t.P := e; omega
  have hP0 : builtinsNs ≠ t.P := fun e => by have : (0 : Nat) = t.P := e; omega
  have nP : ∀ p ∈ N ++ H, p.1 ≠ t.P := fun p hp e => by
    have h1 : (C.h₀.objs.size : Nat) ≤ p.1 := (x.at_ p hp).1
    rw [e] at h1; omega
  have hcrec : ∃ o, h'.get? c' = some o ∧ (Cell.crec t.q).Is C.w C.prog o := by
    obtain ⟨c, o, vs, tq, e, ho, hd, hv⟩ := hrec
    cases e
    exact ⟨o, ho, vs, tq, hd, hv⟩
  refine ⟨(c', .crec t.q) :: H, ⟨x.low, OldK.step_table x.old hps₀ htab htab' hx hP2, x.lim.extBut hx (Ne.symm hP2), x.g.extBut hx hP3, x.b.extBut hx hP0, ?_, ?_, ?_, ?_, x.os, x.gens⟩, List.mem_cons_self⟩
  · have hp : (N ++ (c', Cell.crec t.q) :: H).Perm ((c', Cell.crec t.q) :: (N ++ H)) := List.perm_middle
    rw [(hp.map (·.1)).nodup_iff, List.map_cons, List.nodup_cons]
    refine ⟨fun hm => ?_, x.nd⟩
    obtain ⟨p, hp, e⟩ := List.mem_map.mp hm
    obtain ⟨o, ho, _⟩ := (x.at_ p hp).2
    exact absurd (Nat.lt_of_lt_of_le (Heap.lt_size ho) (e ▸ hge)) (Nat.lt_irrefl _)
  · intro p hp
    rcases List.mem_cons.mp (List.perm_middle.mem_iff.mp hp) with rfl | hp
    · exact ⟨Nat.le_trans hsz hge, hcrec⟩
    · obtain ⟨z, o, ho, hi⟩ := x.at_ p hp
      exact ⟨z, o, hx _ _ (nP p hp) ho, hi⟩
  · intro p hp
    rcases List.mem_cons.mp (List.perm_middle.mem_iff.mp hp) with rfl | hp
    · exact trivial
    · exact (x.sup p hp).mono fun q hq => List.mem_cons_of_mem _ hq
  · intro u hu
    by_cases e : u.P = t.P
    · have eu : u = t := by
        have hn := x.low.tp
        exact nodup_inj C.tabs hn hu ht e
      subst eu
      exact ⟨_, hok', htab', .inr ⟨c', by simp, List.mem_cons_self⟩⟩
    · obtain ⟨ps, y1, y2, y3⟩ := x.tb u hu
      have hc : u.c ≠ t.P := x.low.tcp u hu t ht
      refine ⟨ps, y1.extBut hx hc e, y2.extBut hx hc e, ?_⟩
      rcases y3 with y3 | ⟨c'', e1, e2⟩
      · exact .inl y3
      · exact .inr ⟨c'', e1, List.mem_cons_of_mem _ e2⟩
where nodup_inj : ∀ (l : List TbIx), (l.map (·.P)).Nodup → ∀ {u t : TbIx}, u ∈ l → t ∈ l → u.P = t.P → u = t
  | [], _, _, _, h, _, _ => by cases h
  | p :: r, hn, u, t, hu, ht, e => by
    rw [List.map_cons, List.nodup_cons] at hn
    rcases List.mem_cons.mp hu with e1 | hu1
    · rcases List.mem_cons.mp ht with e2 | ht1
      · rw [e1, e2]
      · exact (hn.1 (List.mem_map.mpr ⟨t, ht1, by rw [← e, e1]⟩)).elim
    · rcases List.mem_cons.mp ht with e2 | ht1
      · exact (hn.1 (List.mem_map.mpr ⟨u, hu1, by rw [e, e2]⟩)).elim
      · exact nodup_inj r hn.2 hu1 ht1 e

theorem Rp'.push {H : Led} {s : Shared} (x : Rp' C H N s) {o : Obj} {c : Cell} (hf : o.isFreed = false) (hc : c.Is C.w C.prog o) (hS : c.Sup H) {t : Nat} : Rp C ((s.heap.objs.size, c) :: N) { s with heap := s.heap.push o, toks := t } := by
  have hsz := Rp.size ⟨H, x⟩
  have y := x.keep (t := t) (h' := s.heap.push o) fun _ _ e => Heap.get?_push_of_some _ e
  refine ⟨H, y.low, y.old, y.lim, y.g, y.b, ?_, ?_, fun p hp => ?_, y.tb, y.os, y.gens⟩
  · rw [List.cons_append, List.map_cons, List.nodup_cons]
    refine ⟨fun hm => ?_, y.nd⟩
    obtain ⟨p, hp, e⟩ := List.mem_map.mp hm
    obtain ⟨o, ho, _⟩ := (x.at_ p hp).2
    exact absurd (e ▸ Heap.lt_size ho) (Nat.lt_irrefl _)
  · intro p hp
    rcases List.mem_cons.mp hp with rfl | hp
    · exact ⟨hsz, o, Heap.get?_push_size _ hf, hc⟩
    · exact y.at_ p hp
  · rcases List.mem_cons.mp hp with rfl | hp
    · exact hS
    · exact y.sup p hp
theorem among_hit {pos : Pos} {line col : Nat} {c' : Value} (h1 : pos.line = line) (h2 : pos.col = col) : codeAmong pos [rawInt line, rawInt col, c'] = some c' := by
  subst h1 h2
  simp [codeAmong, rawInt]

/-- the code of a def that is made in a def -/
theorem fnCode {E : Value → Shared → Prop} {R : Led} {s : Shared} {t : TbIx} {pos : Pos} {fl : Nat} {name qn : Str} {p : Arguments} {sc : Scope} {bd : FuncBody} {Q : Value → Shared → Prop} (hs : Rp C (N ++ R) s) (ht : t ∈ C.tabs) (hc : env.code = .ref t.c) (h1 : pos.line = t.line) (h2 : pos.col = t.col) (hq : qn = t.q)
    (h : ∀ c' s' H, Rp' C H (N ++ R) s' → (c', Cell.crec t.q) ∈ H → Q (.ref c') s') : wpAny (model C.prog C.w) A (functionCode env pos fl name qn p sc bd) Q E s := by
  obtain ⟨H, x⟩ := id hs
  obtain ⟨ps, y1, y2, y3⟩ := x.tb t ht
  rcases y3 with rfl | ⟨c', rfl, hm⟩
  · subst hq
    refine wpAny_functionCodeX hc y1 y2 (by rfl) fun c' h' tk hx hge _ hok' hrec htab' _ => ?_
    rw [h1, h2] at hok' htab'
    obtain ⟨H', x', m'⟩ := hs.table ht (tk := tk) y2 hx hge hok' htab' hrec
    exact h c' _ H' x' m'
  · exact wpAny_functionCode_hit hc y1 (among_hit h1 h2) (h c' s H x hm)
theorem geCode {E : Value → Shared → Prop} {R : Led} {s : Shared} {t : TbIx} {pos : Pos} {qn : Str} {sc : Scope} {Q : Value → Shared → Prop} (hs : Rp C (N ++ R) s) (ht : t ∈ C.tabs) (hc : env.code = .ref t.c) (h1 : pos.line = t.line) (h2 : pos.col = t.col) (hq : qn = t.q)
    (h : ∀ c' s' H, Rp' C H (N ++ R) s' → (c', Cell.crec t.q) ∈ H → (∀ p ∈ N ++ R, ∀ o, s.heap.get? p.1 = some o → s'.heap.get? p.1 = some o) → s.heap.objs.size ≤ s'.heap.objs.size → s'.gens = s.gens → Q (.ref c') s') : wpAny (model C.prog C.w) A (genexprCode env pos qn sc) Q E s := by
  obtain ⟨H, x⟩ := id hs
  obtain ⟨ps, y1, y2, y3⟩ := x.tb t ht
  rcases y3 with rfl | ⟨c', rfl, hm⟩
  · subst hq
    refine wpAny_genexprCodeX hc y1 y2 (by rfl) fun c' h' tk hx hge hlt hok' hrec htab' _ => ?_
    rw [h1, h2] at hok' htab'
    obtain ⟨H', x', m'⟩ := hs.table ht (tk := tk) y2 hx hge hok' htab' hrec
    refine h c' _ H' x' m' (fun p hp o ho => hx _ _ (fun e => ?_) ho) (Nat.le_of_lt (Nat.lt_of_le_of_lt hge hlt)) rfl
    obtain ⟨z1, z2, z3, _⟩ := x.low.tc t ht
    have h1 : (C.h₀.objs.size : Nat) ≤ p.1 := (x.at_ p (List.mem_append_left _ hp)).1
    rw [e] at h1; omega
  · exact wpAny_genexprCode_hit hc y1 (among_hit h1 h2) (h c' s H x hm (fun _ _ _ e => e) (Nat.le_refl _) rfl)

/-- a def in a def, with one cell of the outer one -/
theorem SX.def {t : TbIx} {name : Str} {params : Arguments} {body : List Stmt} {scope : Scope} {pos : Pos} {names : List (Str × NameKind)} {cx : Str × Addr} {Q : Fl → Led → Prop}
    (he : EnvOk env L nm cs) (ht : t ∈ C.tabs) (hc : env.code = .ref t.c) (hqu : env.qual ++ name = t.q) (hn : scope.names = names) (hclos : clsN cs names [] = some [cx]) (hk : nm.lookup name = some .local)
    (hb : C.h₀.BuiltinsAt C.mg t.P)
    (h : ∀ f ct pm code, STO C A env name (.ref f) (fun N1 => Q .next N1) ((f, .fnc { name, qualname := t.q, params, body := .stmts body, scope, globals := mainGlobals, closure := [cx], closureTuple := ct, code, builtins := builtinsNs, defaults := .none, kwdefaults := .none, annotations := none, pyModule := pm, doc := .none }) :: N))
    (h1 : pos.line = t.line) (h2 : pos.col = t.col) (hdoc : docOf body = none := by rfl) (hex : PlainDefTree name params body scope pos := by intro _; rfl) :
    SX C A env (.FunctionDef name params body [] none [] scope none name pos) Q N := fun R s hs => by
  have hqn : qualnameIn env name name = t.q := by
    unfold qualnameIn Env.kindOf
    rw [he.names, hk, if_neg (by decide)]; exact hqu
  show wpAny _ _ (exec _ env) _ _ _
  rw [hex, hqn]
  refine wpAny_bind (wpAny_standAt (wpAny_bind (wpAny_holding ?_)))
  simp only [makeFunction, List.zip_nil_right, List.filterMap_nil, List.isEmpty_nil, if_true, pure_bind, closureFor_cls he hn hclos, hdoc, List.isEmpty_cons, Bool.false_eq_true, if_false]
  refine wpAny_bind (wpAny_newTextTuple ?_)
  have hs1 := hs.keep (t := s.toks) (h' := s.heap.push { cls := .type "tuple", data := .seq (List.map (fun x => Value.ref x.2) (List.mergeSort [cx] fun a b => decide (a.1.cps.toList ≤ b.1.cps.toList))).toArray }) fun _ _ e => Heap.get?_push_of_some _ e
  refine wpAny_bind (fnCode hs1 ht hc h1 h2 rfl fun c' s2 H x2 hm => ?_)
  obtain ⟨bm, o, hbm, hne0, _, hneP, hbo, hcls, hdict, hdata⟩ := hb
  have hbo' := x2.old.get_of_cls hbo (by rw [hcls]; exact nofun)
  refine wpAny_bind (wpAny_builtinsFor (by rw [he.glob]; exact x2.g) hbm hne0 hbo' hcls hdict hdata ?_)
  refine wpAny_bind (wpAny_nsGet (by rw [he.glob]; exact x2.g) ?_)
  rw [he.glob]
  refine wpAny_newObj_type ?_ (by size_fits)
  have hs3 := x2.push (t := s2.toks) (o := { cls := .type "function", data := .func { name, qualname := t.q, params, body := .stmts body, scope, globals := mainGlobals, closure := [cx], closureTuple := .ref s.heap.objs.size, code := .ref c', builtins := builtinsNs, defaults := .none, kwdefaults := .none, annotations := none, pyModule := (C.mg "__name__").getD .none, doc := .none } })
    (c := .fnc { name, qualname := t.q, params, body := .stmts body, scope, globals := mainGlobals, closure := [cx], closureTuple := .ref s.heap.objs.size, code := .ref c', builtins := builtinsNs, defaults := .none, kwdefaults := .none, annotations := none, pyModule := (C.mg "__name__").getD .none, doc := .none }) rfl ⟨rfl, rfl⟩ ⟨c', rfl, hm⟩
  refine wpAny_bind (wpAny_standAt (wpAny_bind (wpAny_bindName (wm (h _ _ _ _ _ rfl R _ hs3) fun _ s4 q => wpAny_pure q))))
end

end
section
open PySem PySem.W PyProof.Rows PySem.Calls

section
variable {prog : Program} {w : World} {A : Around} {E : Value → Shared → Prop} {s : Shared}

/-- a turn of a tuple's iterator, as a built-in takes it -/
theorem tup_draw {it t : Addr} {i : Nat} {items : Array Value} {x : Value} {Q : Value → Shared → Prop} (hit : s.heap.IsTupleIter it t i) (ht : s.heap.IsTuple t items) (hx : items[i]? = some x)
    (hQ : ∀ h', h'.IsTupleIter it t (i + 1) → Heap.SameBut it s.heap h' → Q x { s with heap := h' }) : wpAny (model prog w) A (Builtin.SmallTypes.nextOf (.ref it)) Q E s := by
  obtain ⟨o, ho, hc, hd⟩ := id hit
  obtain ⟨ol, hol, _, nl, hdl⟩ := ht
  unfold Builtin.SmallTypes.nextOf
  refine wpAny_bind (wpAny_callSpecial?_slot (name := Str.ofString "__next__") hit.typeIs F.slot_tuple_iterator_next
    (wpAny_call_entry F.slot_tuple_iterator_next hit.typeIs F.entry_tuple_iterator_next ?_ (F.args_tuple_iterator_next_1 _)))
  show wpAny _ _ (field (.ref it) 0 >>= _) _ _ s
  refine wpAny_bind (wpAny_field ho hd (x := .ref t) rfl ?_)
  show wpAny _ _ (if (Value.ref t == Value.none) = true then _ else _) _ _ s
  rw [if_neg (show ¬ ((Value.ref t == Value.none) = true) from Bool.false_ne_true)]
  show wpAny _ _ (field (.ref it) 1 >>= _) _ _ s
  refine wpAny_bind (wpAny_field ho hd (x := .int i 0) rfl ?_)
  show wpAny _ _ (seqItems? (.ref t) >>= _) _ _ s
  refine wpAny_bind (wpAny_seqItems hol hdl ?_)
  simp only [Int.toNat_natCast, hx]
  refine wpAny_bind (wpAny_setField ho hd (by simp) (wpAny_pure ⟨x, rfl, wpAny_pure (hQ _ ?_ (Heap.SameBut.update ..))⟩))
  exact ⟨_, Heap.get?_update_self _ ho (Obj.isFreed_of_fields (Obj.data_mapFields hd _)), (Obj.cls_mapFields ..).trans hc, by
    rw [Obj.data_mapFields hd]; simp [rawInt]⟩
theorem tup_drawEnd {it t : Addr} {i : Nat} {items : Array Value} {Q : Value → Shared → Prop} (hh : A.handled = none) (hit : s.heap.IsTupleIter it t i) (ht : s.heap.IsTuple t items) (hx : items[i]? = none)
    (hE : ∀ h' e, Heap.ExtBut it s.heap h' → (∃ o, h'.get? e = some o ∧ o.cls = .type "StopIteration") → E (.ref e) { s with heap := h' }) : wpAny (model prog w) A (Builtin.SmallTypes.nextOf (.ref it)) Q E s := by
  obtain ⟨o, ho, hc, hd⟩ := id hit
  obtain ⟨ol, hol, _, nl, hdl⟩ := ht
  unfold Builtin.SmallTypes.nextOf
  refine wpAny_bind (wpAny_callSpecial?_slot (name := Str.ofString "__next__") hit.typeIs F.slot_tuple_iterator_next
    (wpAny_call_entry F.slot_tuple_iterator_next hit.typeIs F.entry_tuple_iterator_next ?_ (F.args_tuple_iterator_next_1 _)))
  show wpAny _ _ (field (.ref it) 0 >>= _) _ _ s
  refine wpAny_bind (wpAny_field ho hd (x := .ref t) rfl ?_)
  show wpAny _ _ (if (Value.ref t == Value.none) = true then _ else _) _ _ s
  rw [if_neg (show ¬ ((Value.ref t == Value.none) = true) from Bool.false_ne_true)]
  show wpAny _ _ (field (.ref it) 1 >>= _) _ _ s
  refine wpAny_bind (wpAny_field ho hd (x := .int i 0) rfl ?_)
  show wpAny _ _ (seqItems? (.ref t) >>= _) _ _ s
  refine wpAny_bind (wpAny_seqItems hol hdl ?_)
  simp only [Int.toNat_natCast, hx]
  refine wpAny_bind (wpAny_rule (wpAny_bind (wpAny_setField ho hd (by simp) ?_)))
  show wpAny _ _ (newExc (.type "StopIteration") [] >>= _) _ _ _
  refine wpAny_bind ?_
  simp only [newExc, newTuple]
  refine wpAny_bind (wpAny_newObj_type ?_ (by size_fits))
  refine wpAny_bind (m := firstArgMember _ _) (wpAny_of_eq (a := Value.none) (by first | rfl | (simp only [firstArgMember]; rfl)) ?_)
  refine wpAny_newObj_type ?_ (by size_fits)
  simp only [raiseNew]
  refine wpAny_bind (wpAny_handled ?_)
  first | rw [show A.in1.handled = none from hh] | rw [hh]
  refine wpAny_bind (wpAny_pure (wpAny_throw ?_))
  exact hE _ _ (((Heap.SameBut.update ..).extBut.push _).push _) ⟨_, Heap.get?_push_size _ rfl, rfl⟩

noncomputable def ZSt (z TI TO i1 i2 l1 l2 : Addr) (xs ys : Array Value) (f0 : Value) (i : Nat) (h : Heap) : Prop :=
  IsZip h z TI TO f0 ∧ IsPair h TI (.ref i1) (.ref i2) ∧ (∃ a b, IsPair h TO a b) ∧ h.IsTupleIter i1 l1 i ∧ h.IsTupleIter i2 l2 i ∧ h.IsTuple l1 xs ∧ h.IsTuple l2 ys

theorem tupIter_at {h h' : Heap} {a t : Addr} {i : Nat} (x : h.IsTupleIter a t i) (k : ∀ o, h.get? a = some o → h'.get? a = some o) : h'.IsTupleIter a t i := let ⟨o, ho, r⟩ := x; ⟨o, k o ho, r⟩
theorem tup_at {h h' : Heap} {a : Addr} {xs : Array Value} (x : h.IsTuple a xs) (k : ∀ o, h.get? a = some o → h'.get? a = some o) : h'.IsTuple a xs := let ⟨o, ho, r⟩ := x; ⟨o, k o ho, r⟩

theorem zipT_item {z TI TO i1 i2 l1 l2 : Addr} {k : Nat} {xs ys : Array Value} {x y : Value} {Q : Option Value → Shared → Prop} (D : ZipApart z TI TO i1 i2 l1 l2)
    (st : ZSt z TI TO i1 i2 l1 l2 xs ys .none k s.heap) (hx : xs[k]? = some x) (hy : ys[k]? = some y)
    (hQ : ∀ h', ZSt z TI TO i1 i2 l1 l2 xs ys (rawInt s.heap.objs.size) (k + 1) h' → IsPair h' s.heap.objs.size x y →
      (∀ c o, c ≠ z → c ≠ TO → c ≠ i1 → c ≠ i2 → s.heap.get? c = some o → h'.get? c = some o) → Q (some (.ref s.heap.objs.size)) { s with heap := h' }) :
    wpAny (model prog w) A (pyNext (.ref z)) Q E s := by
  obtain ⟨hz, hTI, ⟨a, b, hTO⟩, h1, h2, hl1, hl2⟩ := st
  have hT : s.TypeIs (.ref z) "zip" := ⟨_, hz, rfl⟩
  unfold pyNext
  refine wpAny_bind (wpAny_attempt (wpAny_callSpecial?_slot (name := Str.ofString "__next__") hT F.slot_zip_next
    (wpAny_call_entry F.slot_zip_next hT F.entry_zip_next ?_ (F.args_zip_next_1 _))))
  show wpAny _ _ (field (.ref z) 2 >>= _) _ _ _
  refine wpAny_bind (wpAny_field hz rfl (x := .bool false) rfl ?_)
  show wpAny _ _ (field (.ref z) 3 >>= _) _ _ _
  refine wpAny_bind (wpAny_field hz rfl (x := .ref TI) rfl ?_)
  refine wpAny_bind (wpAny_seqItems hTI rfl ?_)
  show wpAny _ _ (Builtin.SmallTypes.ownedTupleIsFree (.ref z) >>= _) _ _ _
  refine wpAny_bind ?_
  unfold Builtin.SmallTypes.ownedTupleIsFree
  refine wpAny_bind (wpAny_field hz rfl (x := .none) rfl (wpAny_pure ?_))
  simp only [if_true]
  refine wpAny_bind (wpAny_rule ?_)
  refine wpAny_bind (wpAny_field hz rfl (x := .ref TO) rfl ?_)
  refine wpAny_bind (wpAny_setField_rec hz (by simp) fun g1 hz1 b1 => ?_)
  replace hz1 : IsZip g1 z TI TO .ellipsis := hz1
  refine wpAny_bind ?_
  simp only [List.zipIdx_cons, List.zipIdx_nil, List.forIn_cons, List.forIn_nil]
  refine wpAny_bind (wpAny_bind (wpAny_onRaise ?_))
  show wpAny _ _ (Builtin.SmallTypes.nextOf (.ref i1) >>= _) _ _ _
  refine wpAny_bind (tup_draw (h1.extBut b1.extBut D.i1z) (hl1.extBut b1.extBut D.l1z) hx fun g2 j1 b2 => wpAny_pure ?_)
  have t2 : IsPair g2 TO a b := b2.extBut _ _ D.TOi1 (b1.extBut _ _ D.TOz hTO)
  refine wpAny_bind (wpAny_seqItems t2 rfl ?_)
  refine wpAny_bind (wpAny_updateSeq_pair t2 fun g3 t3 b3 => ?_)
  replace t3 : IsPair g3 TO x b := t3
  refine wpAny_bind (wpAny_letGo (wpAny_pure ?_))
  refine wpAny_bind (wpAny_bind (wpAny_onRaise ?_))
  show wpAny _ _ (Builtin.SmallTypes.nextOf (.ref i2) >>= _) _ _ _
  refine wpAny_bind (tup_draw (((h2.extBut b1.extBut D.i2z).extBut b2.extBut D.i12.symm).extBut b3.extBut D.TOi2.symm)
    (((hl2.extBut b1.extBut D.l2z).extBut b2.extBut D.l2i1).extBut b3.extBut D.l2TO) hy fun g4 j2 b4 => wpAny_pure ?_)
  have t4 : IsPair g4 TO x b := b4.extBut _ _ D.TOi2 t3
  refine wpAny_bind (wpAny_seqItems t4 rfl ?_)
  refine wpAny_bind (wpAny_updateSeq_pair t4 fun g5 t5 b5 => ?_)
  replace t5 : IsPair g5 TO x y := t5
  refine wpAny_bind (wpAny_letGo (wpAny_pure (wpAny_pure ?_)))
  refine wpAny_bind (wpAny_seqItems t5 rfl ?_)
  refine wpAny_bind (wpAny_newTuple ?_)
  have hsz : g5.objs.size = s.heap.objs.size := by rw [b5.1, b4.1, b3.1, b2.1, b1.1]
  have hz5 : IsZip g5 z TI TO .ellipsis := b5.extBut _ _ D.TOz.symm (b4.extBut _ _ D.i2z.symm (b3.extBut _ _ D.TOz.symm (b2.extBut _ _ D.i1z.symm hz1)))
  have k5 : ∀ c o, c ≠ z → c ≠ TO → c ≠ i1 → c ≠ i2 → s.heap.get? c = some o → g5.get? c = some o := fun c o c1 c2 c3 c4 e =>
    b5.extBut _ _ c2 (b4.extBut _ _ c4 (b3.extBut _ _ c2 (b2.extBut _ _ c3 (b1.extBut _ _ c1 e))))
  have j1' : g5.IsTupleIter i1 l1 (k + 1) := ((j1.extBut b3.extBut D.TOi1.symm).extBut b4.extBut D.i12).extBut b5.extBut D.TOi1.symm
  have j2' : g5.IsTupleIter i2 l2 (k + 1) := j2.extBut b5.extBut D.TOi2.symm
  have zlt : z < g5.objs.size := Heap.lt_size hz5
  show wpAny _ _ (Builtin.SmallTypes.ownedTupleHandOut (.ref z) (.ref g5.objs.size) >>= _) _ _ _
  refine wpAny_bind ?_
  unfold Builtin.SmallTypes.ownedTupleHandOut
  have hz6 : IsZip (g5.push { cls := .type "tuple", data := .seq #[x, y] }) z TI TO .ellipsis := Heap.get?_push_of_some _ hz5
  refine wpAny_bind (wpAny_setField_rec hz6 (by simp) fun g7 hz7 b7 => ?_)
  replace hz7 : IsZip g7 z TI TO (rawInt g5.objs.size) := hz7
  refine wpAny_setField_rec hz7 (by simp) fun g8 hz8 b8 => ?_
  replace hz8 : IsZip g8 z TI TO (rawInt g5.objs.size) := hz8
  have up : ∀ c o, c ≠ z → g5.get? c = some o → g8.get? c = some o := fun c o c1 e => b8.extBut _ _ c1 (b7.extBut _ _ c1 (Heap.get?_push_of_some _ e))
  have tn : IsPair g8 g5.objs.size x y := b8.extBut _ _ (Nat.ne_of_gt zlt) (b7.extBut _ _ (Nat.ne_of_gt zlt) (Heap.get?_push_size _ rfl))
  rw [hsz] at hz8 tn
  refine wpAny_pure ⟨_, rfl, wpAny_pure ?_⟩
  show Q (some (.ref g5.objs.size)) _
  rw [hsz]
  exact hQ g8 ⟨hz8, up _ _ D.TIz (k5 _ _ D.TIz D.TITO D.TIi1 D.TIi2 hTI), ⟨_, _, up _ _ D.TOz t5⟩, tupIter_at j1' fun o e => up _ o D.i1z e, tupIter_at j2' fun o e => up _ o D.i2z e,
    tup_at hl1 fun o e => up _ o D.l1z (k5 _ o D.l1z D.l1TO D.l1i1 D.l1i2 e), tup_at hl2 fun o e => up _ o D.l2z (k5 _ o D.l2z D.l2TO D.l2i1 D.l2i2 e)⟩ tn
    fun c o c1 c2 c3 c4 e => up c o c1 (k5 c o c1 c2 c3 c4 e)

theorem zipT_end {z TI TO i1 i2 l1 l2 : Addr} {k : Nat} {xs ys : Array Value} {Q : Option Value → Shared → Prop} (hh : A.handled = none) (D : ZipApart z TI TO i1 i2 l1 l2)
    (st : ZSt z TI TO i1 i2 l1 l2 xs ys .none k s.heap) (hx : xs[k]? = none)
    (hQ : ∀ h', (∀ c o, c ≠ z → c ≠ TO → c ≠ i1 → c ≠ i2 → s.heap.get? c = some o → h'.get? c = some o) → Q none { s with heap := h' }) :
    wpAny (model prog w) A (pyNext (.ref z)) Q E s := by
  obtain ⟨hz, hTI, ⟨a, b, hTO⟩, h1, h2, hl1, hl2⟩ := st
  have hT : s.TypeIs (.ref z) "zip" := ⟨_, hz, rfl⟩
  unfold pyNext
  refine wpAny_bind (wpAny_attempt (wpAny_callSpecial?_slot (name := Str.ofString "__next__") hT F.slot_zip_next
    (wpAny_call_entry F.slot_zip_next hT F.entry_zip_next ?_ (F.args_zip_next_1 _))))
  show wpAny _ _ (field (.ref z) 2 >>= _) _ _ _
  refine wpAny_bind (wpAny_field hz rfl (x := .bool false) rfl ?_)
  show wpAny _ _ (field (.ref z) 3 >>= _) _ _ _
  refine wpAny_bind (wpAny_field hz rfl (x := .ref TI) rfl ?_)
  refine wpAny_bind (wpAny_seqItems hTI rfl ?_)
  show wpAny _ _ (Builtin.SmallTypes.ownedTupleIsFree (.ref z) >>= _) _ _ _
  refine wpAny_bind ?_
  unfold Builtin.SmallTypes.ownedTupleIsFree
  refine wpAny_bind (wpAny_field hz rfl (x := .none) rfl (wpAny_pure ?_))
  simp only [if_true]
  refine wpAny_bind (wpAny_rule ?_)
  refine wpAny_bind (wpAny_field hz rfl (x := .ref TO) rfl ?_)
  refine wpAny_bind (wpAny_setField_rec hz (by simp) fun g1 hz1 b1 => ?_)
  replace hz1 : IsZip g1 z TI TO .ellipsis := hz1
  refine wpAny_bind ?_
  simp only [List.zipIdx_cons, List.zipIdx_nil, List.forIn_cons, List.forIn_nil]
  refine wpAny_bind (wpAny_bind (wpAny_onRaise ?_))
  show wpAny _ _ (Builtin.SmallTypes.nextOf (.ref i1) >>= _) _ _ _
  refine wpAny_bind (tup_drawEnd (A := A.in1) hh (h1.extBut b1.extBut D.i1z) (hl1.extBut b1.extBut D.l1z) hx fun g2 e b2 he => ?_)
  obtain ⟨oe, hoe, hce⟩ := he
  have hz2 : IsZip g2 z TI TO .ellipsis := b2 _ _ D.i1z.symm hz1
  have hez : e ≠ z := fun x => by subst x; rw [hz2] at hoe; cases hoe; simp at hce
  refine wpAny_setField_rec hz2 (by simp) fun g3 _ b3 => ?_
  refine wpAny_bind (wpAny_isInstance (T := "StopIteration") (b := true) ⟨oe, b3.extBut _ _ hez hoe, hce⟩ isSubtype_stop ?_)
  exact wpAny_pure (hQ _ fun c o c1 _ c3 _ x => b3.extBut _ _ c1 (b2 _ _ c3 (b1.extBut _ _ c1 x)))
theorem zipT_walks (hh : A.handled = none) (z TI TO i1 i2 l1 l2 : Addr) (D : ZipApart z TI TO i1 i2 l1 l2) (xs ys : Array Value) (hsz : xs.size = ys.size) :
    WalksU prog w A z [z, TI, TO, i1, i2, l1, l2] [z, TO, i1, i2] xs.size (fun i vals => ∃ x y, xs[i]? = some x ∧ ys[i]? = some y ∧ vals = #[x, y])
      (fun i h => ZSt z TI TO i1 i2 l1 l2 xs ys .none i h) (fun i T h => ZSt z TI TO i1 i2 l1 l2 xs ys (rawInt T) (i + 1) h ∧ T ≠ z ∧ T ≠ TO ∧ T ≠ i1 ∧ T ≠ i2) where
  sub := fun c hc => by simp at hc ⊢; rcases hc with rfl | rfl | rfl | rfl <;> simp
  frame := fun i h h' st hk => by
    obtain ⟨hz, hTI, ⟨a, b, hTO⟩, h1, h2, hl1, hl2⟩ := st
    exact ⟨hk z (by simp) _ hz, hk TI (by simp) _ hTI, ⟨a, b, hk TO (by simp) _ hTO⟩, tupIter_at h1 fun o e => hk i1 (by simp) o e, tupIter_at h2 fun o e => hk i2 (by simp) o e,
      tup_at hl1 fun o e => hk l1 (by simp) o e, tup_at hl2 fun o e => hk l2 (by simp) o e⟩
  item := fun i s Q E hi st hQ => by
    have st' := st
    obtain ⟨hz, hTI, ⟨a, b, hTO⟩, h1, h2, hl1, hl2⟩ := st'
    have lt : ∀ {c o}, s.heap.get? c = some o → s.heap.objs.size ≠ c := fun e => Nat.ne_of_gt (Heap.lt_size e)
    refine zipT_item D st (Array.getElem?_eq_getElem hi) (Array.getElem?_eq_getElem (hsz ▸ hi)) fun h' st2 tn hk => ?_
    exact hQ s.heap.objs.size #[xs[i], ys[i]'(hsz ▸ hi)] h' s.toks ⟨_, _, Array.getElem?_eq_getElem hi, Array.getElem?_eq_getElem (hsz ▸ hi), rfl⟩ ⟨_, tn, rfl, _, rfl⟩
      ⟨st2, lt hz, lt hTO, (by obtain ⟨_, e, _⟩ := h1; exact lt e), (by obtain ⟨_, e, _⟩ := h2; exact lt e)⟩
      fun c o hc e => hk c o (fun x => hc (by simp [x])) (fun x => hc (by simp [x])) (fun x => hc (by simp [x])) (fun x => hc (by simp [x])) e
  go := fun elts k pos i T s Q E hm hQ => by
    obtain ⟨⟨hz, hTI, ⟨a, b, hTO⟩, h1, h2, hl1, hl2⟩, _⟩ := hm
    refine wpAny_letOwnedTupleGo_zip hz fun h' hz' hs' => hQ h' ⟨hz', hs'.extBut _ _ D.TIz hTI, ⟨a, b, hs'.extBut _ _ D.TOz hTO⟩, h1.extBut hs'.extBut D.i1z, h2.extBut hs'.extBut D.i2z,
      hl1.extBut hs'.extBut D.l1z, hl2.extBut hs'.extBut D.l2z⟩ fun c o hc e => hs'.extBut _ _ (fun x => hc (by simp [x])) e
  apart := fun i T h hm hT => by
    obtain ⟨_, t1, t2, t3, t4⟩ := hm
    simp at hT
    rcases hT with rfl | rfl | rfl | rfl
    · exact t1 rfl
    · exact t2 rfl
    · exact t3 rfl
    · exact t4 rfl
  done := fun s Q E st hQ => zipT_end hh D st (Array.getElem?_eq_none (Nat.le_refl _)) fun h' hk => hQ h' s.toks fun c o hc e =>
      hk c o (fun x => hc (by simp [x])) (fun x => hc (by simp [x])) (fun x => hc (by simp [x])) (fun x => hc (by simp [x])) e
  self := fun i s Q E st hQ => wpAny_pyIter_zip st.1 hQ
end

end
section
open PySem PySem.W PyProof.Rows PySem.Calls

theorem tupIs_new {h : Heap} {a : Addr} {xs : Array Value} {n : Nat} (e : h.get? a = some { cls := .type "tuple", data := .seq xs n }) : h.IsTuple a xs := ⟨_, e, rfl, n, rfl⟩
noncomputable abbrev zT1 (h : Heap) (l1 : Addr) : Heap := h.push { cls := .type "tuple_iterator", data := .fields #[.ref l1, .int 0 0] }
noncomputable abbrev zT2 (h : Heap) (l1 l2 : Addr) : Heap := (zT1 h l1).push { cls := .type "tuple_iterator", data := .fields #[.ref l2, .int 0 0] }
noncomputable abbrev zT3 (h : Heap) (l1 l2 : Addr) : Heap := (zT2 h l1 l2).push { cls := .type "tuple", data := .seq #[.ref h.objs.size, .ref (zT1 h l1).objs.size] }
noncomputable abbrev zT4 (h : Heap) (l1 l2 : Addr) : Heap := (zT3 h l1 l2).push { cls := .type "tuple", data := .seq #[.none, .none] }
noncomputable abbrev zT5 (h : Heap) (l1 l2 : Addr) : Heap := (zT4 h l1 l2).push { cls := .type "zip", data := .fields #[.none, .bool false, .bool false, .ref (zT2 h l1 l2).objs.size, .ref (zT3 h l1 l2).objs.size] }

theorem meets_zipT (l1 l2 : Addr) (xs ys : Array Value) :
    Meets (Builtin.«zip.__new__» ⟨[.type "zip", .ref l1, .ref l2], []⟩) (fun _ R s => s.heap.IsTuple l1 xs ∧ s.heap.IsTuple l2 ys ∧
      R (.ok (.ret (.ref (zT4 s.heap l1 l2).objs.size))) { s with heap := zT5 s.heap l1 l2 }) :=
  .of_wp fun prog w A R s h => by
    obtain ⟨hp, g, d, tk, os⟩ := s; obtain ⟨hl1, hl2, h⟩ := h
    have hsub := sub_zip
    have hL1 : Heap.IsTuple (Shared.heap ⟨hp, g, d, tk, os⟩) l1 xs := hl1
    have hL2 : Heap.IsTuple (Shared.heap ⟨hp.push { cls := .type "tuple_iterator", data := .fields #[.ref l1, .int 0 0] }, g, d, tk, os⟩) l2 ys := Heap.IsTuple.push hl2 _
    wp_walk using wpAny_pyIter_tuple hL1, wpAny_pyIter_tuple hL2
    exact ⟨_, rfl, h⟩
section
variable {prog : Program} {w : World} {A : Around} {E : Value → Shared → Prop} {s : Shared}
theorem call_zipT {l1 l2 : Addr} {xs ys : Array Value} {Q : Value → Shared → Prop} (hl1 : s.heap.IsTuple l1 xs) (hl2 : s.heap.IsTuple l2 ys)
    (h : ∀ h' z TI TO i1 i2, ZipApart z TI TO i1 i2 l1 l2 → ZSt z TI TO i1 i2 l1 l2 xs ys .none 0 h' → (∀ c o, s.heap.get? c = some o → h'.get? c = some o) → s.heap.objs.size ≤ z → s.heap.objs.size ≤ TI → s.heap.objs.size ≤ TO → s.heap.objs.size ≤ i1 → s.heap.objs.size ≤ i2 → Q (.ref z) { s with heap := h' }) :
    wpAny (model prog w) A (call (.type "zip") [.ref l1, .ref l2]) Q E s := by
  refine callType_new F.called_zip (by decide) (F.typeCall_zip_2 _ _) (F.newCall_zip_2 _ _) (fun obj => F.args_object_init_3 obj _ _) F.entry_zip_new (meets_zipT l1 l2 xs ys) ⟨hl1, hl2, ?_⟩
  have z1 : (zT1 s.heap l1).objs.size = s.heap.objs.size + 1 := Heap.size_push ..
  have z2 : (zT2 s.heap l1 l2).objs.size = s.heap.objs.size + 2 := by rw [Heap.size_push, z1]
  have z3 : (zT3 s.heap l1 l2).objs.size = s.heap.objs.size + 3 := by rw [Heap.size_push, z2]
  have z4 : (zT4 s.heap l1 l2).objs.size = s.heap.objs.size + 4 := by rw [Heap.size_push, z3]
  have g5 : (zT5 s.heap l1 l2).get? (zT4 s.heap l1 l2).objs.size = some _ := Heap.get?_push_size _ rfl
  have g4 : (zT5 s.heap l1 l2).get? (zT3 s.heap l1 l2).objs.size = some _ := Heap.get?_push_of_some _ (Heap.get?_push_size _ rfl)
  have g3 : (zT5 s.heap l1 l2).get? (zT2 s.heap l1 l2).objs.size = some _ := Heap.get?_push_of_some _ (Heap.get?_push_of_some _ (Heap.get?_push_size _ rfl))
  have g2 : (zT5 s.heap l1 l2).get? (zT1 s.heap l1).objs.size = some _ := Heap.get?_push_of_some _ (Heap.get?_push_of_some _ (Heap.get?_push_of_some _ (Heap.get?_push_size _ rfl)))
  have g1 : (zT5 s.heap l1 l2).get? s.heap.objs.size = some _ := Heap.get?_push_of_some _ (Heap.get?_push_of_some _ (Heap.get?_push_of_some _ (Heap.get?_push_of_some _ (Heap.get?_push_size _ rfl))))
  rw [z2, z3, z4] at g5
  rw [z1, z2] at g3
  rw [z3] at g4
  rw [z1] at g2
  show _ ∧ _
  rw [z4]
  have old : ∀ c o, s.heap.get? c = some o → (zT5 s.heap l1 l2).get? c = some o := fun c o x =>
    Heap.get?_push_of_some _ (Heap.get?_push_of_some _ (Heap.get?_push_of_some _ (Heap.get?_push_of_some _ (Heap.get?_push_of_some _ x))))
  have a1 : l1 < s.heap.objs.size := by obtain ⟨_, e, _⟩ := hl1; exact Heap.lt_size e
  have a2 : l2 < s.heap.objs.size := by obtain ⟨_, e, _⟩ := hl2; exact Heap.lt_size e
  exact ⟨⟨_, g5, rfl⟩, h _ _ _ _ _ _ (zipApart_new a1 a2) ⟨g5, g3, ⟨_, _, g4⟩, ⟨_, g1, rfl, rfl⟩, ⟨_, g2, rfl, rfl⟩, tup_at hl1 (fun o => old _ o), tup_at hl2 (fun o => old _ o)⟩ old
    (Nat.le_add_right _ 4) (Nat.le_add_right _ 2) (Nat.le_add_right _ 3) (Nat.le_refl _) (Nat.le_add_right _ 1)⟩
end

section
variable {C : Cx} {A : Around} {env : Env} {N M R : Led} {L a b : Addr} {nm : List (Str × NameKind)} {cs : List (Str × Addr)} {s : Shared} {Q : V → Led → Prop}

/-- some cells go, others stay -/
theorem Rp.dels (h : Rp C (M ++ N) s) {h' : Heap} {t : Nat} {g : Array GenState} (hk : ∀ b o, b ∉ M.map (·.1) → s.heap.get? b = some o → h'.get? b = some o) (hg : AllBare g) : Rp C N { s with heap := h', toks := t, gens := g } := by
  obtain ⟨l1, l2, l3⟩ := low3 h.low
  obtain ⟨H, x⟩ := h
  have nM : ∀ b : Addr, b < C.h₀.objs.size → b ∉ M.map (·.1) := fun b hb hm => by
    obtain ⟨p, hp, e⟩ := List.mem_map.mp hm
    have : (C.h₀.objs.size : Nat) ≤ p.1 := (x.at_ p (List.mem_append_left _ (List.mem_append_left _ hp))).1
    rw [e] at this
    exact absurd (Nat.lt_of_lt_of_le hb this) (Nat.lt_irrefl _)
  have k : ∀ b o, b < C.h₀.objs.size → s.heap.get? b = some o → h'.get? b = some o := fun b o hb e => hk b o (nM b hb) e
  have nd' : ∀ p ∈ N ++ H, p.1 ∉ M.map (·.1) := by
    have := x.nd
    rw [List.append_assoc, List.map_append, List.nodup_append] at this
    intro p hp hm
    exact this.2.2 p.1 hm p.1 (List.mem_map_of_mem hp) rfl
  have sub : ∀ p ∈ N ++ H, p ∈ (M ++ N) ++ H := fun p hp => by rw [List.append_assoc]; exact List.mem_append_right _ hp
  refine ⟨H, x.low, ⟨fun b o e => ?_, fun b o e => ?_⟩, ?_, ?_, ?_, ?_, fun p hp => ?_, fun p hp => x.sup p (sub p hp), fun u hu => ?_, x.os, hg⟩
  · have hb := Heap.lt_size e
    rcases x.old.old b o e with y | ⟨t, hc, vs, more, hv, y⟩ | ⟨rfl, hc, ⟨o', es, n, ho', r⟩, z⟩
    · exact .inl (k _ _ hb y)
    · exact .inr (.inl ⟨t, hc, vs, more, hv, k _ _ hb y⟩)
    · exact .inr (.inr ⟨rfl, hc, ⟨o', es, n, k _ _ hb ho', r⟩, fun key => by rw [OldK.staticOf_congr ((k _ _ hb ho').trans ho'.symm) key]; exact z key⟩)
  · obtain ⟨o', ho'⟩ := x.old.there b o e
    exact ⟨o', k _ _ (Heap.lt_size e) ho'⟩
  · obtain ⟨mc, ⟨o, es, ep, ho, r⟩, q⟩ := x.lim
    exact ⟨mc, ⟨o, es, ep, k _ _ l3 ho, r⟩, q⟩
  · obtain ⟨o, es, ep, ho, r⟩ := x.g
    exact ⟨o, es, ep, k _ _ l1 ho, r⟩
  · obtain ⟨o, es, ep, ho, r⟩ := x.b
    exact ⟨o, es, ep, k _ _ l2 ho, r⟩
  · have := x.nd
    rw [List.append_assoc, List.map_append, List.nodup_append] at this
    exact this.2.1
  · obtain ⟨z, o, ho, hi⟩ := x.at_ p (sub p hp)
    exact ⟨z, o, hk _ _ (nd' p hp) ho, hi⟩
  · obtain ⟨z1, z2, _⟩ := x.low.tc u hu
    obtain ⟨ps, y1, y2, y3⟩ := x.tb u hu
    obtain ⟨o, vs, file, tf, flags, tg, inF, text, tt, op, e1, r1, r2, r3, r4, r5, r6, e2, r⟩ := y1
    obtain ⟨⟨o2, vs2, e3, r7⟩, e4⟩ := y2
    exact ⟨ps, ⟨o, vs, file, tf, flags, tg, inF, text, tt, op, k _ _ z1 e1, r1, r2, r3, r4, r5, r6, k _ _ z2 e2, r⟩, ⟨⟨o2, vs2, k _ _ z1 e3, r7⟩, k _ _ z2 e4⟩, y3⟩

noncomputable def zipO (TI TO : Addr) : Obj := { cls := .type "zip", dict := none, data := .fields #[.none, .bool false, .bool false, .ref TI, .ref TO], slots := #[] }
noncomputable def pairO (x y : Value) : Obj := { cls := .type "tuple", data := .seq #[x, y] }
/-- the cells of a zip over two tuples -/
noncomputable def zipCells (z TI TO i1 i2 a b : Addr) : Led := [(z, .raw (zipO TI TO)), (TO, .raw (pairO .none .none)), (TI, .raw (pairO (.ref i1) (.ref i2))), (i2, .raw { cls := .type "tuple_iterator", data := .fields #[.ref b, .int 0 0] }), (i1, .raw { cls := .type "tuple_iterator", data := .fields #[.ref a, .int 0 0] })]
theorem CALL.zip {xs ys : List V} (hl1 : TupAt C N a xs) (hl2 : TupAt C N b ys) (h : ∀ z TI TO i1 i2, ZipApart z TI TO i1 i2 a b → Q (.ref z) (zipCells z TI TO i1 i2 a b ++ N)) : CALL C A (.ty "zip") [.ref a, .ref b] Q N := fun vf vs e1 e2 R s hs => by
  cases er_ty e1; obtain ⟨v, w, rfl, e, e'⟩ := cl2 e2; cases er_ref e; cases er_ref e'
  obtain ⟨vs1, n1, ho1, ev1⟩ := hl1 R s hs
  obtain ⟨vs2, n2, ho2, ev2⟩ := hl2 R s hs
  refine callType_new F.called_zip (by decide) (F.typeCall_zip_2 _ _) (F.newCall_zip_2 _ _) (fun obj => F.args_object_init_3 obj _ _) F.entry_zip_new (meets_zipT a b vs1 vs2) ⟨tupIs_new ho1, tupIs_new ho2, ?_⟩
  have z1 : (zT1 s.heap a).objs.size = s.heap.objs.size + 1 := Heap.size_push ..
  have z2 : (zT2 s.heap a b).objs.size = s.heap.objs.size + 2 := by rw [Heap.size_push, z1]
  have z3 : (zT3 s.heap a b).objs.size = s.heap.objs.size + 3 := by rw [Heap.size_push, z2]
  have z4 : (zT4 s.heap a b).objs.size = s.heap.objs.size + 4 := by rw [Heap.size_push, z3]
  have h1 := hs.push (t := s.toks) (o := { cls := .type "tuple_iterator", data := .fields #[.ref a, .int 0 0] }) (c := .raw { cls := .type "tuple_iterator", data := .fields #[.ref a, .int 0 0] }) rfl rfl
  have h2 := h1.push (t := s.toks) (o := { cls := .type "tuple_iterator", data := .fields #[.ref b, .int 0 0] }) (c := .raw { cls := .type "tuple_iterator", data := .fields #[.ref b, .int 0 0] }) rfl rfl
  have h3 := h2.push (t := s.toks) (o := { cls := .type "tuple", data := .seq #[.ref s.heap.objs.size, .ref (zT1 s.heap a).objs.size] }) (c := .raw (pairO (.ref s.heap.objs.size) (.ref (zT1 s.heap a).objs.size))) rfl rfl
  have h4 := h3.push (t := s.toks) (o := { cls := .type "tuple", data := .seq #[.none, .none] }) (c := .raw (pairO .none .none)) rfl rfl
  have h5 := h4.push (t := s.toks) (o := { cls := .type "zip", data := .fields #[.none, .bool false, .bool false, .ref (zT2 s.heap a b).objs.size, .ref (zT3 s.heap a b).objs.size] }) (c := .raw (zipO (zT2 s.heap a b).objs.size (zT3 s.heap a b).objs.size)) rfl rfl
  have a1 : a < s.heap.objs.size := Heap.lt_size ho1
  have a2 : b < s.heap.objs.size := Heap.lt_size ho2
  have D := zipApart_new a1 a2
  rw [← z1, ← z2, ← z3, ← z4] at D
  exact ⟨⟨_, Heap.get?_push_size _ rfl, rfl⟩, _, h5, h _ _ _ _ _ D⟩
end

end
section
open PySem PySem.W PyProof.Rows PySem.Calls
section
variable {C : Cx} {A : Around} {env : Env} {N R : Led} {L : Addr} {nm : List (Str × NameKind)} {cs : List (Str × Addr)} {Q : V → Led → Prop}

theorem zst_of {N1 : Led} {s : Shared} {z TI TO i1 i2 a b : Addr} {vs1 vs2 : Array Value} {n1 n2 : Nat} (hs : Rp C ((zipCells z TI TO i1 i2 a b ++ N1) ++ R) s)
    (h1 : s.heap.get? a = some { cls := .type "tuple", data := .seq vs1 n1 }) (h2 : s.heap.get? b = some { cls := .type "tuple", data := .seq vs2 n2 }) : ZSt z TI TO i1 i2 a b vs1 vs2 .none 0 s.heap := by
  have g : ∀ {p : Addr} {o : Obj}, (p, Cell.raw o) ∈ zipCells z TI TO i1 i2 a b → s.heap.get? p = some o := fun hm => by
    obtain ⟨o', ho, e⟩ := hs.get (List.mem_append_left R (List.mem_append_left N1 hm))
    rw [ho, e]
  exact ⟨g (.head _), g (.tail _ (.tail _ (.head _))), ⟨_, _, g (.tail _ (.head _))⟩, ⟨_, g (.tail _ (.tail _ (.tail _ (.tail _ (.head _))))), rfl, rfl⟩, ⟨_, g (.tail _ (.tail _ (.tail _ (.head _)))), rfl, rfl⟩, tupIs_new h1, tupIs_new h2⟩

theorem gen_name {w : World} {prog : Program} {A' : Around} {E : Value → Shared → Prop} {s₂ : Shared} {cenv : Env} {m₂ : Str → Option Value} {x : Str} {p : Pos} {v : Value} {Q : Value → Shared → Prop} (hk : cenv.scope.kind = .function) (hl : cenv.kindOf x = some .local)
    (hn : s₂.heap.Ns cenv.locals m₂) (hv : m₂ x = some v) (hd : (x == ("__debug__" : Str)) = false) (h : Q v s₂) : wpAny (model prog w) A' (eval (.Name x p) cenv) Q E s₂ :=
  wpAny_Name (wpAny_loadName_local hk hl hn hv h) hd

theorem zip_keys {z TI TO i1 i2 a b : Addr} {lo hi : Nat} (h : ∀ p c, (p, c) ∈ zipCells z TI TO i1 i2 a b → lo ≤ p ∧ p < hi) : ∀ p ∈ [z, TO, TI, i2, i1], lo ≤ p ∧ p < hi := by
  intro p hp
  have : p ∈ (zipCells z TI TO i1 i2 a b).map (·.1) := hp
  obtain ⟨q, hq, rfl⟩ := List.mem_map.mp this
  exact h q.1 q.2 hq
theorem zip_all {z TI TO i1 i2 a b : Addr} {lo hi : Nat} (h : ∀ p ∈ [z, TO, TI, i2, i1], lo ≤ p ∧ p < hi) (la : a < hi) (lb : b < hi) : ∀ p ∈ [z, TI, TO, i1, i2, a, b], p < hi := by
  intro p hp
  simp only [List.mem_cons, List.not_mem_nil, or_false] at hp h
  rcases hp with e | e | e | e | e | e | e
  · exact (h p (.inl e)).2
  · exact (h p (.inr (.inr (.inl e)))).2
  · exact (h p (.inr (.inl e))).2
  · exact (h p (.inr (.inr (.inr (.inr e))))).2
  · exact (h p (.inr (.inr (.inr (.inl e))))).2
  · exact e ▸ la
  · exact e ▸ lb
theorem zip_low {z TI TO i1 i2 : Addr} {lo hi m : Nat} (h : ∀ p ∈ [z, TO, TI, i2, i1], lo ≤ p ∧ p < hi) (l200 : 200 ≤ lo) (hm : m < 200) : ¬ m ∈ ([z, TO, i1, i2] : List Nat) := by
  intro hx
  have : m ∈ [z, TO, TI, i2, i1] := by
    simp only [List.mem_cons, List.not_mem_nil, or_false] at hx ⊢
    rcases hx with e | e | e | e
    · exact .inl e
    · exact .inr (.inl e)
    · exact .inr (.inr (.inr (.inr e)))
    · exact .inr (.inr (.inr (.inl e)))
  have := (h m this).1
  omega
theorem zip_mem {z TI TO i1 i2 a b p : Addr} (hm : p ∈ ([z, TO, i1, i2] : List Nat)) : p ∈ (zipCells z TI TO i1 i2 a b).map (·.1) := by
  simp only [List.mem_cons, List.not_mem_nil, or_false] at hm
  simp only [zipCells, List.map_cons, List.map_nil, List.mem_cons, List.not_mem_nil, or_false]
  rcases hm with e | e | e | e
  · exact .inl e
  · exact .inr (.inl e)
  · exact .inr (.inr (.inr (.inr e)))
  · exact .inr (.inr (.inr (.inl e)))
theorem zip_ints {vs1 vs2 : Array Value} {va1 va2 vb1 vb2 va vb : Value} {x1 x2 y1 y2 : Int} {i : Nat} (ev1 : vs1.toList = [va1, va2]) (ev2 : vs2.toList = [vb1, vb2]) (ea1 : er va1 = .int x1) (ea2 : er va2 = .int x2) (eb1 : er vb1 = .int y1) (eb2 : er vb2 = .int y2)
    (ex : vs1[i]? = some va) (ey : vs2[i]? = some vb) : ∃ p q r u, va = .int p r ∧ vb = .int q u ∧ some (V.int (p + q)) = ([V.int (x1 + y1), V.int (x2 + y2)] : List V)[i]? := by
  rw [← Array.getElem?_toList, ev1] at ex
  rw [← Array.getElem?_toList, ev2] at ey
  match i, ex, ey with
  | 0, ex, ey =>
    cases ex; cases ey
    obtain ⟨r, rfl⟩ := er_int ea1
    obtain ⟨u, rfl⟩ := er_int eb1
    exact ⟨_, _, _, _, rfl, rfl, rfl⟩
  | 1, ex, ey =>
    cases ex; cases ey
    obtain ⟨r, rfl⟩ := er_int ea2
    obtain ⟨u, rfl⟩ := er_int eb2
    exact ⟨_, _, _, _, rfl, rfl, rfl⟩
  | k + 2, ex, _ => cases ex
theorem zip_acc {acc : Array Value} {v1 v2 : V} (sz : acc.size = 2) (h : ∀ (j : Nat) (v : Value), acc[j]? = some v → ∃ i : Nat, ([0, 1] : List Nat)[j]? = some i ∧ some (er v) = ([v1, v2] : List V)[i]?) : acc.toList.map er = [v1, v2] := by
  apply List.ext_getElem?
  intro j
  rw [List.getElem?_map, Array.getElem?_toList]
  cases hj : acc[j]? with
  | none =>
    have : acc.size ≤ j := Array.getElem?_eq_none_iff.mp hj
    rw [sz] at this
    rw [List.getElem?_eq_none (by simpa using this)]; rfl
  | some v =>
    obtain ⟨i, hi, hF⟩ := h j v hj
    have : i = j := by
      match j, hi with
      | 0, hi => cases hi; rfl
      | 1, hi => cases hi; rfl
      | k + 2, hi => cases hi
    subst this
    exact hF
theorem EV.genAdd {n : Nat} {t : TbIx} {tup : Str} {np pos : Pos} {scope : Scope} {gpos pa pb pt p1 p2 p3 : Pos} {kt : Nat} {iter : Expr} {xa xb : Str} {names : List (Str × NameKind)}
    (he : EnvOk env L nm cs) (hr : Room (n + 1) A) (ht : t ∈ C.tabs) (hc : env.code = .ref t.c) (h1 : gpos.line = t.line) (h2 : gpos.col = t.col) (hqu : env.qual ++ "<genexpr>" = t.q) (hb : C.h₀.BuiltinsAt C.mg t.P)
    (hn : scope.names = names) (hclos : clsN cs names [] = some []) (hcell : ∀ y ∈ names, y.2 ≠ .cell) (h0 : names.lookup (".0" : Str) = some .local) (hxa : names.lookup xa = some .local) (hxb : names.lookup xb = some .local) (hab : xa ≠ xb)
    (hda : (xa == ("__debug__" : Str)) = false) (hdb : (xb == ("__debug__" : Str)) = false)
    (hco : scope.isCoroutine = false) (hkind : scope.kind = .function) (hname : ∀ Q : V → Led → Prop, Q (.ty "tuple") N → EV C A env (.Name tup np) Q N)
    (h : EV C A env iter (fun v N1 => ∃ z TI TO i1 i2 a b x1 x2 y1 y2 N2, v = .ref z ∧ ZipApart z TI TO i1 i2 a b ∧ N1 = zipCells z TI TO i1 i2 a b ++ N2 ∧ TupAt C N1 a [.int x1, .int x2] ∧ TupAt C N1 b [.int y1, .int y2] ∧
      ∀ t, Q (.ref t) ((t, .tup [.int (x1 + y1), .int (x2 + y2)]) :: N2)) N)
    (hf : ∀ x, genFold iter env x = pure x := by intro _; rfl)
    (hplain : (backTo pos (starEach [.GeneratorExp (.BinOp (.Name xa p1) .Add (.Name xb p2) p3) [⟨.Tuple [.Name xa pa, .Name xb pb] kt pt, iter, [], 0⟩] scope gpos] env)).any (·.1) = false := by rfl)
    (hst : starEach [.GeneratorExp (.BinOp (.Name xa p1) .Add (.Name xb p2) p3) [⟨.Tuple [.Name xa pa, .Name xb pb] kt pt, iter, [], 0⟩] scope gpos] env = [(false, eval (.GeneratorExp (.BinOp (.Name xa p1) .Add (.Name xb p2) p3) [⟨.Tuple [.Name xa pa, .Name xb pb] kt pt, iter, [], 0⟩] scope gpos) env)] := by rfl) :
    EV C A env (.Call (.Name tup np) [.GeneratorExp (.BinOp (.Name xa p1) .Add (.Name xb p2) p3) [⟨.Tuple [.Name xa pa, .Name xb pb] kt pt, iter, [], 0⟩] scope gpos] [] pos) Q N := fun R s hs => by
  refine wpAny_Call_ofName (wm (hname (fun v N1 => v = .ty "tuple" ∧ N1 = N) ⟨rfl, rfl⟩ R s hs) ?_)
  rintro f s1 ⟨N1, hs1, ef, rfl⟩
  cases er_ty ef
  refine callWith_of (P := fun h => ∃ k, (k = Keeper.frame ∨ k = Keeper.machine ∨ k = Keeper.boundFrame) ∧ Looks (model C.prog C.w) h (keeperOf (.type "tuple")) k) (by rw [hplain]; rfl) (fun _ h => h) ?_
  show wpAny _ _ (evalArgs (.type "tuple") true (backTo pos (starEach _ env)) []) _ _ _
  refine evalArgs_list hplain ?_
  refine wpAny_items_cons (rest := []) ?_ hst
  refine wpAny_GeneratorExp_walksQT hr.hd hco (closureFor_cls he hn hclos) (hn ▸ hcell) (hn ▸ h0) (hn ▸ hxa) (hn ▸ hxb) hab hkind hr.depth ?_ hf
  refine wm (h R s1 hs1) ?_
  intro xv s2 hx
  refine hide fun G hG => ?_
  obtain ⟨N1, hs2, z, TI, TO, i1, i2, a, b, x1, x2, y1, y2, N2, ev, D, eN, ta, tb, q⟩ := hx
  refine hG ?_
  clear hG
  subst eN
  cases er_ref ev
  have hgz : s2.heap.get? z = some (zipO TI TO) := by
    obtain ⟨o', ho, e⟩ := hs2.get (List.mem_append_left R (List.mem_append_left N2 (.head _)))
    rw [ho]; exact congrArg some e
  refine wpAny_pyIter_zip (f0 := .none) hgz ⟨hs2.lim, ?_⟩
  refine geCode hs2 ht hc h1 h2 hqu fun c' s3 H x3 hm keep3 hsz3 hg3 => ?_
  have hs3 : Rp C (zipCells z TI TO i1 i2 a b ++ N2 ++ R) s3 := ⟨H, x3⟩
  refine hide fun G hG => ?_
  obtain ⟨bm, o, hbm, hne0, _, hneP, hbo, hcls, hdict, hdata⟩ := hb
  obtain ⟨vs1, n1, ho1, e1⟩ := ta R s3 hs3
  obtain ⟨vs2, n2, ho2, e2⟩ := tb R s3 hs3
  obtain ⟨va1, va2, ev1, ea1, ea2⟩ := cl2 e1
  obtain ⟨vb1, vb2, ev2, eb1, eb2⟩ := cl2 e2
  refine hG ?_
  clear hG
  have hbo' := x3.old.get_of_cls hbo (by rw [hcls]; exact nofun)
  refine wpAny_builtinsFor (by rw [he.glob]; exact x3.g) hbm hne0 hbo' hcls hdict hdata ?_
  have sz1 : vs1.size = 2 := by rw [← Array.length_toList, ev1]; rfl
  have sz2 : vs2.size = 2 := by rw [← Array.length_toList, ev2]; rfl
  have st := zst_of hs3 ho1 ho2
  have keys : ∀ p ∈ [z, TO, TI, i2, i1], (C.h₀.objs.size : Nat) ≤ p ∧ p < s3.heap.objs.size := zip_keys (a := a) (b := b) fun p c hc => by
    obtain ⟨o, ho, _⟩ := hs3.get (List.mem_append_left R (List.mem_append_left N2 hc))
    exact ⟨hs3.ge (List.mem_append_left R (List.mem_append_left N2 hc)), Heap.lt_size ho⟩
  have la : a < s3.heap.objs.size := Heap.lt_size ho1
  have lb : b < s3.heap.objs.size := Heap.lt_size ho2
  have l200 := hs3.low.lo
  refine ⟨z, [z, TI, TO, i1, i2, a, b], [z, TO, i1, i2], vs1.size, _, _, _, (fun _ => true), (fun i y => some (er y) = ([V.int (x1 + y1), V.int (x2 + y2)] : List V)[i]?), rfl, fun A' hA => zipT_walks hA z TI TO i1 i2 a b D vs1 vs2 (sz1.trans sz2.symm), ?_, st, ?_, hs3.lim, ?_, ?_, ?_⟩
  · rintro i vals ⟨x, y, _, _, e⟩; exact ⟨x, y, e⟩
  · exact zip_all keys la lb
  · exact zip_low keys l200 (by decide)
  · intro href hk
    refine ⟨?_, ?_⟩
    · intro A' E' i va vb s₂ m₂ _ _ _ _ _ _
      exact wpAny_tests_nil ⟨rfl, s₂.heap, s₂.toks, rfl, fun _ _ e => e⟩
    · rintro A' E' i va vb s₂ m₂ hA ⟨x, y, ex, ey, e⟩ _ hn2 hma hmb _
      cases e
      have hk2 : (genEnv scope [] s3.heap.objs.size (.ref c') builtinsNs env).scope.kind = .function := hkind
      have ka : (genEnv scope [] s3.heap.objs.size (.ref c') builtinsNs env).kindOf xa = some .local := by unfold Env.kindOf; exact hn ▸ hxa
      have kb : (genEnv scope [] s3.heap.objs.size (.ref c') builtinsNs env).kindOf xb = some .local := by unfold Env.kindOf; exact hn ▸ hxb
      refine wpAny_BinOp (gen_name hk2 ka hn2 hma hda (gen_name hk2 kb hn2 hmb hdb ?_))
      have hInts := zip_ints (i := i) ev1 ev2 ea1 ea2 eb1 eb2 ex ey
      obtain ⟨p, q, r, u, rfl, rfl, eF⟩ := hInts
      exact add_int ⟨eF, s₂.heap, s₂.toks + 1, rfl, fun _ _ e => e⟩
  · intro ga h₅ tk gs hgs hlt hsz5 hk5 W stG
    refine wpAny_items_nil ⟨⟨.machine, .inr (.inl rfl), .now⟩, ?_⟩
    have hpass : passing (fun _ => true) vs1.size 0 = [0, 1] := by rw [sz1]; rfl
    rw [hpass] at W
    refine call_tuple_gen (n := 2) (hsz := by rw [sizeLine_eq]; omega) W.in4_3 (fun i s st => by obtain ⟨hg, _⟩ := st; exact hg.typeIs) stG ?_ (List.mem_cons_self) fun s6 acc hmv hacc => ?_
    · intro p hp
      have z5 : h₅.objs.size = ga + 1 := hsz5
      show p < h₅.objs.size
      rcases List.mem_cons.mp hp with rfl | hp
      · rw [z5]; exact Nat.lt_succ_self _
      · rcases List.mem_cons.mp hp with rfl | hp
        · rw [z5]; exact Nat.lt_succ_of_lt hlt
        · have := List.mem_range.mp hp
          rw [z5]; exact Nat.lt_succ_of_lt (Nat.lt_trans this hlt)
    · have hd : Rp C (N2 ++ R) s6 := by
        have := Rp.dels (M := zipCells z TI TO i1 i2 a b) (N := N2 ++ R) (s := s3) (h' := s6.heap) (t := s6.toks) (g := s6.gens) (by rw [← List.append_assoc]; exact hs3) (fun b' o' hb' e' => ?_) ?_
        · have eo : s6.os = s3.os := hmv.os
          exact this.congr rfl eo this.gens
        · refine hmv.heap b' o' (fun hm => ?_) (hk5 _ _ e')
          rcases List.mem_cons.mp hm with rfl | hm
          · exact absurd (Heap.lt_size e') (Nat.lt_irrefl _)
          · apply hb'
            exact zip_mem hm
        · exact GenOnlyQ.bare hmv.gens (hs3.gens.push hgs)
      have e6 : acc.toList.map er = [V.int (x1 + y1), V.int (x2 + y2)] := zip_acc hacc.1 hacc.2
      exact ⟨_, hd.push (t := s6.toks) (c := .tup [.int (x1 + y1), .int (x2 + y2)]) rfl ⟨acc, 0, rfl, e6⟩, q _⟩
end

end
section
open PySem PySem.W PyProof.Rows PySem.Calls
local macro_rules | `(tactic| walk_at "lk") => `(tactic| first | with_reducible exact Lk.head | (with_reducible refine' Lk.tail ?a ?b; (case a => decide); (case b => walk_at "lk")))
local macro_rules | `(tactic| walk_at "mem") => `(tactic| first | with_reducible exact List.mem_cons_self | (with_reducible refine' List.mem_cons_of_mem _ ?_; walk_at "mem") | with_reducible assumption)
local macro_rules | `(tactic| walk_at "upd") => `(tactic| first | with_reducible exact Upd.head | (with_reducible apply Upd.tail; walk_at "upd"))
local macro_rules | `(tactic| walk_at "put") => `(tactic| first | with_reducible exact Put.head | with_reducible exact Put.nil | (with_reducible refine' Put.tail ?a ?b; (case a => decide); (case b => walk_at "put")))
local macro_rules | `(tactic| walk_at "loc") => `(tactic| (refine' EV.name (LD.local (by assumption) ?k1 ?k2 ?k3 ?_); (case k1 => walk_at "lk"); (case k2 => walk_at "mem"); (case k3 => walk_at "lk")))
local macro_rules | `(tactic| walk_at "stl") => `(tactic| (refine' STO.local (by assumption) ?k1 ?k2 ?k3 ?_; (case k1 => walk_at "lk"); (case k3 => walk_at "upd"); (case k2 => walk_at "put")))
section

section
variable {C : Cx} {A : Around} {env : Env} {N : Led} {n : Nat} {i j : Int} {x y : Str} {Q : V → Led → Prop}

theorem f106 (B : Base C) (hr : Room (n + 1) A) (h : Q (.bool (x.cps.toList != y.cps.toList)) N) : FN C A 106 [.str x, .str y] Q N := by
  refine FN.enter2 (p := "a") (q := "b") (nm := [("a", .local), ("b", .local)]) hr B.f106 rfl (fun L env he hr => ?_)
  refine ST.cons (SX.ret (EV.cmp ?_))
  walk_at "loc"
  walk_at "loc"
  exact CMP.nes ⟨N, List.sublist_cons_self .., h⟩
theorem f113 (B : Base C) (hr : Room (n + 1) A) (h : Q (.int (i + j)) N) : FN C A 113 [.int i, .int j] Q N := by
  refine FN.enter2 (p := "a") (q := "b") (nm := [("a", .local), ("b", .local)]) hr B.f113 rfl (fun L env he hr => ?_)
  refine ST.cons (SX.ret (EV.bin ?_))
  walk_at "loc"
  walk_at "loc"
  exact BIN.add ⟨N, List.sublist_cons_self .., h⟩
theorem f120 (B : Base C) (hr : Room (n + 1) A) (h : Q (.int (Builtin.bitAnd i j)) N) : FN C A 120 [.int i, .int j] Q N := by
  refine FN.enter2 (p := "a") (q := "b") (nm := [("a", .local), ("b", .local)]) hr B.f120 rfl (fun L env he hr => ?_)
  refine ST.cons (SX.ret (EV.bin ?_))
  walk_at "loc"
  walk_at "loc"
  exact BIN.and ⟨N, List.sublist_cons_self .., h⟩
theorem f127 (B : Base C) (hr : Room (n + 1) A) (hm : IntMulOk i j) (h : Q (.int (i * j)) N) : FN C A 127 [.int i, .int j] Q N := by
  refine FN.enter2 (p := "a") (q := "b") (nm := [("a", .local), ("b", .local)]) hr B.f127 rfl (fun L env he hr => ?_)
  refine ST.cons (SX.ret (EV.bin ?_))
  walk_at "loc"
  walk_at "loc"
  exact BIN.mul hm ⟨N, List.sublist_cons_self .., h⟩
theorem f134 (B : Base C) (hr : Room (n + 1) A) (h : Q (.int (-i)) N) : FN C A 134 [.int i] Q N := by
  refine FN.enter1 (p := "a") (nm := [("a", .local)]) hr B.f134 rfl (fun L env he hr => ?_)
  refine ST.cons (SX.ret (EV.una ?_))
  walk_at "loc"
  exact UNA.neg ⟨N, List.sublist_cons_self .., h⟩
theorem f141 (B : Base C) (hr : Room (n + 1) A) (h : Q (.int (Builtin.bitOr i j)) N) : FN C A 141 [.int i, .int j] Q N := by
  refine FN.enter2 (p := "a") (q := "b") (nm := [("a", .local), ("b", .local)]) hr B.f141 rfl (fun L env he hr => ?_)
  refine ST.cons (SX.ret (EV.bin ?_))
  walk_at "loc"
  walk_at "loc"
  exact BIN.or ⟨N, List.sublist_cons_self .., h⟩
theorem f148 (B : Base C) (hr : Room (n + 1) A) (h : Q (.int (i - j)) N) : FN C A 148 [.int i, .int j] Q N := by
  refine FN.enter2 (p := "a") (q := "b") (nm := [("a", .local), ("b", .local)]) hr B.f148 rfl (fun L env he hr => ?_)
  refine ST.cons (SX.ret (EV.bin ?_))
  walk_at "loc"
  walk_at "loc"
  exact BIN.sub ⟨N, List.sublist_cons_self .., h⟩
theorem LstAt.cons {a : Addr} {xs : List V} {p : Addr × Cell} (h : LstAt C N a xs) : LstAt C (p :: N) a xs := fun R s hs => h R s (hs.weak (List.sublist_cons_self ..))
theorem TupAt.cons {a : Addr} {xs : List V} {p : Addr × Cell} (h : TupAt C N a xs) : TupAt C (p :: N) a xs := fun R s hs => h R s (hs.weak (List.sublist_cons_self ..))
theorem f155 (B : Base C) (hr : Room (n + 1) A) {a : Addr} {ys : List Str} (hl : LstAt C N a (ys.map .str)) (h : Q (.bool (ys.any (· == x))) N) : FN C A 155 [.ref a, .str x] Q N := by
  refine FN.enter2 (p := "a") (q := "b") (nm := [("a", .local), ("b", .local)]) hr B.f155 rfl (fun L env he hr => ?_)
  refine ST.cons (SX.ret (EV.cmp ?_))
  walk_at "loc"
  walk_at "loc"
  exact CMP.inList hl.cons ⟨N, List.sublist_cons_self .., h⟩

noncomputable def hdn (x : Str) : Bool := !(x.cps.toList == ("" : Str).cps.toList) && !((Txt.item x 0).cps.toList == ("." : Str).cps.toList || (Txt.item x (-1)).cps.toList == ("." : Str).cps.toList)
theorem slen_pos {x : Str} (h : (x.cps.toList == ("" : Str).cps.toList) = false) : 0 < x.length := by
  show 0 < x.cps.size
  rcases Nat.eq_zero_or_pos x.cps.size with e | e
  · have : x.cps.toList = [] := by rw [Array.toList_eq_nil_iff]; exact Array.size_eq_zero_iff.mp e
    rw [this] at h; exact absurd h (by decide)
  · exact e
theorem f43 (B : Base C) (hp : PySem.Flt.IsPattern C.h₀ 36 patR) (hr : Room (n + 1) A) (hx : srch x = true) (h : Q (.bool (hdn x)) N) : FN C A 43 [.str x] Q N := by
  refine FN.enter1 (p := "text") (nm := [("text", .local), ("IPV4_RE", .globalImplicit)]) hr B.f43 rfl (fun L env he hr => ?_)
  refine ST.cons (SX.ifs (IST.val (EV.meth (pl := ?_) (EV.name (LD.glob he (by walk_at "lk") B.g_IPV4_RE (GM.search hp ?_))))))
  rotate_left
  · refine EVS.cons ?_
    walk_at "loc"
    refine EVS.nil ⟨KEEP.bi, CALL.search hp hx (TRU.none ?_)⟩
    rw [if_neg Bool.false_ne_true]
    refine ST.nil (ST.cons (SX.ifs (IST.cmp ?_)))
    walk_at "loc"
    refine EV.cstr (CMP.eqs (TRU.bool ?_))
    cases e1 : (x.cps.toList == ("" : Str).cps.toList)
    · rw [if_neg Bool.false_ne_true]
      have hl := slen_pos e1
      refine ST.nil (ST.cons (SX.ifs (IST.bool (ALLT.orCons (IST.cmp (EV.sub ?_))))))
      walk_at "loc"
      refine EV.cint (SUB.str (by decide) (by omega) (by omega) (EV.cstr (CMP.eqs (TRU.bool ?_))))
      cases e2 : ((Txt.item x 0).cps.toList == ("." : Str).cps.toList)
      · rw [if_neg Bool.false_ne_true]
        refine ALLT.orCons (IST.cmp (EV.sub ?_))
        walk_at "loc"
        refine EV.una (EV.cint (UNA.neg (SUB.str (by decide) (by omega) (by omega) (EV.cstr (CMP.eqs (TRU.bool ?_))))))
        cases e3 : ((Txt.item x (-1)).cps.toList == ("." : Str).cps.toList)
        · rw [if_neg Bool.false_ne_true]
          refine ALLT.orNil ?_
          rw [if_neg Bool.false_ne_true]
          refine ST.nil (ST.cons (SX.ret (EV.cbool ⟨N, List.sublist_cons_self .., ?_⟩)))
          have : hdn x = true := by unfold hdn; rw [e1, e2, e3]; rfl
          rw [this] at h; exact h
        · rw [if_pos rfl]
          rw [if_pos rfl]
          refine ST.cons (SX.ret (EV.cbool ⟨N, List.sublist_cons_self .., ?_⟩))
          have : hdn x = false := by unfold hdn; rw [e1, e2, e3]; rfl
          rw [this] at h; exact h
      · rw [if_pos rfl]
        rw [if_pos rfl]
        refine ST.cons (SX.ret (EV.cbool ⟨N, List.sublist_cons_self .., ?_⟩))
        have : hdn x = false := by unfold hdn; rw [e1, e2]; rfl
        rw [this] at h; exact h
    · rw [if_pos rfl]
      refine ST.cons (SX.ret (EV.cbool ⟨N, List.sublist_cons_self .., ?_⟩))
      have : hdn x = false := by unfold hdn; rw [e1]; rfl
      rw [this] at h; exact h
end

end
section

section
variable {C : Cx} {A : Around} {env : Env} {N : Led} {n : Nat} {i j : Int} {x y : Str} {Q : V → Led → Prop}

/-- what domain_match tells -/
noncomputable def dmt (x y : Str) : Bool :=
  let a := Txt.lower x; let b := Txt.lower y
  a.cps.toList == b.cps.toList || (hdn a && !(Txt.rfind a b == -1 || Txt.rfind a b == 0) && Txt.startswith b "." && hdn (Txt.slice b (some 1) none))
theorem f50 (B : Base C) (hp : PySem.Flt.IsPattern C.h₀ 36 patR) (hr : Room (n + 2) A) (hx : srch (Txt.lower x) = true) (hy : srch (Txt.slice (Txt.lower y) (some 1) none) = true)
    (lx : Builtin.Str.tooLong (Txt.lower x).length = false) (ly : Builtin.Str.tooLong (Txt.lower y).length = false) (lz : (Txt.lower y).length ≤ sizeLine) (h : Q (.bool (dmt x y)) N) : FN C A 50 [.str x, .str y] Q N := by
  refine FN.enter2 (p := "A") (q := "B") (nm := [("A", .local), ("B", .local), ("i", .local), ("is_HDN", .globalImplicit)]) hr B.f50 rfl (fun L env he hr => ?_)
  refine ST.cons (SX.assign (EV.meth (pl := ?_) ?_))
  rotate_left
  walk_at "loc"
  refine gm_str PySem.F.slot_str_lower PySem.F.type_str_lower (EVS.nil ⟨KEEP.bi, CALL.lower lx ?_⟩)
  walk_at "stl"
  refine ST.cons (SX.assign (EV.meth (pl := ?_) ?_))
  rotate_left
  walk_at "loc"
  refine gm_str PySem.F.slot_str_lower PySem.F.type_str_lower (EVS.nil ⟨KEEP.bi, CALL.lower ly ?_⟩)
  walk_at "stl"
  refine ST.cons (SX.ifs (IST.cmp ?_))
  walk_at "loc"
  walk_at "loc"
  refine CMP.eqs (TRU.bool ?_)
  have fin : ∀ {b : Bool} {c : Cell}, dmt x y = b → End Q (.ret (.bool b)) ((L, c) :: N) := fun e => ⟨N, List.sublist_cons_self .., by show Q (.bool _) N; rw [← e]; exact h⟩
  cases e1 : ((Txt.lower x).cps.toList == (Txt.lower y).cps.toList)
  · rw [if_neg Bool.false_ne_true]
    refine ST.nil (ST.cons (SX.ifs (IST.no (IST.val (EV.call ?_)))))
    refine EV.name (LD.glob he (by walk_at "lk") B.g_is_HDN (EVS.cons ?_))
    walk_at "loc"
    refine EVS.nil ⟨KEEP.fn B.f43, CALL.fn (f43 B hp hr hx (TRU.bool ?_))⟩
    cases e2 : hdn (Txt.lower x)
    · rw [Bool.not_false]; rw [if_pos rfl]
      exact ST.cons (SX.ret (EV.cbool (fin (by unfold dmt; simp only [e1, e2]; rfl))))
    · rw [Bool.not_true]; rw [if_neg Bool.false_ne_true]
      refine ST.nil (ST.cons (SX.assign (EV.meth (pl := ?_) ?_)))
      rotate_left
      walk_at "loc"
      refine gm_str PySem.F.slot_str_rfind PySem.F.type_str_rfind (EVS.cons ?_)
      walk_at "loc"
      refine EVS.nil ⟨KEEP.bi, CALL.rfind ?_⟩
      walk_at "stl"
      refine ST.cons (SX.ifs (IST.bool (ALLT.orCons (IST.cmp ?_))))
      walk_at "loc"
      refine EV.una (EV.cint (UNA.neg (CMP.eqi (TRU.bool ?_))))
      cases e3 : (Txt.rfind (Txt.lower x) (Txt.lower y) == -1)
      · rw [if_neg Bool.false_ne_true]
        refine ALLT.orCons (IST.cmp ?_)
        walk_at "loc"
        refine EV.cint (CMP.eqi (TRU.bool ?_))
        cases e4 : (Txt.rfind (Txt.lower x) (Txt.lower y) == 0)
        · rw [if_neg Bool.false_ne_true]
          refine ALLT.orNil ?_
          rw [if_neg Bool.false_ne_true]
          refine ST.nil (ST.cons (SX.ifs (IST.no (IST.val (EV.meth (pl := ?_) ?_)))))
          rotate_left
          walk_at "loc"
          refine gm_str PySem.F.slot_str_startswith PySem.F.type_str_startswith (EVS.cons (EV.cstr (EVS.nil ⟨KEEP.bi, CALL.startswith (TRU.bool ?_)⟩)))
          cases e5 : Txt.startswith (Txt.lower y) "."
          · rw [Bool.not_false]; rw [if_pos rfl]
            exact ST.cons (SX.ret (EV.cbool (fin (by unfold dmt; simp only [e1, e2, e3, e4, e5]; rfl))))
          · rw [Bool.not_true]; rw [if_neg Bool.false_ne_true]
            refine ST.nil (ST.cons (SX.ifs (IST.no (IST.val (EV.call ?_)))))
            refine EV.name (LD.glob he (by walk_at "lk") B.g_is_HDN (EVS.cons (EV.strFrom ?_)))
            walk_at "loc"
            refine ⟨_, rfl, lz, EV.cint ⟨_, rfl, EVS.nil ⟨KEEP.fn B.f43, CALL.fn (f43 B hp hr hy (TRU.bool ?_))⟩⟩⟩
            cases e6 : hdn (Txt.slice (Txt.lower y) (some 1) none)
            · rw [Bool.not_false]; rw [if_pos rfl]
              exact ST.cons (SX.ret (EV.cbool (fin (by unfold dmt; simp only [e1, e2, e3, e4, e5, e6]; rfl))))
            · rw [Bool.not_true]; rw [if_neg Bool.false_ne_true]
              exact ST.nil (ST.cons (SX.ret (EV.cbool (fin (by unfold dmt; simp only [e1, e2, e3, e4, e5, e6]; rfl)))))
        · rw [if_pos rfl]
          rw [if_pos rfl]
          exact ST.cons (SX.ret (EV.cbool (fin (by unfold dmt; simp only [e1, e2, e3, e4]; rfl))))
      · rw [if_pos rfl]
        rw [if_pos rfl]
        exact ST.cons (SX.ret (EV.cbool (fin (by unfold dmt; simp only [e1, e2, e3]; rfl))))
  · rw [if_pos rfl]
    exact ST.cons (SX.ret (EV.cbool (fin (by unfold dmt; simp only [e1]; rfl))))

/-- what reach gives -/
noncomputable def rch (x : Str) : Str :=
  if 0 ≤ Txt.find x "." then
    let b := Txt.slice x (some (Txt.find x "." + 1)) none
    if hdn x && (decide (0 ≤ Txt.find b ".") || b.cps.toList == ("local" : Str).cps.toList) then "." ++ b else x
  else x
theorem f57 (B : Base C) (hp : PySem.Flt.IsPattern C.h₀ 36 patR) (hr : Room (n + 2) A) (hx : srch x = true) (lz : x.length ≤ 1000) (h : Q (.str (rch x)) N) : FN C A 57 [.str x] Q N := by
  refine FN.enter1 (p := "h") (nm := [("h", .local), ("i", .local), ("b", .local), ("is_HDN", .globalImplicit)]) hr B.f57 rfl (fun L env he hr => ?_)
  refine ST.cons (SX.assign (EV.meth (pl := ?_) ?_))
  rotate_left
  walk_at "loc"
  refine gm_str PySem.F.slot_str_find PySem.F.type_str_find (EVS.cons (EV.cstr (EVS.nil ⟨KEEP.bi, CALL.find ?_⟩)))
  walk_at "stl"
  refine ST.cons (SX.ifs (IST.cmp ?_))
  walk_at "loc"
  refine EV.cint (CMP.gei (TRU.bool ?_))
  have fin : ∀ {b : Str} {c : Cell}, rch x = b → End Q (.ret (.str b)) ((L, c) :: N) := fun e => ⟨N, List.sublist_cons_self .., by show Q (.str _) N; rw [← e]; exact h⟩
  cases e1 : decide (0 ≤ Txt.find x ".")
  · rw [if_neg Bool.false_ne_true]
    refine ST.nil (ST.cons (SX.ret ?_))
    walk_at "loc"
    exact fin (by unfold rch; rw [if_neg (of_decide_eq_false e1)])
  · rw [if_pos rfl]
    have l1 : (Txt.slice x (some (Txt.find x "." + 1)) none).length ≤ 1000 := Nat.le_trans (slen ..) lz
    have l2 : ("." : Str).length = 1 := by decide
    refine ST.cons (SX.assign (EV.strFrom ?_))
    walk_at "loc"
    refine ⟨_, rfl, by rw [sizeLine_eq]; omega, EV.bin ?_⟩
    walk_at "loc"
    refine EV.cint (BIN.add ⟨_, rfl, ?_⟩)
    walk_at "stl"
    refine ST.cons (SX.assign (EV.meth (pl := ?_) ?_))
    rotate_left
    walk_at "loc"
    refine gm_str PySem.F.slot_str_find PySem.F.type_str_find (EVS.cons (EV.cstr (EVS.nil ⟨KEEP.bi, CALL.find ?_⟩)))
    walk_at "stl"
    refine ST.cons (SX.ifs (IST.bool (ALLT.andCons (IST.val (EV.call ?_)))))
    refine EV.name (LD.glob he (by walk_at "lk") B.g_is_HDN (EVS.cons ?_))
    walk_at "loc"
    refine EVS.nil ⟨KEEP.fn B.f43, CALL.fn (f43 B hp hr hx (TRU.bool ?_))⟩
    cases e2 : hdn x
    · rw [if_neg Bool.false_ne_true]
      rw [if_neg Bool.false_ne_true]
      refine ST.nil (ST.nil (ST.cons (SX.ret ?_)))
      walk_at "loc"
      exact fin (by unfold rch; simp only [of_decide_eq_true e1, if_true, e2, Bool.false_and, Bool.false_eq_true, if_false])
    · rw [if_pos rfl]
      refine ALLT.andCons (IST.bool (ALLT.orCons (IST.cmp ?_)))
      walk_at "loc"
      refine EV.cint (CMP.gei (TRU.bool ?_))
      have yes : (decide (0 ≤ Txt.find (Txt.slice x (some (Txt.find x "." + 1)) none) ".") || (Txt.slice x (some (Txt.find x "." + 1)) none).cps.toList == ("local" : Str).cps.toList) = true → rch x = "." ++ Txt.slice x (some (Txt.find x "." + 1)) none := fun e => by
        unfold rch; simp only [of_decide_eq_true e1, if_true, e2, Bool.true_and, e]
      cases e3 : decide (0 ≤ Txt.find (Txt.slice x (some (Txt.find x "." + 1)) none) ".")
      · rw [if_neg Bool.false_ne_true]
        refine ALLT.orCons (IST.cmp ?_)
        walk_at "loc"
        refine EV.cstr (CMP.eqs (TRU.bool ?_))
        cases e4 : ((Txt.slice x (some (Txt.find x "." + 1)) none).cps.toList == ("local" : Str).cps.toList)
        · rw [if_neg Bool.false_ne_true]
          refine ALLT.orNil ?_
          rw [if_neg Bool.false_ne_true]
          rw [if_neg Bool.false_ne_true]
          refine ST.nil (ST.nil (ST.cons (SX.ret ?_)))
          walk_at "loc"
          exact fin (by unfold rch; simp only [of_decide_eq_true e1, if_true, e2, Bool.true_and, e3, e4, Bool.false_or, Bool.false_eq_true, if_false])
        · rw [if_pos rfl]
          rw [if_pos rfl]
          refine ALLT.andNil ?_
          rw [if_pos rfl]
          refine ST.cons (SX.ret (EV.bin (EV.cstr ?_)))
          walk_at "loc"
          refine BIN.adds (by rw [l2, sizeLine_eq]; omega) ?_
          exact fin (yes (by rw [e3, e4]; rfl))
      · rw [if_pos rfl]
        rw [if_pos rfl]
        refine ALLT.andNil ?_
        rw [if_pos rfl]
        refine ST.cons (SX.ret (EV.bin (EV.cstr ?_)))
        walk_at "loc"
        refine BIN.adds (by rw [l2, sizeLine_eq]; omega) ?_
        exact fin (yes (by rw [e3]; rfl))
end

end
section

theorem putName_old {name : Str} {hsh : Int} {t : Tok} {v : Value} {o : Obj} {es : Array DictEntry} {ep : Nat} (hd : o.data = .dict es ep) (hk : StrKeys es) (hs : (nsFind es name).isSome = true) :
    ∃ es' ep', (Obj.putName name hsh (.str name t) v o).data = .dict es' ep' ∧ StrKeys es' ∧ es'.size = es.size ∧ ∀ x, nsFind es' x = if x = name then some v else nsFind es x := by
  obtain ⟨c, d, dt, sl⟩ := o
  subst hd
  cases hi : es.findIdx? (·.key.isStr name) with
  | some i =>
    refine ⟨_, ep, by simp only [Obj.putName_eq, Obj.putNameByArray, hi]; rfl, hk.modify _ _, by simp, fun x => ?_⟩
    exact findBy_modify (fun n v => v.isStr n) Value.isStr_inj es name x v i hi
  | none =>
    have : nsFind es name = none := by
      unfold nsFind
      rw [findBy_of_findIdx?, hi]
    rw [this] at hs; cases hs
section
variable {C : Cx} {A : Around} {env : Env} {N N' N1 N2 : Led} {K : Frag} {n : Nat} {i j : Int} {x y : Str} {Q : V → Led → Prop}

theorem SAT.instOld (B : ClsOk C K) {x d : Addr} {m m' : List (Str × V)} {n : Nat} {y : V} {k : Str} {Q : Led → Prop} (hx : (x, Cell.inst 95 d) ∈ N) (hk : k ∈ (["lineno", "instream", "whitespace", "pushback", "read"] : List Str)) (hm : (m.lookup k).isSome = true) (hp : Put m k y m') (hu : Upd d (.attrs m n) (.attrs m' n) N N') (hz : n ≤ 1000) (h : Q N') : SAT C A (.ref x) k y Q N := fun vx vy e1 e2 R s hs => by
  cases er_ref e1
  have u := hu.app R
  refine hide fun G hG => ?_
  obtain ⟨od, es, ep, I, hod, q1, q2, q3, q4⟩ := inst_at hs hx hu.mem
  obtain ⟨cd, hc, hd'⟩ := any_some B.hasd
  have hs1 : (nsFind es k).isSome = true := by rw [← q4, Option.isSome_map] at hm; exact hm
  obtain ⟨es', ep', r1, r2, r3, r4⟩ := putName_old (name := k) (hsh := PyData.keyHash C.w.params k) (t := s.toks + 1) (v := vy) q1 q2 hs1
  refine hG ?_
  clear hG
  have X := B.in_ hs
  have ht : takerIn K 95 k = some none := by unfold takerIn; rw [B.none_ k hk]; rfl
  refine set_plain X I B.sa (osa_open (s := { s with toks := s.toks + 1 }) X I B.over ht fun b => ?_)
  refine wpAny_bind (wpAny_pure (wpAny_bind (wpAny_bind (wpAny_loadPart I.at_ (wpAny_bind (Looks.here (s := { s with toks := s.toks + 1 }) (looks_clsIn X hc) ?_))))))
  rw [hd']
  refine wpAny_pure (a := some d) (wpAny_bind (wpAny_pure (wpAny_bind ?_)))
  unfold nsSet
  refine wpAny_bind (wpAny_bind (wpAny_askSetting (wpAny_pure (wpAny_bind (wpAny_mkText (wpAny_bind (wpAny_loadPart hod ?_)))))))
  rw [q1]
  dsimp only
  have c : (!es.any (·.key.isStr k) && es.any (·.refKey)) = false := by
    have hany : es.any (·.refKey) = false := by
      rw [Array.any_eq_false']; intro e he; obtain ⟨n, t, h⟩ := q2 e he; simp [DictEntry.refKey, h]
    rw [hany, Bool.and_false]
  rw [aRefKeyMayBeTheName_at, c]
  have D' : (s.heap.update d (Obj.putName k (PyData.keyHash C.w.params k) (.str k (s.toks + 1)) vy)).get? d = some _ := Heap.get?_update_self _ hod (Obj.isFreed_of_dict r1)
  refine wpAny_updatePart hod ?_
  refine wpAny_bind (wpAny_lookBehind D' (by rw [r1]; exact pastItsLine_dict (by rw [sizeLine_eq]; omega)) ?_)
  refine wpAny_pure ⟨N', hs.upd (t := s.toks + 1 + 1) u (Heap.SameBut.update ..) ⟨_, D', es', ep', r1, r2, by omega, fun z => ?_⟩, h⟩
  rw [r4, hp.lookup]
  by_cases e : z = k
  · rw [if_pos e, if_pos e, ← e2]; rfl
  · rw [if_neg e, if_neg e]; exact q4 z

/-- what a fresh lexer holds -/
noncomputable abbrev lx0 (k : Int) (st : V) (pb : Addr) : List (Str × V) := [("lineno", .int k), ("instream", st), ("whitespace", .str "\n\t\r "), ("pushback", .ref pb)]
theorem f71 (B : Base C) (K1 : ClsOk C K) (hr : Room (n + 1) A) {x dx : Addr} {v : V} (h : ∀ l, Q .none ((l, .list []) :: (x, .inst 95 dx) :: (dx, .attrs (lx0 1 v l) 4) :: N)) : FN C A 71 [.ref x, v] Q ((x, .inst 95 dx) :: (dx, .attrs [] 0) :: N) := by
  refine FN.enter2 (p := "self") (q := "fp") (nm := [("self", .local), ("fp", .local)]) hr B.f71 rfl (fun L env he hr => ?_)
  refine ST.cons (SX.assignAttr (EV.cint ?_))
  walk_at "loc"
  (refine' SAT.inst (by assumption) ?k1 (by decide) ?k3 ?k4 ?k5 ?_; (case k1 => walk_at "mem"); (case k4 => walk_at "upd"); (case k3 => walk_at "put"); (case k5 => omega))
  refine ST.cons (SX.assignAttr ?_)
  walk_at "loc"
  walk_at "loc"
  (refine' SAT.inst (by assumption) ?k1 (by decide) ?k3 ?k4 ?k5 ?_; (case k1 => walk_at "mem"); (case k4 => walk_at "upd"); (case k3 => walk_at "put"); (case k5 => omega))
  refine ST.cons (SX.assignAttr (EV.cstr ?_))
  walk_at "loc"
  (refine' SAT.inst (by assumption) ?k1 (by decide) ?k3 ?k4 ?k5 ?_; (case k1 => walk_at "mem"); (case k4 => walk_at "upd"); (case k3 => walk_at "put"); (case k5 => omega))
  refine ST.cons (SX.assignAttr (EV.list (by decide) (EVS.nil ⟨rfl, fun l => ?_⟩)))
  walk_at "loc"
  (refine' SAT.inst (by assumption) ?k1 (by decide) ?k3 ?k4 ?k5 ?_; (case k1 => walk_at "mem"); (case k4 => walk_at "upd"); (case k3 => walk_at "put"); (case k5 => omega))
  exact ST.nil ⟨_, (List.sublist_cons_self ..).cons_cons _, h l⟩

noncomputable def bodyOf (fd : FuncData) : List Stmt := match fd.body with | .stmts b => b | _ => []
noncomputable def fdRd (cl : Addr) (ct pm code : Value) : FuncData := match (bodyOf fd195).getD 1 (.Pass default) with
  | .FunctionDef name args body _ _ _ scope _ _ _ => { name, qualname := "_law_lexer.<locals>.read", params := args, body := .stmts body, scope, globals := mainGlobals, closure := [("left", cl)], closureTuple := ct, code, builtins := builtinsNs, defaults := .none, kwdefaults := .none, annotations := none, pyModule := pm, doc := .none }
  | _ => default
theorem fread {cl rd lf : Addr} {ct pm code : Value} {xs : List V} {v : V} (hr : Room (n + 1) A) (hm : (rd, Cell.fnc (fdRd cl ct pm code)) ∈ N) (hcl : (cl, Cell.cell (some (.ref lf))) ∈ N)
    (hz : xs.length < 1000) (hu : Upd lf (.list (xs ++ [v])) (.list xs) N N1) (h : Q v N1) : FN C A rd [.int 1] Q N := by
  refine FN.enterC (fd := fdRd cl ct pm code) (ps := ["most"]) (nm := [("most", .local), ("left", .free)]) hr (fun R s hs => hs.fnc (List.mem_append_left R hm)) rfl rfl (hb1 fun v => rfl) (fun L env he _ _ => ?_)
  replace he : EnvOk env L [("most", .local), ("left", .free)] [("left", cl)] := he
  show STO _ _ _ _ _ _ _
  walk_at "stl"
  intro hr
  have hcl' : (cl, Cell.cell (some (V.ref lf))) ∈ (L, Cell.ns [(("most" : Str), V.int 1)]) :: N := List.mem_cons_of_mem _ hcl
  refine ST.cons (SX.ret (EV.ifexp (IST.val (EV.name (LD.free he (by walk_at "lk") (by walk_at "lk") hcl' (TRU.list (LstAt.mem (List.mem_cons_of_mem _ hu.mem)) (by simp; omega) ?_))))))
  have : (!(xs ++ [v]).isEmpty) = true := by simp
  rw [this]
  rw [if_pos rfl]
  refine EV.meth (pl := ?_) (EV.name (LD.free he (by walk_at "lk") (by walk_at "lk") hcl' ?_))
  rotate_left
  refine gm_list PySem.F.slot_list_pop PySem.F.type_list_pop (List.mem_cons_of_mem _ hu.mem) (EVS.nil ⟨KEEP.bi, CALL.pop (.tail hu) (by rw [sizeLine_eq]; omega) ?_⟩)
  exact ⟨N1, List.sublist_cons_self .., h⟩
theorem fread0 {cl rd lf : Addr} {ct pm code : Value} (hr : Room (n + 1) A) (hm : (rd, Cell.fnc (fdRd cl ct pm code)) ∈ N) (hcl : (cl, Cell.cell (some (.ref lf))) ∈ N) (hl : (lf, Cell.list []) ∈ N) (h : Q (.str "") N) : FN C A rd [.int 1] Q N := by
  refine FN.enterC (fd := fdRd cl ct pm code) (ps := ["most"]) (nm := [("most", .local), ("left", .free)]) hr (fun R s hs => hs.fnc (List.mem_append_left R hm)) rfl rfl (hb1 fun v => rfl) (fun L env he _ _ => ?_)
  replace he : EnvOk env L [("most", .local), ("left", .free)] [("left", cl)] := he
  show STO _ _ _ _ _ _ _
  walk_at "stl"
  intro hr
  have hcl' : (cl, Cell.cell (some (V.ref lf))) ∈ (L, Cell.ns [(("most" : Str), V.int 1)]) :: N := List.mem_cons_of_mem _ hcl
  refine ST.cons (SX.ret (EV.ifexp (IST.val (EV.name (LD.free he (by walk_at "lk") (by walk_at "lk") hcl' (TRU.list (LstAt.mem (List.mem_cons_of_mem _ hl)) (by simp) ?_))))))
  show ite (false = true) _ _
  rw [if_neg Bool.false_ne_true]
  exact EV.cstr ⟨N, List.sublist_cons_self .., h⟩
end

end
section

theorem Upd.pre {a : Addr} {c c' : Cell} {N N' : Led} (u : Upd a c c' N N') : ∀ M : Led, Upd a c c' (M ++ N) (M ++ N')
  | [] => u
  | _ :: M => .tail (Upd.pre u M)

/-- the places of a lexer and its stream -/
structure LA where
  x : Addr
  dx : Addr
  st : Addr
  ds : Addr
  rd : Addr
  cl : Addr
  lf : Addr
  pb : Addr
  pb2 : Addr
  ct : Value
  pm : Value
  code : Value
noncomputable def chV (c : Nat) : V := .str ⟨#[c]⟩
noncomputable abbrev lx1 (a : LA) : List (Str × V) := [("lineno", .int 1), ("instream", .none), ("whitespace", .str "\n\t\r "), ("pushback", .ref a.pb2), ("read", .ref a.rd)]
/-- a lexer before which a text still lies -/
noncomputable def lexL (a : LA) (k : Int) (t : List Nat) (ps : List Str) : Led :=
  [(a.x, .inst 95 a.dx), (a.dx, .attrs (lx0 k (.ref a.st) a.pb) 4), (a.st, .inst 95 a.ds), (a.ds, .attrs (lx1 a) 5), (a.rd, .fnc (fdRd a.cl a.ct a.pm a.code)), (a.cl, .cell (some (.ref a.lf))), (a.lf, .list (t.reverse.map chV)), (a.pb, .list (ps.map .str))]

section
variable {C : Cx} {A : Around} {env : Env} {N N' N1 N2 M : Led} {K : Frag} {n : Nat} {a : LA} {k : Int} {c : Nat} {t : List Nat} {ps : List Str} {Q : V → Led → Prop}

theorem lx_in {p : Addr × Cell} (h : p ∈ lexL a k t ps) : p ∈ M ++ (lexL a k t ps ++ N) := List.mem_append_right _ (List.mem_append_left _ h)
theorem lx_take : Upd a.lf (.list ((c :: t).reverse.map chV)) (.list (t.reverse.map chV)) (M ++ (lexL a k (c :: t) ps ++ N)) (M ++ (lexL a k t ps ++ N)) :=
  Upd.pre (Upd.app (.tail (.tail (.tail (.tail (.tail (.tail .head)))))) N) M
theorem lx_line {k' : Int} : Upd a.dx (.attrs (lx0 k (.ref a.st) a.pb) 4) (.attrs (lx0 k' (.ref a.st) a.pb) 4) (M ++ (lexL a k t ps ++ N)) (M ++ (lexL a k' t ps ++ N)) :=
  Upd.pre (Upd.app (.tail .head) N) M

theorem lx_take' : Upd a.lf (.list (t.reverse.map chV ++ [chV c])) (.list (t.reverse.map chV)) (M ++ (lexL a k (c :: t) ps ++ N)) (M ++ (lexL a k t ps ++ N)) := by
  have := lx_take (a := a) (k := k) (c := c) (t := t) (ps := ps) (M := M) (N := N)
  rw [List.reverse_cons, List.map_append] at this
  exact this
theorem KEEP.fnc {f : Addr} {fd : FuncData} (hm : (f, Cell.fnc fd) ∈ N) : KEEP C (.ref f) N := fun R s hs v e => by
  cases er_ref e
  obtain ⟨⟨o, ho, hd⟩, _⟩ := hs.fnc (List.mem_append_left R hm)
  exact ⟨.frame, .inl rfl, (Looks.ld (part := none) ho).andThen (by rw [hd]; exact .now)⟩
theorem str1_beq (c d : Nat) : ((⟨#[c]⟩ : Str).cps.toList == (⟨#[d]⟩ : Str).cps.toList) = (c == d) := by
  show ([c] == [d]) = _
  simp

theorem f78 (B : Base C) (K1 : ClsOk C K) (hr : Room (n + 2) A) (hz : t.length < 900) (h : Q (.str ⟨#[c]⟩) (M ++ (lexL a (if c = 10 then k + 1 else k) t ps ++ N))) : FN C A 78 [.ref a.x] Q (M ++ (lexL a k (c :: t) ps ++ N)) := by
  refine FN.enter1 (p := "self") (nm := [("self", .local), ("ch", .local)]) hr B.f78 rfl (fun L env he hr => ?_)
  refine ST.cons (SX.assign (EV.meth (pl := ?_) (EV.attr ?_)))
  rotate_left
  walk_at "loc"
  refine GAT.inst K1 (.tail _ (lx_in (.head _))) (.tail _ (lx_in (.tail _ (.head _)))) (by decide) (by walk_at "lk") (by intro _ h; cases h) ?_
  refine GM.own K1 (.tail _ (lx_in (.tail _ (.tail _ (.head _))))) (.tail _ (lx_in (.tail _ (.tail _ (.tail _ (.head _)))))) (by decide) (by walk_at "lk") (by intro _ h; cases h) ?_
  refine EVS.cons (EV.cint (EVS.nil ⟨?_, CALL.fn (fread hr (.tail _ (lx_in (.tail _ (.tail _ (.tail _ (.tail _ (.head _))))))) (.tail _ (lx_in (.tail _ (.tail _ (.tail _ (.tail _ (.tail _ (.head _)))))))) (xs := t.reverse.map chV) (v := chV c) (by simp; omega) (.tail lx_take') ?_)⟩))
  · exact KEEP.fnc (.tail _ (lx_in (.tail _ (.tail _ (.tail _ (.tail _ (.head _)))))))
  · unfold chV
    walk_at "stl"
    refine ST.cons (SX.ifs (IST.cmp ?_))
    walk_at "loc"
    refine EV.cstr (CMP.eqs (TRU.bool ?_))
    rw [show ((⟨#[c]⟩ : Str).cps.toList == ("\n" : Str).cps.toList) = (c == 10) from str1_beq c 10]
    by_cases e : c = 10
    · rw [if_pos e] at h
      subst e
      show ite (true = true) _ _
      rw [if_pos rfl]
      refine ST.cons (SX.augAttr ?_)
      walk_at "loc"
      refine GAT.inst K1 (.tail _ (lx_in (.head _))) (.tail _ (lx_in (.tail _ (.head _)))) (by decide) (by walk_at "lk") (by intro _ h; cases h) ?_
      refine EV.cint (INP.add ?_)
      refine SAT.instOld K1 (.tail _ (lx_in (.head _))) (by decide) rfl Put.head (.tail lx_line) (by decide) ?_
      refine ST.nil (ST.cons (SX.ret ?_))
      walk_at "loc"
      exact ⟨_, List.sublist_cons_self .., h⟩
    · rw [if_neg e] at h
      rw [show (c == 10) = false from beq_false_of_ne e]
      rw [if_neg Bool.false_ne_true]
      refine ST.nil (ST.cons (SX.ret ?_))
      walk_at "loc"
      exact ⟨_, List.sublist_cons_self .., h⟩
end

end
section

noncomputable def inWs (c : Nat) : Bool := !(Builtin.Str.occurrences "\n\t\r " ⟨#[c]⟩ 0 ("\n\t\r " : Str).length 1).isEmpty
noncomputable def spc (c : Nat) : Bool := c == 34 || c == 92 || c == 32
/-- a name's signs with the backslashes -/
noncomputable def esc : List Nat → List Nat
  | [] => []
  | c :: w => if spc c then 92 :: c :: esc w else c :: esc w
noncomputable def okc (c : Nat) : Bool := c != 10 && (spc c || !inWs c)
noncomputable def ifB : Stmt → List Stmt | .If _ b _ _ => b | _ => []
noncomputable def ifE : Stmt → List Stmt | .If _ _ e _ => e | _ => []
noncomputable def forB : Stmt → List Stmt | .For _ _ b _ _ => b | _ => []
noncomputable def forT : Stmt → Expr | .For t _ _ _ _ => t | _ => .Constant .none 0 default
noncomputable def oFor : Stmt := (bodyOf fd85).getD 3 (.Pass default)
noncomputable def qFor : Stmt := (ifB ((forB oFor).getD 1 (.Pass default))).getD 0 (.Pass default)
noncomputable def uFor : Stmt := (ifE ((forB oFor).getD 1 (.Pass default))).getD 2 (.Pass default)

section
variable {C : Cx} {A : Around} {env : Env} {N N' N1 N2 M : Led} {K : Frag} {n : Nat} {a : LA} {k : Int} {c : Nat} {t : List Nat} {ps : List Str} {Q : V → Led → Prop}

theorem inter_off {L : Addr} {nm : List (Str × NameKind)} {cs : List (Str × Addr)} (he : EnvOk env L nm cs) : PySem.interactive env = false := by
  unfold PySem.interactive
  rw [he.kind]; rfl
theorem f78e (B : Base C) (K1 : ClsOk C K) (hr : Room (n + 2) A) (h : Q (.str "") (M ++ (lexL a k [] ps ++ N))) : FN C A 78 [.ref a.x] Q (M ++ (lexL a k [] ps ++ N)) := by
  refine FN.enter1 (p := "self") (nm := [("self", .local), ("ch", .local)]) hr B.f78 rfl (fun L env he hr => ?_)
  refine ST.cons (SX.assign (EV.meth (pl := ?_) (EV.attr ?_)))
  rotate_left
  walk_at "loc"
  refine GAT.inst K1 (.tail _ (lx_in (.head _))) (.tail _ (lx_in (.tail _ (.head _)))) (by decide) (by walk_at "lk") (by intro _ h; cases h) ?_
  refine GM.own K1 (.tail _ (lx_in (.tail _ (.tail _ (.head _))))) (.tail _ (lx_in (.tail _ (.tail _ (.tail _ (.head _)))))) (by decide) (by walk_at "lk") (by intro _ h; cases h) ?_
  refine EVS.cons (EV.cint (EVS.nil ⟨?_, CALL.fn (fread0 hr (.tail _ (lx_in (.tail _ (.tail _ (.tail _ (.tail _ (.head _))))))) (.tail _ (lx_in (.tail _ (.tail _ (.tail _ (.tail _ (.tail _ (.head _)))))))) (.tail _ (lx_in (.tail _ (.tail _ (.tail _ (.tail _ (.tail _ (.tail _ (.head _))))))))) ?_)⟩))
  · exact KEEP.fnc (.tail _ (lx_in (.tail _ (.tail _ (.tail _ (.tail _ (.head _)))))))
  · walk_at "stl"
    refine ST.cons (SX.ifs (IST.cmp ?_))
    walk_at "loc"
    refine EV.cstr (CMP.eqs (TRU.bool ?_))
    rw [show (("" : Str).cps.toList == ("\n" : Str).cps.toList) = false from by decide]
    rw [if_neg Bool.false_ne_true]
    refine ST.nil (ST.cons (SX.ret ?_))
    walk_at "loc"
    exact ⟨_, List.sublist_cons_self .., h⟩

theorem f92 (B : Base C) (K1 : ClsOk C K) (hr : Room (n + 2) A) {x : Str} (hz : ps.length < 900) (h : Q .none (M ++ (lexL a k t (ps ++ [x]) ++ N))) : FN C A 92 [.ref a.x, .str x] Q (M ++ (lexL a k t ps ++ N)) := by
  refine FN.enter2 (p := "self") (q := "token") (nm := [("self", .local), ("token", .local)]) hr B.f92 rfl (fun L env he hr => ?_)
  refine ST.cons (SX.expr (hi := inter_off he) (EV.meth (pl := ?_) (EV.attr ?_)))
  rotate_left
  walk_at "loc"
  refine GAT.inst K1 (.tail _ (lx_in (.head _))) (.tail _ (lx_in (.tail _ (.head _)))) (by decide) (by walk_at "lk") (by intro _ h; cases h) ?_
  refine gm_list PySem.F.slot_list_append PySem.F.type_list_append (.tail _ (lx_in (.tail _ (.tail _ (.tail _ (.tail _ (.tail _ (.tail _ (.tail _ (.head _)))))))))) (EVS.cons ?_)
  walk_at "loc"
  refine EVS.nil ⟨KEEP.bi, CALL.append (xs := ps.map .str) (N' := (L, .ns [("token", .str x), ("self", .ref a.x)]) :: (M ++ (lexL a k t (ps ++ [x]) ++ N))) (.tail (Upd.pre (Upd.app ?_ N) M)) (by rw [List.length_map, sizeLine_eq]; omega) ?_⟩
  · have e : (ps.map V.str ++ [V.str x]) = (ps ++ [x]).map V.str := by simp
    rw [e]
    exact .tail (.tail (.tail (.tail (.tail (.tail (.tail .head))))))
  · exact ST.nil ⟨_, List.sublist_cons_self .., h⟩

/-- a put-back name comes first -/
theorem f85p (B : Base C) (K1 : ClsOk C K) (hr : Room (n + 2) A) {x : Str} (hz : ps.length < 900) (h : Q (.str x) (M ++ (lexL a k t ps ++ N))) : FN C A 85 [.ref a.x] Q (M ++ (lexL a k t (x :: ps) ++ N)) := by
  refine FN.enter1 (p := "self") (nm := [("self", .local), ("token", .local), ("fiter", .local), ("ch", .local), ("iter", .globalImplicit)]) hr B.f85 rfl (fun L env he hr => ?_)
  refine ST.cons (SX.ifs (IST.val (EV.attr ?_)))
  walk_at "loc"
  refine GAT.inst K1 (.tail _ (lx_in (.head _))) (.tail _ (lx_in (.tail _ (.head _)))) (by decide) (by walk_at "lk") (by intro _ h; cases h) ?_
  refine TRU.list (LstAt.mem (.tail _ (lx_in (.tail _ (.tail _ (.tail _ (.tail _ (.tail _ (.tail _ (.tail _ (.head _))))))))))) (by simp; omega) ?_
  show ite (true = true) _ _
  rw [if_pos rfl]
  refine ST.cons (SX.ret (EV.meth (pl := ?_) (EV.attr ?_)))
  rotate_left
  walk_at "loc"
  refine GAT.inst K1 (.tail _ (lx_in (.head _))) (.tail _ (lx_in (.tail _ (.head _)))) (by decide) (by walk_at "lk") (by intro _ h; cases h) ?_
  refine gm_list PySem.F.slot_list_pop PySem.F.type_list_pop (.tail _ (lx_in (.tail _ (.tail _ (.tail _ (.tail _ (.tail _ (.tail _ (.tail _ (.head _)))))))))) (EVS.cons (EV.cint ?_))
  refine EVS.nil ⟨KEEP.bi, CALL.pop0 (x := .str x) (xs := ps.map .str) (.tail (Upd.pre (Upd.app (.tail (.tail (.tail (.tail (.tail (.tail (.tail .head))))))) N) M)) (by rw [List.length_map, sizeLine_eq]; omega) ?_⟩
  exact ⟨_, List.sublist_cons_self .., h⟩
end

end
section

noncomputable abbrev ciC (q : Addr) (tk : Tok) : Cell := .flds "callable_iterator" [.ref q, .str "" tk, .bool false]
noncomputable abbrev nmG : List (Str × NameKind) := [("self", .local), ("token", .local), ("fiter", .local), ("ch", .local), ("iter", .globalImplicit)]
noncomputable def ofL (w : List Nat) : Str := ⟨w.toArray⟩
theorem ofL_nil (x : Str) : x ++ ofL [] = x := by
  apply str_ext
  show (x.cps ++ #[]).toList = _
  simp
theorem ofL_cons (x : Str) (c : Nat) (w : List Nat) : (x ++ (⟨#[c]⟩ : Str)) ++ ofL w = x ++ ofL (c :: w) := by
  apply str_ext
  show ((x.cps ++ #[c]) ++ w.toArray).toList = (x.cps ++ (c :: w).toArray).toList
  simp
theorem Str.len_app (x y : Str) : (x ++ y).length = x.length + y.length := by
  show (x.cps ++ y.cps).size = x.cps.size + y.cps.size
  simp
theorem spc_cases {c : Nat} (h : spc c = false) : c ≠ 34 ∧ c ≠ 92 ∧ c ≠ 32 := by
  unfold spc at h
  simp only [Bool.or_eq_false_iff, beq_eq_false_iff_ne] at h
  exact ⟨h.1.1, h.1.2, h.2⟩

section
variable {C : Cx} {A : Around} {env : Env} {N N' N1 N2 M P P' : Led} {K : Frag} {n : Nat} {a : LA} {k : Int} {c : Nat} {t : List Nat} {ps : List Str} {ci q L : Addr} {tk : Tok}

theorem next_ci (B : Base C) (K1 : ClsOk C K) (hr : Room (n + 3) A) {Q : Option V → Led → Prop} (hci : (ci, ciC q tk) ∈ P) (hq : (q, Cell.raw (methodObj (.ref 78) (.ref a.x))) ∈ P) (hz : t.length < 900)
    (h : Q (some (.str ⟨#[c]⟩)) (P ++ (lexL a (if c = 10 then k + 1 else k) t ps ++ N))) : NXT C A (.ref ci) Q (P ++ (lexL a k (c :: t) ps ++ N)) := by
  refine NXT.ci hr B (List.mem_append_left _ hci) (List.mem_append_left _ hq) (f78 B K1 hr.in1 hz ⟨_, rfl, List.mem_append_left _ hci, List.mem_append_left _ hq, ?_⟩)
  rw [if_neg (by intro e; have := congrArg (fun x : Str => x.cps.size) e; simp at this; exact absurd this (by decide))]
  exact h
theorem next_ci0 (B : Base C) (K1 : ClsOk C K) (hr : Room (n + 3) A) {Q : Option V → Led → Prop} (hdel : Del ci (ciC q tk) P P') (hq : (q, Cell.raw (methodObj (.ref 78) (.ref a.x))) ∈ P)
    (h : Q none (P' ++ (lexL a k [] ps ++ N))) : NXT C A (.ref ci) Q (P ++ (lexL a k [] ps ++ N)) := by
  refine NXT.ci hr B (List.mem_append_left _ hdel.mem) (List.mem_append_left _ hq) (f78e B K1 hr.in1 ⟨_, rfl, List.mem_append_left _ hdel.mem, List.mem_append_left _ hq, ?_⟩)
  rw [if_pos rfl]
  exact ⟨_, hdel.app _, h⟩

noncomputable def lfr (a : LA) (ci : Addr) (tok : Str) (ch : Str) : List (Str × V) := [("self", .ref a.x), ("token", .str tok), ("fiter", .ref ci), ("ch", .str ch)]
noncomputable def LP (a : LA) (L ci q : Addr) (tk : Tok) (tok ch : Str) : Led := [(L, .ns (lfr a ci tok ch)), (ci, ciC q tk), (q, .raw (methodObj (.ref 78) (.ref a.x)))]

theorem esc_len : ∀ w : List Nat, w.length ≤ (esc w).length
  | [] => Nat.le_refl _
  | c :: w => by
    unfold esc
    have := esc_len w
    split <;> simp <;> omega
/-- a read by itself -/
theorem read_ev (B : Base C) (K1 : ClsOk C K) (hr : Room (n + 2) A) {np ap pos : Pos} {pl : Sem Bool} {tok ch : Str} {Q : V → Led → Prop} (he : EnvOk env L nmG []) (hz : t.length < 900)
    (h : Q (.str ⟨#[c]⟩) (LP a L ci q tk tok ch ++ (lexL a (if c = 10 then k + 1 else k) t ps ++ N)))
    (hev : eval (.Call (.Attribute (.Name "self" np) "_read_char" ap) [] [] pos) env = (do
      let ov ← eval (.Name "self" np) env
      standAt ap.atName
      let (f, first) ← holding [ov] (getMethod ov "_read_char" pl)
      callWith pos f first (backTo pos (starEach [] env)) (backToKw pos (keywordEach [] env))) := by rfl) : EV C A env (.Call (.Attribute (.Name "self" np) "_read_char" ap) [] [] pos) Q (LP a L ci q tk tok ch ++ (lexL a k (c :: t) ps ++ N)) := by
  refine EV.meth (pl := pl) ?_ rfl hev
  refine EV.name (LD.local (by assumption) .head (.head _) .head ?_)
  refine GM.cls K1 (lx_in (.head _)) (lx_in (.tail _ (.head _))) K1.m78 (K1.fn 78 (by decide)) (by rfl) (EVS.nil ⟨KEEP.fn B.f78, CALL.fn (f78 B K1 hr hz h)⟩)

theorem loop_q (B : Base C) (K1 : ClsOk C K) (hr : Room (n + 3) A) (he : EnvOk env L nmG []) {Q : Fl → Led → Prop} : ∀ (w : List Nat) (tok ch : Str), (∀ c ∈ w, okc c = true) → (esc w).length + t.length < 800 → tok.length + w.length < 1000 →
    (∀ ch, Q (.ret (.str (tok ++ ofL w))) (LP a L ci q tk (tok ++ ofL w) ch ++ (lexL a k t ps ++ N))) →
    LOOP C A env (forT qFor) (forB qFor) [] (.ref ci) Q (LP a L ci q tk tok ch ++ (lexL a k (esc w ++ 34 :: t) ps ++ N)) := by
  intro w
  induction w with
  | nil =>
    intro tok ch hok hz hz2 h
    refine LOOP.step (next_ci B K1 hr (.tail _ (.head _)) (.tail _ (.tail _ (.head _))) (by simp [esc] at hz; omega) (BND.name ?_))
    refine STO.local he (.tail (by decide) (.tail (by decide) (.tail (by decide) .head))) (.tail (by decide) (.tail (by decide) (.tail (by decide) .head))) .head ?_
    refine ST.cons (SX.ifs (IST.cmp (EV.name (LD.local he (.tail (by decide) (.tail (by decide) (.tail (by decide) .head))) (.head _) (.tail (by decide) (.tail (by decide) (.tail (by decide) .head))) (EV.cstr (CMP.eqs (TRU.bool ?_)))))))
    show ite (true = true) _ _
    rw [if_pos rfl]
    refine ST.cons (SX.ret (EV.name (LD.local he (.tail (by decide) .head) (.head _) (.tail (by decide) .head) ?_)))
    have := h ⟨#[34]⟩
    rw [ofL_nil] at this
    exact this
  | cons c w ih =>
    intro tok ch hok hz hz2 h
    have okc' : okc c = true := hok c List.mem_cons_self
    have hok' : ∀ d ∈ w, okc d = true := fun d hd => hok d (List.mem_cons_of_mem _ hd)
    have h10 : c ≠ 10 := by unfold okc at okc'; simp at okc'; exact okc'.1
    rw [List.length_cons] at hz2
    have l1 : (⟨#[c]⟩ : Str).length = 1 := rfl
    have next : ∀ ch, LOOP C A env (forT qFor) (forB qFor) [] (.ref ci) Q (LP a L ci q tk (tok ++ ⟨#[c]⟩) ch ++ (lexL a k (esc w ++ 34 :: t) ps ++ N)) := fun ch => by
      refine ih (tok ++ ⟨#[c]⟩) ch hok' ?_ ?_ ?_
      · unfold esc at hz; split at hz <;> simp at hz <;> omega
      · rw [Str.len_app, l1]; omega
      · intro ch'; rw [ofL_cons]; exact h ch'
    have hz3 : (esc w).length + t.length < 800 := by unfold esc at hz; split at hz <;> simp at hz <;> omega
    cases hs : spc c
    · obtain ⟨n1, n2, n3⟩ := spc_cases hs
      have e : esc (c :: w) = c :: esc w := by show (if spc c = true then _ else _) = _; rw [hs]; rfl
      rw [e]
      refine LOOP.step (next_ci B K1 hr (.tail _ (.head _)) (.tail _ (.tail _ (.head _))) (by simp; omega) (BND.name ?_))
      rw [if_neg h10]
      refine STO.local (by assumption) (.tail (by decide) (.tail (by decide) (.tail (by decide) .head))) (.tail (by decide) (.tail (by decide) (.tail (by decide) .head))) .head ?_
      refine ST.cons (SX.ifs (IST.cmp ?_))
      refine EV.name (LD.local (by assumption) (.tail (by decide) (.tail (by decide) (.tail (by decide) .head))) (.head _) (.tail (by decide) (.tail (by decide) (.tail (by decide) .head))) ?_)
      refine EV.cstr (CMP.eqs (TRU.bool ?_))
      rw [show ((⟨#[c]⟩ : Str).cps.toList == ("\"" : Str).cps.toList) = false from (str1_beq c 34).trans (beq_false_of_ne n1)]
      rw [if_neg Bool.false_ne_true]
      refine ST.cons (SX.ifs (IST.cmp ?_))
      refine EV.name (LD.local (by assumption) (.tail (by decide) (.tail (by decide) (.tail (by decide) .head))) (.head _) (.tail (by decide) (.tail (by decide) (.tail (by decide) .head))) ?_)
      refine EV.cstr (CMP.eqs (TRU.bool ?_))
      rw [show ((⟨#[c]⟩ : Str).cps.toList == ("\\" : Str).cps.toList) = false from (str1_beq c 92).trans (beq_false_of_ne n2)]
      rw [if_neg Bool.false_ne_true]
      refine ST.nil (ST.nil (ST.cons (SX.aug (LD.local he (.tail (by decide) .head) (.head _) (.tail (by decide) .head) ?_))))
      refine EV.name (LD.local (by assumption) (.tail (by decide) (.tail (by decide) (.tail (by decide) .head))) (.head _) (.tail (by decide) (.tail (by decide) (.tail (by decide) .head))) ?_)
      refine INP.adds (by rw [l1, sizeLine_eq]; omega) ?_
      refine STO.local (by assumption) (.tail (by decide) .head) (.tail (by decide) .head) .head ?_
      exact ST.nil (next _)
    · have e : esc (c :: w) = 92 :: c :: esc w := by show (if spc c = true then _ else _) = _; rw [hs]; rfl
      rw [e]
      refine LOOP.step (next_ci B K1 hr (.tail _ (.head _)) (.tail _ (.tail _ (.head _))) (by simp; omega) (BND.name ?_))
      rw [if_neg (by decide)]
      refine STO.local (by assumption) (.tail (by decide) (.tail (by decide) (.tail (by decide) .head))) (.tail (by decide) (.tail (by decide) (.tail (by decide) .head))) .head ?_
      refine ST.cons (SX.ifs (IST.cmp ?_))
      refine EV.name (LD.local (by assumption) (.tail (by decide) (.tail (by decide) (.tail (by decide) .head))) (.head _) (.tail (by decide) (.tail (by decide) (.tail (by decide) .head))) ?_)
      refine EV.cstr (CMP.eqs (TRU.bool ?_))
      show ite (false = true) _ _
      rw [if_neg Bool.false_ne_true]
      refine ST.cons (SX.ifs (IST.cmp ?_))
      refine EV.name (LD.local (by assumption) (.tail (by decide) (.tail (by decide) (.tail (by decide) .head))) (.head _) (.tail (by decide) (.tail (by decide) (.tail (by decide) .head))) ?_)
      refine EV.cstr (CMP.eqs (TRU.bool ?_))
      show ite (true = true) _ _
      rw [if_pos rfl]
      refine ST.cons (SX.assign (read_ev (n := n + 1) B K1 hr he (by simp; omega) ?_))
      rw [if_neg h10]
      refine STO.local (by assumption) (.tail (by decide) (.tail (by decide) (.tail (by decide) .head))) (.tail (by decide) (.tail (by decide) (.tail (by decide) .head))) .head ?_
      refine ST.nil (ST.nil (ST.cons (SX.aug (LD.local he (.tail (by decide) .head) (.head _) (.tail (by decide) .head) ?_))))
      refine EV.name (LD.local (by assumption) (.tail (by decide) (.tail (by decide) (.tail (by decide) .head))) (.head _) (.tail (by decide) (.tail (by decide) (.tail (by decide) .head))) ?_)
      refine INP.adds (by rw [l1, sizeLine_eq]; omega) ?_
      refine STO.local (by assumption) (.tail (by decide) .head) (.tail (by decide) .head) .head ?_
      exact ST.nil (next _)
end

end
section

section
variable {C : Cx} {A : Around} {env : Env} {N N' N1 N2 M P P' : Led} {K : Frag} {n : Nat} {a : LA} {k : Int} {c d : Nat} {t : List Nat} {ps : List Str} {ci q L : Addr} {tk : Tok}

theorem okc_ws {c : Nat} (h : okc c = true) (hs : spc c = false) : inWs c = false := by
  unfold okc at h
  rw [hs, Bool.false_or] at h
  simp at h
  exact h.2
/-- the white signs, read of the object -/
theorem ws_ev (B : Base C) (K1 : ClsOk C K) (he : EnvOk env L nmG []) {np p : Pos} {tok ch : Str} {Q : V → Led → Prop} (h : Q (.str "\n\t\r ") (LP a L ci q tk tok ch ++ (lexL a k t ps ++ N)))
    (hev : eval (.Attribute (.Name "self" np) "whitespace" p) env = (do
      let o ← eval (.Name "self" np) env
      standAt p.atName
      let r ← holding [o] (getAttr o "whitespace" true)
      letTemporaryGo (.Name "self" np) o r
      pure r) := by with_unfolding_all rfl) : EV C A env (.Attribute (.Name "self" np) "whitespace" p) Q (LP a L ci q tk tok ch ++ (lexL a k t ps ++ N)) := by
  refine EV.attr ?_ hev
  refine EV.name (LD.local (by assumption) .head (.head _) .head ?_)
  exact GAT.inst K1 (lx_in (.head _)) (lx_in (.tail _ (.head _))) (by decide) (by walk_at "lk") (by intro _ h; cases h) h

theorem loop_u (B : Base C) (K1 : ClsOk C K) (hr : Room (n + 3) A) (he : EnvOk env L nmG []) {Q : Fl → Led → Prop} (hd : inWs d = true) : ∀ (w : List Nat) (tok ch : Str), (∀ c ∈ w, okc c = true) → (esc w).length + t.length < 800 → tok.length + w.length < 1000 →
    (∀ ch, Q (.ret (.str (tok ++ ofL w))) (LP a L ci q tk (tok ++ ofL w) ch ++ (lexL a (if d = 10 then k + 1 else k) t ps ++ N))) →
    LOOP C A env (forT uFor) (forB uFor) [] (.ref ci) Q (LP a L ci q tk tok ch ++ (lexL a k (esc w ++ d :: t) ps ++ N)) := by
  intro w
  induction w with
  | nil =>
    intro tok ch hok hz hz2 h
    refine LOOP.step (next_ci B K1 hr (.tail _ (.head _)) (.tail _ (.tail _ (.head _))) (by simp [esc] at hz; omega) (BND.name ?_))
    refine STO.local (by assumption) (.tail (by decide) (.tail (by decide) (.tail (by decide) .head))) (.tail (by decide) (.tail (by decide) (.tail (by decide) .head))) .head ?_
    refine ST.cons (SX.ifs (IST.cmp ?_))
    refine EV.name (LD.local (by assumption) (.tail (by decide) (.tail (by decide) (.tail (by decide) .head))) (.head _) (.tail (by decide) (.tail (by decide) (.tail (by decide) .head))) ?_)
    refine ws_ev B K1 he (CMP.ins (TRU.bool ?_))
    rw [show (!(Builtin.Str.occurrences "\n\t\r " ⟨#[d]⟩ 0 ("\n\t\r " : Str).length 1).isEmpty) = true from hd]
    rw [if_pos rfl]
    refine ST.cons (SX.ret ?_)
    refine EV.name (LD.local (by assumption) (.tail (by decide) .head) (.head _) (.tail (by decide) .head) ?_)
    have := h ⟨#[d]⟩
    rw [ofL_nil] at this
    exact this
  | cons c w ih =>
    intro tok ch hok hz hz2 h
    have okc' : okc c = true := hok c List.mem_cons_self
    have hok' : ∀ d ∈ w, okc d = true := fun d hd => hok d (List.mem_cons_of_mem _ hd)
    have h10 : c ≠ 10 := by unfold okc at okc'; simp at okc'; exact okc'.1
    rw [List.length_cons] at hz2
    have l1 : (⟨#[c]⟩ : Str).length = 1 := rfl
    have next : ∀ ch, LOOP C A env (forT uFor) (forB uFor) [] (.ref ci) Q (LP a L ci q tk (tok ++ ⟨#[c]⟩) ch ++ (lexL a k (esc w ++ d :: t) ps ++ N)) := fun ch => by
      refine ih (tok ++ ⟨#[c]⟩) ch hok' ?_ ?_ ?_
      · unfold esc at hz; split at hz <;> simp at hz <;> omega
      · rw [Str.len_app, l1]; omega
      · intro ch'; rw [ofL_cons]; exact h ch'
    have hz3 : (esc w).length + t.length < 800 := by unfold esc at hz; split at hz <;> simp at hz <;> omega
    cases hs : spc c
    · obtain ⟨n1, n2, n3⟩ := spc_cases hs
      have e : esc (c :: w) = c :: esc w := by show (if spc c = true then _ else _) = _; rw [hs]; rfl
      rw [e]
      refine LOOP.step (next_ci B K1 hr (.tail _ (.head _)) (.tail _ (.tail _ (.head _))) (by simp; omega) (BND.name ?_))
      rw [if_neg h10]
      refine STO.local (by assumption) (.tail (by decide) (.tail (by decide) (.tail (by decide) .head))) (.tail (by decide) (.tail (by decide) (.tail (by decide) .head))) .head ?_
      refine ST.cons (SX.ifs (IST.cmp ?_))
      refine EV.name (LD.local (by assumption) (.tail (by decide) (.tail (by decide) (.tail (by decide) .head))) (.head _) (.tail (by decide) (.tail (by decide) (.tail (by decide) .head))) ?_)
      refine ws_ev B K1 he (CMP.ins (TRU.bool ?_))
      rw [show (!(Builtin.Str.occurrences "\n\t\r " ⟨#[c]⟩ 0 ("\n\t\r " : Str).length 1).isEmpty) = false from okc_ws okc' hs]
      rw [if_neg Bool.false_ne_true]
      refine ST.cons (SX.ifs (IST.cmp ?_))
      refine EV.name (LD.local (by assumption) (.tail (by decide) (.tail (by decide) (.tail (by decide) .head))) (.head _) (.tail (by decide) (.tail (by decide) (.tail (by decide) .head))) ?_)
      refine EV.cstr (CMP.eqs (TRU.bool ?_))
      rw [show ((⟨#[c]⟩ : Str).cps.toList == ("\\" : Str).cps.toList) = false from (str1_beq c 92).trans (beq_false_of_ne n2)]
      rw [if_neg Bool.false_ne_true]
      refine ST.nil (ST.nil (ST.cons (SX.aug (LD.local he (.tail (by decide) .head) (.head _) (.tail (by decide) .head) ?_))))
      refine EV.name (LD.local (by assumption) (.tail (by decide) (.tail (by decide) (.tail (by decide) .head))) (.head _) (.tail (by decide) (.tail (by decide) (.tail (by decide) .head))) ?_)
      refine INP.adds (by rw [l1, sizeLine_eq]; omega) ?_
      refine STO.local (by assumption) (.tail (by decide) .head) (.tail (by decide) .head) .head ?_
      exact ST.nil (next _)
    · have e : esc (c :: w) = 92 :: c :: esc w := by show (if spc c = true then _ else _) = _; rw [hs]; rfl
      rw [e]
      refine LOOP.step (next_ci B K1 hr (.tail _ (.head _)) (.tail _ (.tail _ (.head _))) (by simp; omega) (BND.name ?_))
      rw [if_neg (by decide)]
      refine STO.local (by assumption) (.tail (by decide) (.tail (by decide) (.tail (by decide) .head))) (.tail (by decide) (.tail (by decide) (.tail (by decide) .head))) .head ?_
      refine ST.cons (SX.ifs (IST.cmp ?_))
      refine EV.name (LD.local (by assumption) (.tail (by decide) (.tail (by decide) (.tail (by decide) .head))) (.head _) (.tail (by decide) (.tail (by decide) (.tail (by decide) .head))) ?_)
      refine ws_ev B K1 he (CMP.ins (TRU.bool ?_))
      rw [show (!(Builtin.Str.occurrences "\n\t\r " ⟨#[92]⟩ 0 ("\n\t\r " : Str).length 1).isEmpty) = false from by decide +kernel]
      rw [if_neg Bool.false_ne_true]
      refine ST.cons (SX.ifs (IST.cmp ?_))
      refine EV.name (LD.local (by assumption) (.tail (by decide) (.tail (by decide) (.tail (by decide) .head))) (.head _) (.tail (by decide) (.tail (by decide) (.tail (by decide) .head))) ?_)
      refine EV.cstr (CMP.eqs (TRU.bool ?_))
      show ite (true = true) _ _
      rw [if_pos rfl]
      refine ST.cons (SX.assign (read_ev (n := n + 1) B K1 hr he (by simp; omega) ?_))
      rw [if_neg h10]
      refine STO.local (by assumption) (.tail (by decide) (.tail (by decide) (.tail (by decide) .head))) (.tail (by decide) (.tail (by decide) (.tail (by decide) .head))) .head ?_
      refine ST.nil (ST.nil (ST.cons (SX.aug (LD.local he (.tail (by decide) .head) (.head _) (.tail (by decide) .head) ?_))))
      refine EV.name (LD.local (by assumption) (.tail (by decide) (.tail (by decide) (.tail (by decide) .head))) (.head _) (.tail (by decide) (.tail (by decide) (.tail (by decide) .head))) ?_)
      refine INP.adds (by rw [l1, sizeLine_eq]; omega) ?_
      refine STO.local (by assumption) (.tail (by decide) .head) (.tail (by decide) .head) .head ?_
      exact ST.nil (next _)
end

end
section

section
variable {C : Cx} {A : Around} {env : Env} {N N' N1 N2 M P P' : Led} {K : Frag} {n : Nat} {a : LA} {k : Int} {c d : Nat} {t : List Nat} {ps : List Str} {ci q L : Addr} {tk : Tok} {m : List (Str × V)}

noncomputable def LM (a : LA) (L ci q : Addr) (tk : Tok) (m : List (Str × V)) : Led := [(L, .ns m), (ci, ciC q tk), (q, .raw (methodObj (.ref 78) (.ref a.x)))]
noncomputable def OkM (a : LA) (ci : Addr) (m : List (Str × V)) : Prop := (∀ v, Put m "ch" (.str v) (lfr a ci "" v)) ∧ Lk m "token" (V.str "")

theorem okM_lfr {ch : Str} : OkM a ci (lfr a ci "" ch) := ⟨fun v => .tail (by decide) (.tail (by decide) (.tail (by decide) .head)), .tail (by decide) .head⟩
theorem okM_0 : OkM a ci [("self", .ref a.x), ("token", .str ""), ("fiter", .ref ci)] := ⟨fun v => .tail (by decide) (.tail (by decide) (.tail (by decide) .nil)), .tail (by decide) .head⟩

theorem outer_skip (B : Base C) (K1 : ClsOk C K) (hr : Room (n + 3) A) (he : EnvOk env L nmG []) {Q : Fl → Led → Prop} (hd : inWs d = true) (hm : OkM a ci m) (hz : t.length < 900)
    (h : ∀ ch, LOOP C A env (forT oFor) (forB oFor) [] (.ref ci) Q (LM a L ci q tk (lfr a ci "" ch) ++ (lexL a (if d = 10 then k + 1 else k) t ps ++ N))) :
    LOOP C A env (forT oFor) (forB oFor) [] (.ref ci) Q (LM a L ci q tk m ++ (lexL a k (d :: t) ps ++ N)) := by
  refine LOOP.step (next_ci B K1 hr (.tail _ (.head _)) (.tail _ (.tail _ (.head _))) hz (BND.name ?_))
  refine STO.local he (.tail (by decide) (.tail (by decide) (.tail (by decide) .head))) (hm.1 _) .head ?_
  refine ST.cons (SX.ifs (IST.cmp ?_))
  refine EV.name (LD.local (by assumption) (.tail (by decide) (.tail (by decide) (.tail (by decide) .head))) (.head _) (.tail (by decide) (.tail (by decide) (.tail (by decide) .head))) ?_)
  refine ws_ev (tok := "") (ch := ⟨#[d]⟩) B K1 he (CMP.ins (TRU.bool ?_))
  rw [show (!(Builtin.Str.occurrences "\n\t\r " ⟨#[d]⟩ 0 ("\n\t\r " : Str).length 1).isEmpty) = true from hd]
  rw [if_pos rfl]
  exact ST.cons (SX.cont (h _))

theorem outer_end (B : Base C) (K1 : ClsOk C K) (hr : Room (n + 3) A) {Q : Fl → Led → Prop}
    (h : Q .next ([(L, .ns m), (q, .raw (methodObj (.ref 78) (.ref a.x)))] ++ (lexL a k [] ps ++ N))) : LOOP C A env (forT oFor) (forB oFor) [] (.ref ci) Q (LM a L ci q tk m ++ (lexL a k [] ps ++ N)) :=
  LOOP.step (next_ci0 B K1 hr (.tail .head) (.tail _ (.tail _ (.head _))) h)

theorem outer_q (B : Base C) (K1 : ClsOk C K) (hr : Room (n + 3) A) (he : EnvOk env L nmG []) {Q : Fl → Led → Prop} (hm : OkM a ci m) {w : List Nat} (hok : ∀ c ∈ w, okc c = true) (hz : (esc w).length + t.length < 800) (hz2 : w.length < 900)
    (h : ∀ ch, Q (.ret (.str (ofL w))) (LP a L ci q tk ("" ++ ofL w) ch ++ (lexL a k t ps ++ N))) :
    LOOP C A env (forT oFor) (forB oFor) [] (.ref ci) Q (LM a L ci q tk m ++ (lexL a k (34 :: (esc w ++ 34 :: t)) ps ++ N)) := by
  have e0 : ("" : Str) ++ ofL w = ofL w := by
    apply str_ext
    show (#[] ++ w.toArray).toList = _
    simp [ofL]
  refine LOOP.step (next_ci B K1 hr (.tail _ (.head _)) (.tail _ (.tail _ (.head _))) (by simp; omega) (BND.name ?_))
  refine STO.local he (.tail (by decide) (.tail (by decide) (.tail (by decide) .head))) (hm.1 _) .head ?_
  refine ST.cons (SX.ifs (IST.cmp ?_))
  refine EV.name (LD.local (by assumption) (.tail (by decide) (.tail (by decide) (.tail (by decide) .head))) (.head _) (.tail (by decide) (.tail (by decide) (.tail (by decide) .head))) ?_)
  refine ws_ev (tok := "") (ch := ⟨#[34]⟩) B K1 he (CMP.ins (TRU.bool ?_))
  rw [show (!(Builtin.Str.occurrences "\n\t\r " ⟨#[34]⟩ 0 ("\n\t\r " : Str).length 1).isEmpty) = false from by decide +kernel]
  rw [if_neg Bool.false_ne_true]
  refine ST.nil (ST.cons (SX.ifs (IST.cmp ?_)))
  refine EV.name (LD.local (by assumption) (.tail (by decide) (.tail (by decide) (.tail (by decide) .head))) (.head _) (.tail (by decide) (.tail (by decide) (.tail (by decide) .head))) ?_)
  refine EV.cstr (CMP.eqs (TRU.bool ?_))
  show ite (true = true) _ _
  rw [if_pos rfl]
  refine ST.cons (SX.for_ (EV.name (LD.local he (.tail (by decide) (.tail (by decide) .head)) (.head _) (.tail (by decide) (.tail (by decide) .head)) (ITR.ci (f := .ref q) (t := tk) (.tail _ (.head _)) ?_))))
  refine loop_q (ci := ci) (q := q) (tk := tk) (k := k) (t := t) (ps := ps) (N := N) B K1 hr he w "" ⟨#[34]⟩ hok hz (by have : ("" : Str).length = 0 := rfl; omega) (fun ch => ?_)
  rw [e0]
  have := h ch
  rw [e0] at this
  exact this

theorem outer_u (B : Base C) (K1 : ClsOk C K) (hr : Room (n + 3) A) (he : EnvOk env L nmG []) {Q : Fl → Led → Prop} (hm : OkM a ci m) {w : List Nat} (hd : inWs d = true) (hok : ∀ c ∈ w, okc c = true) (hne : w ≠ []) (hz : (esc w).length + t.length < 800) (hz2 : w.length < 900)
    (h : ∀ tok ch, Q (.ret (.str (ofL w))) (LP a L ci q tk tok ch ++ (lexL a (if d = 10 then k + 1 else k) t ps ++ N))) :
    LOOP C A env (forT oFor) (forB oFor) [] (.ref ci) Q (LM a L ci q tk m ++ (lexL a k (esc w ++ d :: t) ps ++ N)) := by
  match w, hne with
  | c :: w, _ =>
  have okc' : okc c = true := hok c List.mem_cons_self
  have hok' : ∀ d ∈ w, okc d = true := fun d hd => hok d (List.mem_cons_of_mem _ hd)
  have h10 : c ≠ 10 := by unfold okc at okc'; simp at okc'; exact okc'.1
  have l1 : (⟨#[c]⟩ : Str).length = 1 := rfl
  have l0 : ("" : Str).length = 0 := rfl
  rw [List.length_cons] at hz2
  have e0 : ("" : Str) ++ (⟨#[c]⟩ : Str) ++ ofL w = ofL (c :: w) := by
    rw [ofL_cons]
    apply str_ext
    show (#[] ++ (c :: w).toArray).toList = _
    simp [ofL]
  have hz3 : (esc w).length + t.length < 800 := by unfold esc at hz; split at hz <;> simp at hz <;> omega
  cases hs : spc c
  · obtain ⟨n1, n2, n3⟩ := spc_cases hs
    have e : esc (c :: w) = c :: esc w := by show (if spc c = true then _ else _) = _; rw [hs]; rfl
    rw [e]
    refine LOOP.step (next_ci B K1 hr (.tail _ (.head _)) (.tail _ (.tail _ (.head _))) (by simp; omega) (BND.name ?_))
    rw [if_neg h10]
    refine STO.local he (.tail (by decide) (.tail (by decide) (.tail (by decide) .head))) (hm.1 _) .head ?_
    refine ST.cons (SX.ifs (IST.cmp ?_))
    refine EV.name (LD.local (by assumption) (.tail (by decide) (.tail (by decide) (.tail (by decide) .head))) (.head _) (.tail (by decide) (.tail (by decide) (.tail (by decide) .head))) ?_)
    refine ws_ev (tok := "") (ch := ⟨#[c]⟩) B K1 he (CMP.ins (TRU.bool ?_))
    rw [show (!(Builtin.Str.occurrences "\n\t\r " ⟨#[c]⟩ 0 ("\n\t\r " : Str).length 1).isEmpty) = false from okc_ws okc' hs]
    rw [if_neg Bool.false_ne_true]
    refine ST.nil (ST.cons (SX.ifs (IST.cmp ?_)))
    refine EV.name (LD.local (by assumption) (.tail (by decide) (.tail (by decide) (.tail (by decide) .head))) (.head _) (.tail (by decide) (.tail (by decide) (.tail (by decide) .head))) ?_)
    refine EV.cstr (CMP.eqs (TRU.bool ?_))
    rw [show ((⟨#[c]⟩ : Str).cps.toList == ("\"" : Str).cps.toList) = false from (str1_beq c 34).trans (beq_false_of_ne n1)]
    rw [if_neg Bool.false_ne_true]
    refine ST.cons (SX.ifs (IST.cmp ?_))
    refine EV.name (LD.local (by assumption) (.tail (by decide) (.tail (by decide) (.tail (by decide) .head))) (.head _) (.tail (by decide) (.tail (by decide) (.tail (by decide) .head))) ?_)
    refine EV.cstr (CMP.eqs (TRU.bool ?_))
    rw [show ((⟨#[c]⟩ : Str).cps.toList == ("\\" : Str).cps.toList) = false from (str1_beq c 92).trans (beq_false_of_ne n2)]
    rw [if_neg Bool.false_ne_true]
    refine ST.nil (ST.cons (SX.aug (LD.local he (.tail (by decide) .head) (.head _) (.tail (by decide) .head) ?_)))
    refine EV.name (LD.local (by assumption) (.tail (by decide) (.tail (by decide) (.tail (by decide) .head))) (.head _) (.tail (by decide) (.tail (by decide) (.tail (by decide) .head))) ?_)
    refine INP.adds (by rw [l1, l0, sizeLine_eq]; omega) ?_
    refine STO.local (by assumption) (.tail (by decide) .head) (.tail (by decide) .head) .head ?_
    refine ST.cons (SX.for_ (EV.name (LD.local he (.tail (by decide) (.tail (by decide) .head)) (.head _) (.tail (by decide) (.tail (by decide) .head)) (ITR.ci (f := .ref q) (t := tk) (.tail _ (.head _)) ?_))))
    refine loop_u (ci := ci) (q := q) (tk := tk) (k := k) (t := t) (ps := ps) (N := N) B K1 hr he hd w ("" ++ ⟨#[c]⟩) _ hok' hz3 (by rw [Str.len_app, l0, l1]; omega) (fun ch' => ?_)
    rw [e0]
    exact h _ ch'
  · have e : esc (c :: w) = 92 :: c :: esc w := by show (if spc c = true then _ else _) = _; rw [hs]; rfl
    rw [e]
    refine LOOP.step (next_ci B K1 hr (.tail _ (.head _)) (.tail _ (.tail _ (.head _))) (by simp; omega) (BND.name ?_))
    rw [if_neg (by decide)]
    refine STO.local he (.tail (by decide) (.tail (by decide) (.tail (by decide) .head))) (hm.1 _) .head ?_
    refine ST.cons (SX.ifs (IST.cmp ?_))
    refine EV.name (LD.local (by assumption) (.tail (by decide) (.tail (by decide) (.tail (by decide) .head))) (.head _) (.tail (by decide) (.tail (by decide) (.tail (by decide) .head))) ?_)
    refine ws_ev (tok := "") (ch := ⟨#[92]⟩) B K1 he (CMP.ins (TRU.bool ?_))
    rw [show (!(Builtin.Str.occurrences "\n\t\r " ⟨#[92]⟩ 0 ("\n\t\r " : Str).length 1).isEmpty) = false from by decide +kernel]
    rw [if_neg Bool.false_ne_true]
    refine ST.nil (ST.cons (SX.ifs (IST.cmp ?_)))
    refine EV.name (LD.local (by assumption) (.tail (by decide) (.tail (by decide) (.tail (by decide) .head))) (.head _) (.tail (by decide) (.tail (by decide) (.tail (by decide) .head))) ?_)
    refine EV.cstr (CMP.eqs (TRU.bool ?_))
    show ite (false = true) _ _
    rw [if_neg Bool.false_ne_true]
    refine ST.cons (SX.ifs (IST.cmp ?_))
    refine EV.name (LD.local (by assumption) (.tail (by decide) (.tail (by decide) (.tail (by decide) .head))) (.head _) (.tail (by decide) (.tail (by decide) (.tail (by decide) .head))) ?_)
    refine EV.cstr (CMP.eqs (TRU.bool ?_))
    show ite (true = true) _ _
    rw [if_pos rfl]
    refine ST.cons (SX.assign (read_ev (n := n + 1) (tok := "") (ch := ⟨#[92]⟩) B K1 hr he (by simp; omega) ?_))
    rw [if_neg h10]
    refine STO.local (by assumption) (.tail (by decide) (.tail (by decide) (.tail (by decide) .head))) (.tail (by decide) (.tail (by decide) (.tail (by decide) .head))) .head ?_
    refine ST.nil (ST.cons (SX.aug (LD.local he (.tail (by decide) .head) (.head _) (.tail (by decide) .head) ?_)))
    refine EV.name (LD.local (by assumption) (.tail (by decide) (.tail (by decide) (.tail (by decide) .head))) (.head _) (.tail (by decide) (.tail (by decide) (.tail (by decide) .head))) ?_)
    refine INP.adds (by rw [l1, l0, sizeLine_eq]; omega) ?_
    refine STO.local (by assumption) (.tail (by decide) .head) (.tail (by decide) .head) .head ?_
    refine ST.cons (SX.for_ (EV.name (LD.local he (.tail (by decide) (.tail (by decide) .head)) (.head _) (.tail (by decide) (.tail (by decide) .head)) (ITR.ci (f := .ref q) (t := tk) (.tail _ (.head _)) ?_))))
    refine loop_u (ci := ci) (q := q) (tk := tk) (k := k) (t := t) (ps := ps) (N := N) B K1 hr he hd w ("" ++ ⟨#[c]⟩) _ hok' hz3 (by rw [Str.len_app, l0, l1]; omega) (fun ch' => ?_)
    rw [e0]
    exact h _ ch'

/-- get_token with nothing put back, from what its outer loop does -/
theorem f85_of (B : Base C) (K1 : ClsOk C K) (hr : Room (n + 4) A) {Q : V → Led → Prop}
    (h : ∀ A' env L ci q tk m, Room (n + 3) A' → EnvOk env L nmG [] → OkM a ci m → LOOP C A' env (forT oFor) (forB oFor) [] (.ref ci) (fun f N1 => match f with
      | .next => ∃ N2 m', (L, Cell.ns m') ∈ N1 ∧ Lk m' "token" (V.str "") ∧ N2.Sublist N1 ∧ Q (.str "") N2
      | f => End Q f N1) (LM a L ci q tk m ++ (lexL a k t [] ++ N))) : FN C A 85 [.ref a.x] Q (lexL a k t [] ++ N) := by
  refine FN.enter1 (p := "self") (nm := nmG) hr B.f85 rfl (fun L env he hr => ?_)
  refine ST.cons (SX.ifs (IST.val (EV.attr ?_)))
  walk_at "loc"
  refine GAT.inst K1 (.tail _ (List.mem_append_left _ (.head _))) (.tail _ (List.mem_append_left _ (.tail _ (.head _)))) (by decide) (by walk_at "lk") (by intro _ h; cases h) ?_
  refine TRU.list (LstAt.mem (.tail _ (List.mem_append_left _ (.tail _ (.tail _ (.tail _ (.tail _ (.tail _ (.tail _ (.tail _ (.head _))))))))))) (by simp) ?_
  show ite (false = true) _ _
  rw [if_neg Bool.false_ne_true]
  refine ST.nil (ST.cons (SX.assign (EV.cstr ?_)))
  walk_at "stl"
  refine ST.cons (SX.assign (EV.call ?_))
  refine EV.name (LD.blt he (by walk_at "lk") B.b_iter (EVS.cons (EV.attr ?_)))
  walk_at "loc"
  refine GAT.bound K1 (.tail _ (List.mem_append_left _ (.head _))) (.tail _ (List.mem_append_left _ (.tail _ (.head _)))) (by rfl) (fun q => ?_)
  refine EVS.cons (EV.cstr (EVS.nil ⟨KEEP.bi, CALL.iterS (.head _) (fun ci tk => ?_)⟩))
  walk_at "stl"
  refine W.perm (N' := LM a L ci q tk [("self", .ref a.x), ("token", .str ""), ("fiter", .ref ci)] ++ (lexL a k t [] ++ N)) ?_ ?_
  rotate_left
  · exact List.Perm.trans (List.Perm.swap _ _ _) (List.Perm.cons _ (List.Perm.swap _ _ _))
  refine ST.cons (SX.for_ (EV.name (LD.local he (.tail (by decide) (.tail (by decide) .head)) (.head _) (.tail (by decide) (.tail (by decide) .head)) (ITR.ci (f := .ref q) (t := tk) (.tail _ (.head _)) ?_))))
  have := h (A.deeper env) env L ci q tk _ hr he okM_0
  refine fun vi ei R s hs => codeAny_mono (this vi ei R s hs) ?_
  rintro r s' ⟨f, rfl, N1, hs', q1⟩
  refine ⟨f, rfl, N1, hs', ?_⟩
  cases hf : erF f with
  | next =>
    rw [hf] at q1
    obtain ⟨N2, m', hm, hlk, hsub, q2⟩ := q1
    refine ST.cons (SX.ret (EV.name (LD.local he (.tail (by decide) .head) hm hlk ⟨N2, hsub, q2⟩)))
  | brk => rw [hf] at q1; exact q1
  | cont => rw [hf] at q1; exact q1
  | ret v => rw [hf] at q1; exact q1
end

end
section

section
variable {C : Cx} {A : Around} {env : Env} {N N' N1 N2 M P P' : Led} {K : Frag} {n : Nat} {a : LA} {k : Int} {c d : Nat} {t : List Nat} {ps : List Str} {ci q L : Addr} {tk : Tok} {m : List (Str × V)}

/-- line ends of a text, counted onto -/
noncomputable def lnA (k : Int) : List Nat → Int
  | [] => k
  | d :: r => lnA (if d = 10 then k + 1 else k) r
theorem outer_pre (B : Base C) (K1 : ClsOk C K) (hr : Room (n + 3) A) (he : EnvOk env L nmG []) {Q : Fl → Led → Prop} : ∀ (pre : List Nat) (k : Int) (m : List (Str × V)), (∀ d ∈ pre, inWs d = true) → (pre ++ t).length < 900 → OkM a ci m →
    (∀ m, OkM a ci m → LOOP C A env (forT oFor) (forB oFor) [] (.ref ci) Q (LM a L ci q tk m ++ (lexL a (lnA k pre) t ps ++ N))) →
    LOOP C A env (forT oFor) (forB oFor) [] (.ref ci) Q (LM a L ci q tk m ++ (lexL a k (pre ++ t) ps ++ N))
  | [], k, m, _, _, hm, h => h m hm
  | d :: pre, k, m, hd, hz, hm, h => by
    rw [List.cons_append]
    rw [List.cons_append, List.length_cons] at hz
    refine outer_skip B K1 hr he (hd d List.mem_cons_self) hm (by omega) fun ch => ?_
    exact outer_pre B K1 hr he pre _ _ (fun e he => hd e (List.mem_cons_of_mem _ he)) (by omega) okM_lfr h

theorem sub_LP {tok ch : Str} {X : Led} : (X).Sublist (LP a L ci q tk tok ch ++ X) := List.sublist_append_right _ _

theorem f85q (B : Base C) (K1 : ClsOk C K) (hr : Room (n + 4) A) {Q : V → Led → Prop} {w pre : List Nat} (hpre : ∀ d ∈ pre, inWs d = true) (hok : ∀ c ∈ w, okc c = true) (hz : (esc w).length + t.length + pre.length < 700)
    (h : Q (.str (ofL w)) (lexL a (lnA k pre) t [] ++ N)) : FN C A 85 [.ref a.x] Q (lexL a k (pre ++ 34 :: (esc w ++ 34 :: t)) [] ++ N) := by
  have := esc_len w
  refine f85_of B K1 hr fun A' env L ci q tk m hr he hm => outer_pre B K1 hr he pre k m hpre (by simp; omega) hm fun m hm => ?_
  refine outer_q B K1 hr he hm hok (by omega) (by omega) fun ch => ⟨_, sub_LP, h⟩
theorem f85u (B : Base C) (K1 : ClsOk C K) (hr : Room (n + 4) A) {Q : V → Led → Prop} {w pre : List Nat} (hpre : ∀ d ∈ pre, inWs d = true) (hok : ∀ c ∈ w, okc c = true) (hne : w ≠ []) (hd : inWs d = true) (hz : (esc w).length + t.length + pre.length < 700)
    (h : Q (.str (ofL w)) (lexL a (lnA k (pre ++ [d])) t [] ++ N)) : FN C A 85 [.ref a.x] Q (lexL a k (pre ++ (esc w ++ d :: t)) [] ++ N) := by
  have := esc_len w
  have e : ∀ (pre : List Nat) (k : Int), lnA k (pre ++ [d]) = if d = 10 then lnA k pre + 1 else lnA k pre := by
    intro pre
    induction pre with
    | nil => intro k; rfl
    | cons x r ih => intro k; exact ih _
  rw [e] at h
  refine f85_of B K1 hr fun A' env L ci q tk m hr he hm => outer_pre B K1 hr he pre k m hpre (by simp; omega) hm fun m hm => ?_
  exact outer_u B K1 hr he hm hd hok hne (by omega) (by omega) fun tok ch => ⟨_, sub_LP, h⟩
theorem f85e (B : Base C) (K1 : ClsOk C K) (hr : Room (n + 4) A) {Q : V → Led → Prop} {pre : List Nat} (hpre : ∀ d ∈ pre, inWs d = true) (hz : pre.length < 700)
    (h : Q (.str "") (lexL a (lnA k pre) [] [] ++ N)) : FN C A 85 [.ref a.x] Q (lexL a k pre [] ++ N) := by
  refine f85_of B K1 hr fun A' env L ci q tk m hr he hm => ?_
  have := outer_pre (t := []) (ps := []) (N := N) (tk := tk) (q := q) (Q := fun f N1 => match f with
      | .next => ∃ N2 m', (L, Cell.ns m') ∈ N1 ∧ Lk m' "token" (V.str "") ∧ N2.Sublist N1 ∧ Q (.str "") N2
      | f => End Q f N1) B K1 hr he pre k m hpre (by simp; omega) hm fun m hm => outer_end B K1 hr ⟨_, m, .head _, hm.2, List.sublist_append_right _ _, h⟩
  rw [List.append_nil] at this
  exact this
end

end
section

noncomputable def stPos : Stmt → Pos
  | .FunctionDef _ _ _ _ _ _ _ _ _ p => p
  | _ => default
noncomputable def tLex : TbIx := { c := 194, P := 190, line := (stPos ((bodyOf fd195).getD 1 (.Pass default))).line, col := (stPos ((bodyOf fd195).getD 1 (.Pass default))).col, q := "_law_lexer.<locals>.read" }

section
variable {C : Cx} {A : Around} {env : Env} {N N' N1 N2 M P P' : Led} {K : Frag} {n : Nat} {x : Str}

theorem EV.permQ {e : Expr} {Q : V → Led → Prop} (h : EV C A env e (fun v N1 => ∃ N2 N3, N2.Sublist N1 ∧ N3.Perm N2 ∧ Q v N3) N) : EV C A env e Q N := fun R s hs =>
  wm (h R s hs) fun v s' ⟨N1, hs', N2, N3, hsub, hp, q⟩ => ⟨N3, (hs'.weak (hsub.append_right R)).perm (hp.append_right R), q⟩
theorem rev_chs (x : Str) : ((Str.rev x).cps.toList.map fun c => V.str ⟨#[c]⟩) = (x.cps.toList.reverse.map chV) := by
  show x.cps.reverse.toList.map _ = _
  rw [Array.toList_reverse]; rfl

theorem f195 (B : Base C) (K1 : ClsOk C K) (ht : tLex ∈ C.tabs) (hb : C.h₀.BuiltinsAt C.mg 190) (hr : Room (n + 6) A) (hz : x.length < 800) {Q : V → Led → Prop} (h : ∀ a : LA, Q (.ref a.x) (lexL a 1 x.cps.toList [] ++ N)) : FN C A 195 [.str x] Q N := by
  refine FN.enterC (fd := fd195) (ps := ["text"]) (nm := [("text", .local), ("read", .local), ("stream", .local), ("left", .cell), ("list", .globalImplicit), ("_netrclex", .globalImplicit)]) (n := n + 5) hr (fun R s hs => B.f195.at_ hs) rfl rfl (hb1 fun v => rfl) (fun L cl env he hcd hqu => ?_)
  replace he : EnvOk env L [("text", .local), ("read", .local), ("stream", .local), ("left", .cell), ("list", .globalImplicit), ("_netrclex", .globalImplicit)] [("left", cl)] := he
  replace hcd : env.code = .ref 194 := hcd
  show STO _ _ _ _ _ _ _
  walk_at "stl"
  intro hr
  refine ST.cons (SX.assign (EV.call (EV.name (LD.blt he (by walk_at "lk") B.b_list (EVS.cons (EV.strRev ?_))))))
  walk_at "loc"
  refine EV.una (EV.cint (UNA.neg ⟨_, rfl, by rw [sizeLine_eq]; omega, rfl, EVS.nil ⟨KEEP.ty, CALL.listStr hr (by show x.cps.reverse.size ≤ _; rw [Array.size_reverse, sizeLine_eq]; exact Nat.le_trans (Nat.le_of_lt hz) (by decide)) (fun lf => ?_)⟩⟩))
  rw [rev_chs]
  refine STO.cell he (by walk_at "lk") (by walk_at "lk") (.tail .head) ?_
  refine ST.cons (SX.def (t := tLex) (names := [("most", .local), ("left", .free)]) (cx := ("left", cl)) he ht hcd (by rw [hqu]; rfl) rfl rfl rfl hb (fun rd ct pm code => ?_) rfl rfl)
  walk_at "stl"
  refine ST.cons (SX.assign (EV.call (EV.name (LD.glob he (by walk_at "lk") B.g__netrclex (EVS.cons (EV.cnone (EVS.nil ⟨KEEP.cls K1, CALL.cls (r := n + 2) K1 (hr.mono (by omega)) (fun A' hr' st ds => f71 B K1 hr' fun pb2 => ⟨rfl, ?_⟩)⟩)))))))
  walk_at "stl"
  refine ST.cons (SX.assignAttr ?_)
  walk_at "loc"
  walk_at "loc"
  (refine' SAT.inst (by assumption) ?k1 (by decide) ?k3 ?k4 ?k5 ?_; (case k1 => walk_at "mem"); (case k4 => walk_at "upd"); (case k3 => walk_at "put"); (case k5 => omega))
  refine ST.cons (SX.ret (EV.permQ (EV.call (EV.name (LD.glob he (by walk_at "lk") B.g__netrclex (EVS.cons ?_))))))
  walk_at "loc"
  refine EVS.nil ⟨KEEP.cls K1, CALL.cls (r := n + 2) K1 (hr.mono (by omega)) (fun A' hr' x' dx => f71 B K1 hr' fun pb => ⟨rfl, ?_⟩)⟩
  refine ⟨_, _, .cons_cons _ (.cons_cons _ (.cons_cons _ (.cons _ (.cons_cons _ (.cons_cons _ (.cons_cons _ (.cons_cons _ (.cons_cons _ (.cons _ (List.Sublist.refl N)))))))))), ?_, ⟨_, List.Sublist.refl _, h ⟨x', dx, st, ds, rd, cl, lf, pb, pb2, ct, pm, code⟩⟩⟩
  refine List.Perm.trans (.cons _ (.cons _ (.cons _ (.cons _ (.cons _ (.swap _ _ _)))))) ?_
  exact List.perm_middle (l₁ := [_, _, _, _, _, _, _]) (l₂ := N)
end

end
section

noncomputable abbrev nmC : List (Str × NameKind) := [("target", .local), ("source", .local), ("new_callers", .local), ("func", .local), ("caller", .local), ("isinstance", .globalImplicit), ("tuple", .globalImplicit), ("zip", .globalImplicit)]
noncomputable def cpy (kvs : List (Str × V)) : List (Str × V) := kvs.foldl (fun acc p => putK acc p.1 p.2) []
noncomputable def tFor : Stmt := (bodyOf fd162).getD 1 (.Pass default)
noncomputable def sFor : Stmt := (bodyOf fd162).getD 2 (.Pass default)
noncomputable def tgt (d1 d2 nd : Addr) (x : List (Str × V)) : List (Str × V) := ("target", .ref d1) :: ("source", .ref d2) :: ("new_callers", .ref nd) :: x

section
variable {C : Cx} {A : Around} {env : Env} {N N' N1 N2 M P P' : Led} {K : Frag} {n : Nat} {x : Str}

theorem putK_len {K : Type} [DecidableEq K] (kvs : List (K × V)) (k : K) (v : V) : (putK kvs k v).length ≤ kvs.length + 1 := by
  unfold putK
  split
  · simp
  · simp

noncomputable def fcx (x : List (Str × V)) : Prop := x = ([] : List (Str × V)) ∨ ∃ u v, x = ([("func", u), ("caller", v)] : List (Str × V))
theorem fcx_put (u v : V) {x : List (Str × V)} (h : fcx x) {d1 d2 nd : Addr} : ∃ m, Put (tgt d1 d2 nd x) "func" u m ∧ Put m "caller" v (tgt d1 d2 nd [("func", u), ("caller", v)]) := by
  rcases h with rfl | ⟨u0, v0, rfl⟩
  · exact ⟨_, .tail (by decide) (.tail (by decide) (.tail (by decide) .nil)), .tail (by decide) (.tail (by decide) (.tail (by decide) (.tail (by decide) .nil)))⟩
  · exact ⟨_, .tail (by decide) (.tail (by decide) (.tail (by decide) .head)), .tail (by decide) (.tail (by decide) (.tail (by decide) (.tail (by decide) .head)))⟩
/-- the first loop of add_callers -/
theorem loop_t {n : Nat} (hr : Room (n + 1) A) {L it d1 d2 nd : Addr} (he : EnvOk env L nmC []) {kvs : List (Str × V)} {ep : Nat} (hd : (d1, Cell.dictS kvs ep) ∈ N) {Q : Fl → Led → Prop} : ∀ (rest pre : List (Str × V)) (acc : List (Str × V)) (ep2 : Nat) (x : List (Str × V)), kvs = pre ++ rest → acc.length + rest.length ≤ 200 → fcx x →
    (∀ ep2 x, fcx x → Q .next ((L, .ns (tgt d1 d2 nd x)) :: (nd, .dictS (rest.foldl (fun acc p => putK acc p.1 p.2) acc) ep2) :: N)) →
    LOOP C A env (forT tFor) (forB tFor) [] (.ref it) Q ((L, .ns (tgt d1 d2 nd x)) :: (it, .itemIt d1 pre.length kvs.length ep) :: (nd, .dictS acc ep2) :: N) := by
  intro rest
  induction rest with
  | nil =>
    intro pre acc ep2 x e hl hx h
    rw [List.append_nil] at e
    refine LOOP.step (NXT.itemsEnd (dkS C) hr (.tail _ (.tail _ (.tail _ hd))) (by rw [e]; simp) (.tail .head) (h ep2 x hx))
  | cons p rest ih =>
    intro pre acc ep2 x e hl hx h
    obtain ⟨k, v⟩ := p
    rw [List.length_cons] at hl
    have hi : kvs[pre.length]? = some (k, v) := by rw [e]; simp
    obtain ⟨m, hp1, hp2⟩ := fcx_put (.str k) v hx (d1 := d1) (d2 := d2) (nd := nd)
    refine LOOP.items (dkS C) hr (.tail _ (.tail _ (.tail _ hd))) hi (.tail .head) (ASN.name ?_)
    refine STO.local he (.tail (by decide) (.tail (by decide) (.tail (by decide) .head))) hp1 .head (ASN.name ?_)
    refine STO.local he (.tail (by decide) (.tail (by decide) (.tail (by decide) (.tail (by decide) .head)))) hp2 .head ?_
    refine ST.cons (SX.assignSub ?_)
    refine EV.name (LD.local he (by walk_at "lk") (.head _) (.tail (by decide) (.tail (by decide) (.tail (by decide) (.tail (by decide) .head)))) ?_)
    refine EV.name (LD.local he (by walk_at "lk") (.head _) (.tail (by decide) (.tail (by decide) .head)) ?_)
    refine EV.name (LD.local he (by walk_at "lk") (.head _) (.tail (by decide) (.tail (by decide) (.tail (by decide) .head))) ?_)
    refine SIT.dict (dkS C) (kvs := acc) (k := k) (x := v) (ep := ep2) (fun ep' => .tail (.tail .head)) (by rw [sizeLine_eq]; omega) (fun ep' => ?_)
    refine ST.nil ?_
    have := ih (pre ++ [(k, v)]) (putK acc k v) ep' _ (by rw [e]; simp) (by have := putK_len acc k v; omega) (.inr ⟨.str k, v, rfl⟩) h
    rw [List.length_append] at this
    exact this

noncomputable def putG {β : Type} (kvs : List (Str × β)) (k : Str) (v : β) : List (Str × β) := if kvs.any (fun kv => kv.1 = k) then kvs.map (fun kv => if kv.1 = k then (kv.1, v) else kv) else kvs ++ [(k, v)]
noncomputable def getG {β : Type} (kvs : List (Str × β)) (k : Str) : Option β := (kvs.find? fun kv => kv.1 = k).map (·.2)
noncomputable def mapG {β : Type} (g : β → V) (kvs : List (Str × β)) : List (Str × V) := kvs.map fun p => (p.1, g p.2)
theorem putK_mapG {β : Type} (g : β → V) (kvs : List (Str × β)) (k : Str) (v : β) : putK (mapG g kvs) k (g v) = mapG g (putG kvs k v) := by
  unfold putK putG mapG
  rw [List.any_map]
  show (if (kvs.any fun kv => decide (kv.1 = k)) = true then _ else _) = _
  split
  · rw [List.map_map, List.map_map]
    congr 1
    funext p
    by_cases h : p.1 = k
    · simp [h]
    · simp [h]
  · simp
theorem getK_mapG {β : Type} (g : β → V) (kvs : List (Str × β)) (k : Str) : getK (mapG g kvs) k = (getG kvs k).map g := by
  unfold getK getG mapG
  induction kvs with
  | nil => rfl
  | cons p r ih =>
    rw [List.map_cons, List.find?_cons, List.find?_cons]
    by_cases h : p.1 = k
    · simp [h]
    · have h1 : decide (p.1 = k) = false := decide_eq_false h
      rw [h1]
      exact ih
theorem putG_len {β : Type} (kvs : List (Str × β)) (k : Str) (v : β) : (putG kvs k v).length ≤ kvs.length + 1 := by
  unfold putG
  split <;> simp
/-- add_callers with numbers -/
noncomputable def addI (acc src : List (Str × Int)) : List (Str × Int) := src.foldl (fun acc p => match getG acc p.1 with | some o => putG acc p.1 (o + p.2) | none => putG acc p.1 p.2) acc

theorem loop_si (B : Base C) {n : Nat} (hr : Room (n + 1) A) {L it d1 d2 nd : Addr} (he : EnvOk env L nmC []) {kvs : List (Str × Int)} {ep : Nat} (hd : (d2, Cell.dictS (mapG .int kvs) ep) ∈ N) {Q : Fl → Led → Prop} : ∀ (rest pre : List (Str × Int)) (acc : List (Str × Int)) (ep2 : Nat) (x : List (Str × V)), kvs = pre ++ rest → acc.length + rest.length ≤ 200 → fcx x →
    (∀ ep2 x, fcx x → Q .next ((L, .ns (tgt d1 d2 nd x)) :: (nd, .dictS (mapG .int (addI acc rest)) ep2) :: N)) →
    LOOP C A env (forT sFor) (forB sFor) [] (.ref it) Q ((L, .ns (tgt d1 d2 nd x)) :: (it, .itemIt d2 pre.length (mapG V.int kvs).length ep) :: (nd, .dictS (mapG .int acc) ep2) :: N) := by
  intro rest
  induction rest with
  | nil =>
    intro pre acc ep2 x e hl hx h
    rw [List.append_nil] at e
    refine LOOP.step (NXT.itemsEnd (dkS C) hr (.tail _ (.tail _ (.tail _ hd))) (by rw [e]; simp [mapG]) (.tail .head) (h ep2 x hx))
  | cons p rest ih =>
    intro pre acc ep2 x e hl hx h
    obtain ⟨k, v⟩ := p
    rw [List.length_cons] at hl
    have hi : (mapG V.int kvs)[pre.length]? = some (k, .int v) := by rw [e]; simp [mapG]
    obtain ⟨m, hp1, hp2⟩ := fcx_put (.str k) (.int v) hx (d1 := d1) (d2 := d2) (nd := nd)
    have hlen : (mapG V.int acc).length ≤ sizeLine := by rw [mapG, List.length_map, sizeLine_eq]; omega
    have next : ∀ (acc' : List (Str × Int)) ep', acc'.length ≤ acc.length + 1 → addI acc' rest = addI acc ((k, v) :: rest) → LOOP C A env (forT sFor) (forB sFor) [] (.ref it) Q ((L, .ns (tgt d1 d2 nd [("func", .str k), ("caller", .int v)])) :: (it, .itemIt d2 (pre.length + 1) (mapG V.int kvs).length ep) :: (nd, .dictS (mapG .int acc') ep') :: N) := fun acc' ep' hl' ea => by
      have := ih (pre ++ [(k, v)]) acc' ep' _ (by rw [e]; simp) (by omega) (.inr ⟨.str k, .int v, rfl⟩) (fun ep2 x hx => by rw [ea]; exact h ep2 x hx)
      rw [List.length_append] at this
      exact this
    refine LOOP.items (dkS C) hr (.tail _ (.tail _ (.tail _ hd))) hi (.tail .head) (ASN.name ?_)
    refine STO.local he (.tail (by decide) (.tail (by decide) (.tail (by decide) .head))) hp1 .head (ASN.name ?_)
    refine STO.local he (.tail (by decide) (.tail (by decide) (.tail (by decide) (.tail (by decide) .head)))) hp2 .head ?_
    refine ST.cons (SX.ifs (IST.cmp ?_))
    refine EV.name (LD.local he (by walk_at "lk") (.head _) (.tail (by decide) (.tail (by decide) (.tail (by decide) .head))) ?_)
    refine EV.name (LD.local he (by walk_at "lk") (.head _) (.tail (by decide) (.tail (by decide) .head)) ?_)
    refine CMP.inDict (dkS C) (k := k) (.tail _ (.tail _ (.head _))) (TRU.bool ?_)
    rw [getK_mapG, Option.isSome_map]
    cases hg : getG acc k with
    | none =>
      show ite (false = true) _ _
      rw [if_neg Bool.false_ne_true]
      refine ST.cons (SX.assignSub ?_)
      refine EV.name (LD.local he (by walk_at "lk") (.head _) (.tail (by decide) (.tail (by decide) (.tail (by decide) (.tail (by decide) .head)))) ?_)
      refine EV.name (LD.local he (by walk_at "lk") (.head _) (.tail (by decide) (.tail (by decide) .head)) ?_)
      refine EV.name (LD.local he (by walk_at "lk") (.head _) (.tail (by decide) (.tail (by decide) (.tail (by decide) .head))) ?_)
      refine SIT.dict (dkS C) (kvs := mapG .int acc) (k := k) (x := .int v) (ep := ep2) (fun ep' => .tail (.tail .head)) hlen (fun ep' => ?_)
      have e1 : putK (mapG V.int acc) k (.int v) = mapG V.int (putG acc k v) := putK_mapG V.int acc k v
      show ST C A env _ _ ((L, _) :: (it, _) :: (nd, Cell.dictS (putK (mapG V.int acc) k (.int v)) ep') :: N)
      rw [e1]
      refine ST.nil (ST.nil (next _ _ (putG_len ..) ?_))
      show _ = addI (match getG acc k with | some o => putG acc k (o + v) | none => putG acc k v) rest
      rw [hg]
    | some o =>
      show ite (true = true) _ _
      rw [if_pos rfl]
      refine ST.cons (SX.ifs (IST.val (EV.call (EV.name (LD.blt he (by walk_at "lk") B.b_isinstance (EVS.cons ?_))))))
      refine EV.name (LD.local he (by walk_at "lk") (.head _) (.tail (by decide) (.tail (by decide) (.tail (by decide) (.tail (by decide) .head)))) ?_)
      refine EVS.cons (EV.name (LD.blt he (by walk_at "lk") B.b_tuple (EVS.nil ⟨KEEP.bi, isiInt (TRU.bool ?_)⟩)))
      rw [if_neg Bool.false_ne_true]
      refine ST.cons (SX.augSub ?_)
      refine EV.name (LD.local he (by walk_at "lk") (.head _) (.tail (by decide) (.tail (by decide) .head)) ?_)
      refine EV.name (LD.local he (by walk_at "lk") (.head _) (.tail (by decide) (.tail (by decide) (.tail (by decide) .head))) ?_)
      refine GIT.dict (dkS C) (k := k) (x := .int o) (.tail _ (.tail _ (.head _))) (by rw [getK_mapG, hg]; rfl) ?_
      refine EV.name (LD.local he (by walk_at "lk") (.head _) (.tail (by decide) (.tail (by decide) (.tail (by decide) (.tail (by decide) .head)))) ?_)
      refine INP.add ?_
      refine SIT.dict (dkS C) (kvs := mapG .int acc) (k := k) (x := .int (o + v)) (ep := ep2) (fun ep' => .tail (.tail .head)) hlen (fun ep' => ?_)
      have e1 : putK (mapG V.int acc) k (.int (o + v)) = mapG V.int (putG acc k (o + v)) := putK_mapG V.int acc k (o + v)
      show ST C A env _ _ ((L, _) :: (it, _) :: (nd, Cell.dictS (putK (mapG V.int acc) k (.int (o + v))) ep') :: N)
      rw [e1]
      refine ST.nil (ST.nil (ST.nil (next _ _ (putG_len ..) ?_)))
      show _ = addI (match getG acc k with | some o => putG acc k (o + v) | none => putG acc k v) rest
      rw [hg]
end

end
section

section
variable {C : Cx} {A : Around} {env : Env} {N N' N1 N2 M P P' : Led} {K : Frag} {n : Nat} {x : Str}

theorem LOOP.re {target : Expr} {body orelse : List Stmt} {it : V} {Q : Fl → Led → Prop} (h : LOOP C A env target body orelse it Q N1) (hs : N2.Sublist N) (hp : N1.Perm N2) : LOOP C A env target body orelse it Q N := fun vi e R s h0 =>
  h vi e R s ((h0.weak (hs.append_right R)).perm (hp.append_right R))
noncomputable def cpyG {β : Type} (kvs : List (Str × β)) : List (Str × β) := kvs.foldl (fun acc p => putG acc p.1 p.2) []
theorem cpy_fold {β : Type} (g : β → V) : ∀ (kvs acc : List (Str × β)), (mapG g kvs).foldl (fun acc p => putK acc p.1 p.2) (mapG g acc) = mapG g (kvs.foldl (fun acc p => putG acc p.1 p.2) acc)
  | [], acc => rfl
  | p :: r, acc => by
    show (mapG g r).foldl _ (putK (mapG g acc) p.1 (g p.2)) = _
    rw [putK_mapG]
    exact cpy_fold g r _
theorem cpyG_len {β : Type} : ∀ (kvs acc : List (Str × β)), (kvs.foldl (fun acc p => putG acc p.1 p.2) acc).length ≤ acc.length + kvs.length
  | [], acc => Nat.le_refl _
  | p :: r, acc => by
    have h1 := cpyG_len r (putG acc p.1 p.2)
    have h2 := putG_len acc p.1 p.2
    show (r.foldl _ (putG acc p.1 p.2)).length ≤ _
    rw [List.length_cons]; omega
theorem f162i (B : Base C) (hr : Room (n + 2) A) {d1 d2 : Addr} {k1 k2 : List (Str × Int)} {ep1 ep2 : Nat} (h1 : (d1, Cell.dictS (mapG .int k1) ep1) ∈ N) (h2 : (d2, Cell.dictS (mapG .int k2) ep2) ∈ N) (hz : k1.length + k2.length ≤ 100) {Q : V → Led → Prop}
    (h : ∀ d ep, Q (.ref d) ((d, .dictS (mapG .int (addI (cpyG k1) k2)) ep) :: N)) : FN C A 162 [.ref d1, .ref d2] Q N := by
  refine FN.enterC (fd := fd162) (ps := ["target", "source"]) (nm := nmC) (n := n + 1) hr (fun R s hs => B.f162.at_ hs) rfl rfl (hb2 fun v w => rfl) (fun L env he _ _ => ?_)
  replace he : EnvOk env L nmC [] := he
  show STO _ _ _ _ _ _ _
  refine STO.local he (by walk_at "lk") (m' := [("target", .ref d1)]) .nil .head ?_
  refine STO.local he (by walk_at "lk") (m' := [("target", .ref d1), ("source", .ref d2)]) (.tail (by decide) .nil) .head ?_
  intro hr
  refine ST.cons (SX.assign (EV.dict0 (dkS C) fun nd ep => ?_))
  refine STO.local he (by walk_at "lk") (m' := [("target", .ref d1), ("source", .ref d2), ("new_callers", .ref nd)]) (.tail (by decide) (.tail (by decide) .nil)) (.tail .head) ?_
  refine ST.cons (SX.for_ (EV.meth (pl := ?_) ?_))
  rotate_left
  refine EV.name (LD.local he (by walk_at "lk") (.tail _ (.head _)) .head ?_)
  refine gm_dict (dkS C) PySem.F.slot_dict_items PySem.F.type_dict_items (.tail _ (.tail _ h1)) (EVS.nil ⟨KEEP.bi, CALL.items (dkS C) (.tail _ (.tail _ h1)) (fun vw => ITR.items (dkS C) (.tail _ (.tail _ (.tail _ h1))) (.head _) (fun it => ?_))⟩)
  refine LOOP.re (N1 := (L, .ns (tgt d1 d2 nd [])) :: (it, .itemIt d1 0 (mapG V.int k1).length ep1) :: (nd, .dictS [] ep) :: N) (N2 := (it, .itemIt d1 0 (mapG V.int k1).length ep1) :: (nd, .dictS [] ep) :: (L, .ns (tgt d1 d2 nd [])) :: N) ?_ (.cons_cons _ (.cons _ (List.Sublist.refl _))) (List.Perm.trans (.swap _ _ _) (.cons _ (.swap _ _ _)))
  refine loop_t hr he h1 (mapG .int k1) [] [] ep [] rfl (by simp [mapG]; omega) (.inl rfl) (fun ep3 x hx => ?_)
  have e1 : (mapG V.int k1).foldl (fun acc p => putK acc p.1 p.2) [] = mapG V.int (cpyG k1) := cpy_fold V.int k1 []
  rw [e1]
  refine ST.cons (SX.for_ (EV.meth (pl := ?_) ?_))
  rotate_left
  refine EV.name (LD.local he (by walk_at "lk") (.head _) (.tail (by decide) .head) ?_)
  refine gm_dict (dkS C) PySem.F.slot_dict_items PySem.F.type_dict_items (.tail _ (.tail _ h2)) (EVS.nil ⟨KEEP.bi, CALL.items (dkS C) (.tail _ (.tail _ h2)) (fun vw2 => ITR.items (dkS C) (.tail _ (.tail _ (.tail _ h2))) (.head _) (fun it2 => ?_))⟩)
  refine LOOP.re (N1 := (L, .ns (tgt d1 d2 nd x)) :: (it2, .itemIt d2 0 (mapG V.int k2).length ep2) :: (nd, .dictS (mapG V.int (cpyG k1)) ep3) :: N) (N2 := (it2, .itemIt d2 0 (mapG V.int k2).length ep2) :: (L, .ns (tgt d1 d2 nd x)) :: (nd, .dictS (mapG V.int (cpyG k1)) ep3) :: N) ?_ (.cons_cons _ (.cons _ (List.Sublist.refl _))) (.swap _ _ _)
  have hl := cpyG_len k1 []
  refine loop_si B hr he h2 k2 [] (cpyG k1) ep3 x rfl (by rw [List.length_nil] at hl; unfold cpyG; omega) hx (fun ep4 x hx => ?_)
  refine ST.cons (SX.ret (EV.name (LD.local he (by walk_at "lk") (.head _) (.tail (by decide) (.tail (by decide) .head)) ?_)))
  exact ⟨_, List.sublist_cons_self .., h _ _⟩

noncomputable abbrev nmN : List (Str × NameKind) := [("callers", .local), ("nc", .local), ("calls", .local)]
noncomputable def cFor : Stmt := (bodyOf fd169).getD 1 (.Pass default)
theorem loop_c (hr : Room (n + 1) A) {L it d : Addr} (he : EnvOk env L nmN []) {kvs : List (Str × Int)} {ep : Nat} (hd : (d, Cell.dictS (mapG .int kvs) ep) ∈ N) {Q : Fl → Led → Prop} : ∀ (rest pre : List (Str × Int)) (c : Int) (x : List (Str × V)), kvs = pre ++ rest → (x = ([] : List (Str × V)) ∨ ∃ v, x = ([("calls", v)] : List (Str × V))) →
    (∀ x, Q .next ((L, .ns (("callers", .ref d) :: ("nc", .int (c + (rest.map (·.2)).sum)) :: x)) :: N)) →
    LOOP C A env (forT cFor) (forB cFor) [] (.ref it) Q ((L, .ns (("callers", .ref d) :: ("nc", .int c) :: x)) :: (it, .flds "dict_valueiterator" [.ref d, .int pre.length 0, .int (mapG V.int kvs).length 0, .int ep 0]) :: N) := by
  intro rest
  induction rest with
  | nil =>
    intro pre c x e hx h
    rw [List.append_nil] at e
    have := h x
    rw [List.map_nil, List.sum_nil, Int.add_zero] at this
    exact LOOP.step (NXT.valuesEnd (dkS C) hr (.tail _ (.tail _ hd)) (by rw [e]; simp [mapG]) (.tail .head) this)
  | cons p rest ih =>
    intro pre c x e hx h
    obtain ⟨k, v⟩ := p
    have hi : (mapG V.int kvs)[pre.length]? = some (k, .int v) := by rw [e]; simp [mapG]
    have hp : Put (("callers", V.ref d) :: ("nc", .int c) :: x) "calls" (V.int v) (("callers", V.ref d) :: ("nc", .int c) :: [("calls", .int v)]) := by
      rcases hx with rfl | ⟨v0, rfl⟩
      · exact .tail (by decide) (.tail (by decide) .nil)
      · exact .tail (by decide) (.tail (by decide) .head)
    refine LOOP.step (NXT.values (dkS C) (.tail _ (.tail _ hd)) hi (.tail .head) (BND.name ?_))
    refine STO.local he (by walk_at "lk") hp .head ?_
    refine ST.cons (SX.aug (LD.local he (by walk_at "lk") (.head _) (.tail (by decide) .head) ?_))
    refine EV.name (LD.local he (by walk_at "lk") (.head _) (.tail (by decide) (.tail (by decide) .head)) (INP.add ?_))
    refine STO.local he (by walk_at "lk") (.tail (by decide) .head) .head (ST.nil ?_)
    have := ih (pre ++ [(k, v)]) (c + v) [("calls", .int v)] (by rw [e]; simp) (.inr ⟨_, rfl⟩) (fun x => by
      have := h x
      rw [List.map_cons, List.sum_cons, ← Int.add_assoc] at this
      exact this)
    rw [List.length_append] at this
    exact this
theorem f169 (B : Base C) (hr : Room (n + 2) A) {d : Addr} {k1 : List (Str × Int)} {ep1 : Nat} (h1 : (d, Cell.dictS (mapG .int k1) ep1) ∈ N) {Q : V → Led → Prop} (h : Q (.int (k1.map (·.2)).sum) N) : FN C A 169 [.ref d] Q N := by
  refine FN.enter1 (p := "callers") (nm := nmN) hr B.f169 rfl (fun L env he hr => ?_)
  refine ST.cons (SX.assign (EV.cint ?_))
  walk_at "stl"
  refine ST.cons (SX.for_ (EV.meth (pl := ?_) ?_))
  rotate_left
  refine EV.name (LD.local he (by walk_at "lk") (.head _) .head ?_)
  refine gm_dict (dkS C) PySem.F.slot_dict_values PySem.F.type_dict_values (.tail _ h1) (EVS.nil ⟨KEEP.bi, CALL.values (dkS C) (.tail _ h1) (fun vw => ITR.values (dkS C) (.tail _ (.tail _ h1)) (.head _) (fun it => ?_))⟩)
  refine LOOP.re (N1 := (L, .ns (("callers", .ref d) :: ("nc", .int 0) :: [])) :: (it, .flds "dict_valueiterator" [.ref d, .int ((0 : Nat) : Int) 0, .int (mapG V.int k1).length 0, .int ep1 0]) :: N) (N2 := (it, .flds "dict_valueiterator" [.ref d, .int ((0 : Nat) : Int) 0, .int (mapG V.int k1).length 0, .int ep1 0]) :: (L, .ns (("callers", .ref d) :: ("nc", .int 0) :: [])) :: N) ?_ (.cons_cons _ (.cons _ (List.Sublist.refl _))) (.swap _ _ _)
  refine loop_c hr he h1 k1 [] 0 [] rfl (.inl rfl) (fun x => ?_)
  rw [Int.zero_add]
  refine ST.cons (SX.ret (EV.name (LD.local he (by walk_at "lk") (.head _) (.tail (by decide) .head) ?_)))
  exact ⟨_, List.sublist_cons_self .., h⟩
end

end
section

/-- a dict's pairs, their tuples among the cells -/
inductive PIn (M : Led) : List (Str × V) → List (Str × (Int × Int)) → Prop
  | nil : PIn M [] []
  | cons {k : Str} {t : Addr} {a b : Int} {e p} : (t, Cell.tup [.int a, .int b]) ∈ M → PIn M e p → PIn M ((k, .ref t) :: e) ((k, (a, b)) :: p)
theorem PIn.mono {M M' : Led} (h : ∀ p ∈ M, p ∈ M') {e p} (x : PIn M e p) : PIn M' e p := by
  induction x with
  | nil => exact .nil
  | cons m _ ih => exact .cons (h _ m) ih
theorem PIn.len {M : Led} {e p} (x : PIn M e p) : e.length = p.length := by
  induction x with
  | nil => rfl
  | cons m _ ih => rw [List.length_cons, List.length_cons, ih]
theorem PIn.none {M : Led} {e p} (x : PIn M e p) {k : Str} (h : getG p k = none) : getK e k = none := by
  induction x with
  | nil => rfl
  | @cons k' t a b e p m _ ih =>
    unfold getG at h
    unfold getK
    rw [List.find?_cons] at h ⊢
    by_cases hk : k' = k
    · simp [hk] at h
    · have h1 : decide (k' = k) = false := decide_eq_false hk
      rw [h1] at h ⊢
      exact ih h
theorem PIn.some {M : Led} {e p} (x : PIn M e p) {k : Str} {a b : Int} (h : getG p k = some (a, b)) : ∃ t, getK e k = some (.ref t) ∧ (t, Cell.tup [.int a, .int b]) ∈ M := by
  induction x with
  | nil => cases h
  | @cons k' t a' b' e p m _ ih =>
    unfold getG at h
    unfold getK
    rw [List.find?_cons] at h ⊢
    by_cases hk : k' = k
    · simp [hk] at h
      obtain ⟨rfl, rfl⟩ := h
      exact ⟨t, by simp [hk], m⟩
    · have h1 : decide (k' = k) = false := decide_eq_false hk
      rw [h1] at h ⊢
      exact ih h
theorem PIn.any {M : Led} {e p} (x : PIn M e p) {k : Str} : e.any (fun kv => kv.1 = k) = p.any (fun kv => kv.1 = k) := by
  induction x with
  | nil => rfl
  | cons m _ ih => rw [List.any_cons, List.any_cons, ih]
theorem PIn.app {M : Led} {e p} (x : PIn M e p) {k : Str} {t : Addr} {a b : Int} (m : (t, Cell.tup [.int a, .int b]) ∈ M) : PIn M (e ++ [(k, .ref t)]) (p ++ [(k, (a, b))]) := by
  induction x with
  | nil => exact .cons m .nil
  | cons m' _ ih => exact .cons m' ih
theorem PIn.map {M : Led} {e p} (x : PIn M e p) {k : Str} {t : Addr} {a b : Int} (m : (t, Cell.tup [.int a, .int b]) ∈ M) : PIn M (e.map fun kv => if kv.1 = k then (kv.1, V.ref t) else kv) (p.map fun kv => if kv.1 = k then (kv.1, (a, b)) else kv) := by
  induction x with
  | nil => exact .nil
  | @cons k' t' a' b' e p m' _ ih =>
    rw [List.map_cons, List.map_cons]
    by_cases hk : k' = k
    · simp only [hk, if_true]
      exact .cons m ih
    · simp only [hk, if_false]
      exact .cons m' ih
theorem PIn.put {M : Led} {e p} (x : PIn M e p) {k : Str} {t : Addr} {a b : Int} (m : (t, Cell.tup [.int a, .int b]) ∈ M) : PIn M (putK e k (.ref t)) (putG p k (a, b)) := by
  unfold putK putG
  rw [x.any]
  split
  · exact x.map m
  · exact x.app m
/-- add_callers with pairs -/
noncomputable def addP (acc src : List (Str × (Int × Int))) : List (Str × (Int × Int)) := src.foldl (fun acc p => match getG acc p.1 with | some o => putG acc p.1 (p.2.1 + o.1, p.2.2 + o.2) | none => putG acc p.1 p.2) acc
noncomputable def asgV : Stmt → Expr | .Assign _ v _ => v | _ => .Constant .none 0 default
noncomputable def callA : Expr → Expr | .Call _ (a :: _) _ _ => a | e => e
noncomputable def gePos : Expr → Pos | .GeneratorExp _ _ _ p => p | _ => default
noncomputable def tAdd : TbIx :=
  let g := gePos (callA (asgV ((ifB ((ifB ((forB sFor).getD 0 (.Pass default))).getD 0 (.Pass default))).getD 0 (.Pass default))))
  { c := 161, P := 157, line := g.line, col := g.col, q := "add_callers.<locals>.<genexpr>" }

section
variable {C : Cx} {A : Around} {env : Env} {N N' N1 N2 M P P' : Led} {K : Frag} {n : Nat} {x : Str}

theorem loop_sp (B : Base C) (ht : tAdd ∈ C.tabs) (hb : C.h₀.BuiltinsAt C.mg 157) {n : Nat} (hr : Room (n + 1) A) {L it d1 d2 nd : Addr} (he : EnvOk env L nmC []) (hcd : env.code = .ref 161) (hqu : env.qual = "add_callers.<locals>.") {kvs : List (Str × (Int × Int))} {ks : List (Str × V)} {ep : Nat} {Q : Fl → Led → Prop} :
    ∀ (rest pre : List (Str × (Int × Int))) (rs ps : List (Str × V)) (acc : List (Str × (Int × Int))) (e : List (Str × V)) (ep2 : Nat) (x : List (Str × V)) (N : Led), ks = ps ++ rs → ps.length = pre.length → PIn N rs rest → (d2, Cell.dictS ks ep) ∈ N → PIn N e acc → acc.length + rest.length ≤ 200 → fcx x →
    (∀ ep2 x e' T, fcx x → PIn (T ++ N) e' (addP acc rest) → Q .next ((L, .ns (tgt d1 d2 nd x)) :: (nd, .dictS e' ep2) :: (T ++ N))) →
    LOOP C A env (forT sFor) (forB sFor) [] (.ref it) Q ((L, .ns (tgt d1 d2 nd x)) :: (it, .itemIt d2 ps.length ks.length ep) :: (nd, .dictS e ep2) :: N) := by
  intro rest
  induction rest with
  | nil =>
    intro pre rs ps acc e ep2 x N hks hl hrs hd hacc hz hx h
    cases hrs
    rw [List.append_nil] at hks
    exact LOOP.step (NXT.itemsEnd (dkS C) hr (.tail _ (.tail _ (.tail _ hd))) (by rw [hks]; simp) (.tail .head) (h ep2 x e [] hx hacc))
  | cons p rest ih =>
    intro pre rs ps acc e ep2 x N hks hl hrs hd hacc hz hx h
    cases hrs with
    | @cons k t a b rs' _ hm hrs' =>
    rw [List.length_cons] at hz
    have hi : ks[ps.length]? = some (k, .ref t) := by rw [hks]; simp
    obtain ⟨m, hp1, hp2⟩ := fcx_put (.str k) (.ref t) hx (d1 := d1) (d2 := d2) (nd := nd)
    have hlen : e.length ≤ sizeLine := by rw [hacc.len, sizeLine_eq]; omega
    have next : ∀ (acc' : List (Str × (Int × Int))) (e' : List (Str × V)) ep' (T : Led), PIn (T ++ N) e' acc' → acc'.length ≤ acc.length + 1 → addP acc' rest = addP acc ((k, (a, b)) :: rest) →
        LOOP C A env (forT sFor) (forB sFor) [] (.ref it) Q ((L, .ns (tgt d1 d2 nd [("func", .str k), ("caller", .ref t)])) :: (it, .itemIt d2 (ps.length + 1) ks.length ep) :: (nd, .dictS e' ep') :: (T ++ N)) := fun acc' e' ep' T hp hl' ea => by
      have mono : ∀ q ∈ N, q ∈ T ++ N := fun q hq => List.mem_append_right _ hq
      have := ih (pre ++ [(k, (a, b))]) rs' (ps ++ [(k, .ref t)]) acc' e' ep' _ (T ++ N) (by rw [hks]; simp) (by simp [hl]) (hrs'.mono mono) (mono _ hd) hp (by omega) (.inr ⟨.str k, .ref t, rfl⟩) (fun ep2 x e'' T' hx hp => by
        have := h ep2 x e'' (T' ++ T) hx (by rw [← ea, List.append_assoc]; exact hp)
        rw [List.append_assoc] at this
        exact this)
      rw [List.length_append] at this
      exact this
    refine LOOP.items (dkS C) hr (.tail _ (.tail _ (.tail _ hd))) hi (.tail .head) (ASN.name ?_)
    refine STO.local he (.tail (by decide) (.tail (by decide) (.tail (by decide) .head))) hp1 .head (ASN.name ?_)
    refine STO.local he (.tail (by decide) (.tail (by decide) (.tail (by decide) (.tail (by decide) .head)))) hp2 .head ?_
    refine ST.cons (SX.ifs (IST.cmp ?_))
    refine EV.name (LD.local he (by walk_at "lk") (.head _) (.tail (by decide) (.tail (by decide) (.tail (by decide) .head))) ?_)
    refine EV.name (LD.local he (by walk_at "lk") (.head _) (.tail (by decide) (.tail (by decide) .head)) ?_)
    refine CMP.inDict (dkS C) (k := k) (.tail _ (.tail _ (.head _))) (TRU.bool ?_)
    cases hg : getG acc k with
    | none =>
      rw [hacc.none hg]
      show ite (false = true) _ _
      rw [if_neg Bool.false_ne_true]
      refine ST.cons (SX.assignSub ?_)
      refine EV.name (LD.local he (by walk_at "lk") (.head _) (.tail (by decide) (.tail (by decide) (.tail (by decide) (.tail (by decide) .head)))) ?_)
      refine EV.name (LD.local he (by walk_at "lk") (.head _) (.tail (by decide) (.tail (by decide) .head)) ?_)
      refine EV.name (LD.local he (by walk_at "lk") (.head _) (.tail (by decide) (.tail (by decide) (.tail (by decide) .head))) ?_)
      refine SIT.dict (dkS C) (kvs := e) (k := k) (x := .ref t) (ep := ep2) (fun ep' => .tail (.tail .head)) hlen (fun ep' => ?_)
      refine ST.nil (ST.nil (next (putG acc k (a, b)) _ _ [] (hacc.put hm) (putG_len ..) ?_))
      show _ = addP (match getG acc k with | some o => putG acc k (a + o.1, b + o.2) | none => putG acc k (a, b)) rest
      rw [hg]
    | some o =>
      obtain ⟨o1, o2⟩ := o
      obtain ⟨t0, hk0, hm0⟩ := hacc.some hg
      rw [hk0]
      show ite (true = true) _ _
      rw [if_pos rfl]
      refine ST.cons (SX.ifs (IST.val (EV.call (EV.name (LD.blt he (by walk_at "lk") B.b_isinstance (EVS.cons ?_))))))
      refine EV.name (LD.local he (by walk_at "lk") (.head _) (.tail (by decide) (.tail (by decide) (.tail (by decide) (.tail (by decide) .head)))) ?_)
      refine EVS.cons (EV.name (LD.blt he (by walk_at "lk") B.b_tuple (EVS.nil ⟨KEEP.bi, isiTup (TupAt.mem (.tail _ (.tail _ (.tail _ hm)))) (TRU.bool ?_)⟩)))
      rw [if_pos rfl]
      refine ST.cons (SX.assignSub ?_)
      refine EV.genAdd (t := tAdd) (n := n) he hr ht hcd rfl rfl (by rw [hqu]; rfl) hb rfl rfl (by decide) rfl rfl rfl (by decide) (by decide) (by decide) rfl rfl (fun Q h => EV.name (LD.blt he (by walk_at "lk") B.b_tuple h)) ?_
      refine EV.call (EV.name (LD.blt he (by walk_at "lk") B.b_zip (EVS.cons ?_)))
      refine EV.name (LD.local he (by walk_at "lk") (.head _) (.tail (by decide) (.tail (by decide) (.tail (by decide) (.tail (by decide) .head)))) ?_)
      refine EVS.cons (EV.sub ?_)
      refine EV.name (LD.local he (by walk_at "lk") (.head _) (.tail (by decide) (.tail (by decide) .head)) ?_)
      refine EV.name (LD.local he (by walk_at "lk") (.head _) (.tail (by decide) (.tail (by decide) (.tail (by decide) .head))) ?_)
      refine SUB.dict (dkS C) (k := k) (.tail _ (.tail _ (.head _))) (GIT.dict (dkS C) (.tail _ (.tail _ (.head _))) hk0 ?_) (fun _ => nofun)
      refine EVS.nil ⟨KEEP.ty, CALL.zip (TupAt.mem (.tail _ (.tail _ (.tail _ hm)))) (TupAt.mem (.tail _ (.tail _ (.tail _ hm0)))) (fun z TI TO i1 i2 D => ?_)⟩
      refine ⟨z, TI, TO, i1, i2, _, _, _, _, _, _, _, rfl, D, rfl, TupAt.mem (List.mem_append_right _ (.tail _ (.tail _ (.tail _ hm)))), TupAt.mem (List.mem_append_right _ (.tail _ (.tail _ (.tail _ hm0)))), fun nt => ?_⟩
      refine EV.name (LD.local he (by walk_at "lk") (.tail _ (.head _)) (.tail (by decide) (.tail (by decide) .head)) ?_)
      refine EV.name (LD.local he (by walk_at "lk") (.tail _ (.head _)) (.tail (by decide) (.tail (by decide) (.tail (by decide) .head))) ?_)
      refine SIT.dict (dkS C) (kvs := e) (k := k) (x := .ref nt) (ep := ep2) (fun ep' => .tail (.tail (.tail .head))) hlen (fun ep' => ?_)
      refine ST.nil (ST.nil (ST.nil ?_))
      have := next (putG acc k (a + o1, b + o2)) (putK e k (.ref nt)) ep' [(nt, .tup [.int (a + o1), .int (b + o2)])] ((hacc.mono fun q hq => .tail _ hq).put (.head _)) (putG_len ..) (by
        show _ = addP (match getG acc k with | some o => putG acc k (a + o.1, b + o.2) | none => putG acc k (a, b)) rest
        rw [hg])
      exact LOOP.re this (List.Sublist.refl _) (List.Perm.trans (.cons _ (.cons _ (.swap _ _ _))) (List.Perm.trans (.cons _ (.swap _ _ _)) (.swap _ _ _)))
theorem f162p (B : Base C) (ht : tAdd ∈ C.tabs) (hb : C.h₀.BuiltinsAt C.mg 157) (hr : Room (n + 2) A) {d1 d2 : Addr} {k1 k2 : List (Str × (Int × Int))} {e1 e2 : List (Str × V)} {ep1 ep2 : Nat} (h1 : (d1, Cell.dictS e1 ep1) ∈ N) (hp1 : PIn N e1 k1) (h2 : (d2, Cell.dictS e2 ep2) ∈ N) (hp2 : PIn N e2 k2) (hz : k1.length + k2.length ≤ 100) {Q : V → Led → Prop}
    (h : ∀ d ep e T, PIn (T ++ N) e (addP (cpyG k1) k2) → Q (.ref d) ((d, .dictS e ep) :: (T ++ N))) : FN C A 162 [.ref d1, .ref d2] Q N := by
  refine FN.enterC (fd := fd162) (ps := ["target", "source"]) (nm := nmC) (n := n + 1) hr (fun R s hs => B.f162.at_ hs) rfl rfl (hb2 fun v w => rfl) (fun L env he hcd hqu => ?_)
  replace he : EnvOk env L nmC [] := he
  replace hcd : env.code = .ref 161 := hcd
  replace hqu : env.qual = "add_callers.<locals>." := hqu
  show STO _ _ _ _ _ _ _
  refine STO.local he (by walk_at "lk") (m' := [("target", .ref d1)]) .nil .head ?_
  refine STO.local he (by walk_at "lk") (m' := [("target", .ref d1), ("source", .ref d2)]) (.tail (by decide) .nil) .head ?_
  intro hr
  refine ST.cons (SX.assign (EV.dict0 (dkS C) fun nd ep => ?_))
  refine STO.local he (by walk_at "lk") (m' := [("target", .ref d1), ("source", .ref d2), ("new_callers", .ref nd)]) (.tail (by decide) (.tail (by decide) .nil)) (.tail .head) ?_
  refine ST.cons (SX.for_ (EV.meth (pl := ?_) ?_))
  rotate_left
  refine EV.name (LD.local he (by walk_at "lk") (.tail _ (.head _)) .head ?_)
  refine gm_dict (dkS C) PySem.F.slot_dict_items PySem.F.type_dict_items (.tail _ (.tail _ h1)) (EVS.nil ⟨KEEP.bi, CALL.items (dkS C) (.tail _ (.tail _ h1)) (fun vw => ITR.items (dkS C) (.tail _ (.tail _ (.tail _ h1))) (.head _) (fun it => ?_))⟩)
  refine LOOP.re (N1 := (L, .ns (tgt d1 d2 nd [])) :: (it, .itemIt d1 0 e1.length ep1) :: (nd, .dictS [] ep) :: N) (N2 := (it, .itemIt d1 0 e1.length ep1) :: (nd, .dictS [] ep) :: (L, .ns (tgt d1 d2 nd [])) :: N) ?_ (.cons_cons _ (.cons _ (List.Sublist.refl _))) (List.Perm.trans (.swap _ _ _) (.cons _ (.swap _ _ _)))
  refine loop_t hr he h1 e1 [] [] ep [] rfl (by have := hp1.len; simp; omega) (.inl rfl) (fun ep3 x hx => ?_)
  have hcp : PIn N (e1.foldl (fun acc p => putK acc p.1 p.2) []) (cpyG k1) := by
    have : ∀ {e p}, PIn N e p → ∀ {ea pa}, PIn N ea pa → PIn N (e.foldl (fun acc p => putK acc p.1 p.2) ea) (p.foldl (fun acc p => putG acc p.1 p.2) pa) := by
      intro e p x
      induction x with
      | nil => intro ea pa y; exact y
      | cons m _ ih => intro ea pa y; exact ih (y.put m)
    exact this hp1 .nil
  refine ST.cons (SX.for_ (EV.meth (pl := ?_) ?_))
  rotate_left
  refine EV.name (LD.local he (by walk_at "lk") (.head _) (.tail (by decide) .head) ?_)
  refine gm_dict (dkS C) PySem.F.slot_dict_items PySem.F.type_dict_items (.tail _ (.tail _ h2)) (EVS.nil ⟨KEEP.bi, CALL.items (dkS C) (.tail _ (.tail _ h2)) (fun vw2 => ITR.items (dkS C) (.tail _ (.tail _ (.tail _ h2))) (.head _) (fun it2 => ?_))⟩)
  refine LOOP.re (N1 := (L, .ns (tgt d1 d2 nd x)) :: (it2, .itemIt d2 0 e2.length ep2) :: (nd, .dictS (e1.foldl (fun acc p => putK acc p.1 p.2) []) ep3) :: N) (N2 := (it2, .itemIt d2 0 e2.length ep2) :: (L, .ns (tgt d1 d2 nd x)) :: (nd, .dictS (e1.foldl (fun acc p => putK acc p.1 p.2) []) ep3) :: N) ?_ (.cons_cons _ (.cons _ (List.Sublist.refl _))) (.swap _ _ _)
  have hl := cpyG_len k1 []
  refine loop_sp (kvs := k2) B ht hb hr he hcd hqu k2 [] e2 [] (cpyG k1) _ ep3 x N rfl rfl hp2 h2 hcp (by rw [List.length_nil] at hl; unfold cpyG; omega) hx (fun ep4 x e' T hx hp => ?_)
  refine ST.cons (SX.ret (EV.name (LD.local he (by walk_at "lk") (.head _) (.tail (by decide) (.tail (by decide) .head)) ?_)))
  exact ⟨_, List.sublist_cons_self .., h _ _ _ _ hp⟩
end

end
section

noncomputable abbrev nmS : List (Str × NameKind) := [("script", .local), ("seeds", .local), ("taken", .local), ("k", .local), ("len", .globalImplicit), ("range", .globalImplicit)]
noncomputable def kFor : Stmt := (bodyOf fd174).getD 4 (.Pass default)
section
variable {C : Cx} {A : Around} {env : Env} {N N' N1 N2 M P P' : Led} {K : Frag} {n : Nat} {x : Str}

theorem LOOP.il {target : Expr} {body orelse : List Stmt} {it : V} {Q : Fl → Led → Prop} {a : Addr} {xs : List V} (hm : Upd a (.list xs) (.ilist xs) N N') (h : LOOP C A env target body orelse it Q N') : LOOP C A env target body orelse it Q N := fun vi e R s hs => by
  refine h vi e R s ?_
  have u := hm.app R
  obtain ⟨o, ho, vs, k, rfl, ev⟩ := hs.get u.mem
  exact hs.upd (t := s.toks) u (Heap.SameBut.refl ..) ⟨_, ho, rfl, vs, k, rfl, ev⟩
theorem CLOOP.re {e : Expr} {it acc : V} {Q : Led → Prop} (h : CLOOP C A env e it acc Q N1) (hs : N2.Sublist N) (hp : N1.Perm N2) : CLOOP C A env e it acc Q N := fun vi va e1 e2 R s h0 =>
  h vi va e1 e2 R s ((h0.weak (hs.append_right R)).perm (hp.append_right R))
theorem loop_s (B : Base C) (hr : Room (n + 1) A) {L it sc sd tk : Addr} (he : EnvOk env L nmS []) {ts : List Int} (hts : ts.length ≤ 60) {Q : Fl → Led → Prop} : ∀ (r : Nat) (i : Nat) (ds : List Int) (x : List (Str × V)), i + r = ts.length → (ds.length = 4 ∨ ds.length = 5) → (x = ([] : List (Str × V)) ∨ ∃ v, x = ([("k", v)] : List (Str × V))) →
    (∀ (ds : List Int) (x : List (Str × V)), (ds.length = 4 ∨ ds.length = 5) → Q .next ((L, .ns (("script", .ref sc) :: ("seeds", .ref sd) :: ("taken", .ref tk) :: x)) :: (sd, .ilist (ds.map .int)) :: (tk, .list (ts.map .int)) :: N)) →
    LOOP C A env (forT kFor) (forB kFor) [] (.ref it) Q ((L, .ns (("script", .ref sc) :: ("seeds", .ref sd) :: ("taken", .ref tk) :: x)) :: (it, .raw (rit i r)) :: (sd, .ilist (ds.map .int)) :: (tk, .list (ts.map .int)) :: N) := by
  intro r
  induction r with
  | zero =>
    intro i ds x e hd hx h
    exact LOOP.step (NXT.rangeEnd hr (.tail .head) (h ds x hd))
  | succ r ih =>
    intro i ds x e hd hx h
    have hp : Put (("script", V.ref sc) :: ("seeds", .ref sd) :: ("taken", .ref tk) :: x) "k" (.int i) (("script", .ref sc) :: ("seeds", .ref sd) :: ("taken", .ref tk) :: [("k", .int i)]) := by
      rcases hx with rfl | ⟨v0, rfl⟩
      · exact .tail (by decide) (.tail (by decide) (.tail (by decide) .nil))
      · exact .tail (by decide) (.tail (by decide) (.tail (by decide) .head))
    refine LOOP.step (NXT.range (k := i) (n := (r + 1 : Nat)) (.tail .head) (by omega) (BND.name ?_))
    refine STO.local he (by walk_at "lk") hp .head ?_
    have hl5 : ds.length ≤ 5 := by omega
    have hlen : ((ds.map V.int).length : Int) ≠ 0 := by rw [List.length_map]; omega
    have hm1 : 0 ≤ (i : Int).fmod ((ds.map V.int).length : Int) := Int.fmod_nonneg_of_pos _ (by rw [List.length_map]; omega)
    have hm2 : (i : Int).fmod ((ds.map V.int).length : Int) < ((ds.map V.int).length : Int) := Int.fmod_lt_of_pos _ (by rw [List.length_map]; omega)
    have hm3 : (i : Int).fmod ((ds.map V.int).length : Int) < 2 ^ 63 := Int.lt_trans hm2 (by rw [List.length_map]; omega)
    refine ST.cons (SX.augSub ?_)
    refine EV.name (LD.local he (by walk_at "lk") (.head _) (.tail (by decide) .head) (EV.bin ?_))
    refine EV.name (LD.local he (by walk_at "lk") (.head _) (.tail (by decide) (.tail (by decide) (.tail (by decide) .head))) ?_)
    refine EV.call (EV.name (LD.blt he (by walk_at "lk") B.b_len (EVS.cons ?_)))
    refine EV.name (LD.local he (by walk_at "lk") (.head _) (.tail (by decide) .head) (EVS.nil ⟨KEEP.bi, CALL.lenList (LstAt.imem (.tail _ (.tail _ (.head _)))) (by rw [List.length_map]; omega) ?_⟩))
    refine BIN.mod hlen ?_
    obtain ⟨o, ho⟩ : ∃ o, (ds.map V.int)[((i : Int).fmod ((ds.map V.int).length : Int)).toNat]? = some (V.int o) := by
      have hlt : ((i : Int).fmod ((ds.map V.int).length : Int)).toNat < ds.length := by rw [List.length_map] at hm1 hm2 ⊢; omega
      exact ⟨ds[((i : Int).fmod ((ds.map V.int).length : Int)).toNat], by rw [List.getElem?_map, List.getElem?_eq_getElem hlt]; rfl⟩
    refine GIT.list (LstAt.imem (.tail _ (.tail _ (.head _)))) hm1 hm3 ho ?_
    refine EV.sub ?_
    refine EV.name (LD.local he (by walk_at "lk") (.head _) (.tail (by decide) (.tail (by decide) .head)) ?_)
    refine EV.name (LD.local he (by walk_at "lk") (.head _) (.tail (by decide) (.tail (by decide) (.tail (by decide) .head))) ?_)
    have hi : (ts.map V.int)[(i : Int).toNat]? = some (V.int (ts[i]'(by omega))) := by
      rw [Int.toNat_natCast, List.getElem?_map, List.getElem?_eq_getElem (by omega)]; rfl
    refine SUB.list (LstAt.mem (.tail _ (.tail _ (.tail _ (.head _))))) (GIT.list (LstAt.mem (.tail _ (.tail _ (.tail _ (.head _))))) (by omega) (by omega) hi ?_)
    refine INP.add ?_
    refine SIT.list (.tail (.tail .head)) hm1 hm3 hm2 (ST.nil ?_)
    have e1 : (ds.map V.int).set ((i : Int).fmod ((ds.map V.int).length : Int)).toNat (V.int (o + ts[i]'(by omega))) = (ds.set ((i : Int).fmod ((ds.map V.int).length : Int)).toNat (o + ts[i]'(by omega))).map V.int := by rw [List.map_set]
    rw [e1]
    have := ih (i + 1) (ds.set ((i : Int).fmod ((ds.map V.int).length : Int)).toNat (o + ts[i]'(by omega))) [("k", .int i)] (by omega) (by rw [List.length_set]; exact hd) (.inr ⟨_, rfl⟩) h
    rw [show ((i + 1 : Nat) : Int) = (i : Int) + 1 by omega] at this
    have e2 : ((r + 1 : Nat) : Int) - 1 = r := by omega
    rw [e2]
    exact this

noncomputable def big (d : Int) : Int := if (if d < 0 then -d else d) < 10 ^ 12 then d else d.fmod (10 ^ 12)
theorem big_lt (d : Int) : -(10 ^ 12) < big d ∧ big d < 10 ^ 12 := by
  unfold big
  have h1 : 0 ≤ d.fmod (10 ^ 12) := Int.fmod_nonneg_of_pos _ (by decide)
  have h2 : d.fmod (10 ^ 12) < 10 ^ 12 := Int.fmod_lt_of_pos _ (by decide)
  by_cases h0 : d < 0
  · rw [if_pos h0]
    split <;> omega
  · rw [if_neg h0]
    split <;> omega
noncomputable def lcE : Stmt → Expr | .Return (some e) _ => e | _ => .Constant .none 0 default
noncomputable def lcElt : Expr → Expr | .ListComp e _ _ _ => e | e => e
noncomputable def lcIter : Expr → Expr | .ListComp _ (⟨_, i, _, _⟩ :: _) _ _ => i | e => e
noncomputable def lcTgt : Expr → Expr | .ListComp _ (⟨t, _, _, _⟩ :: _) _ _ => t | e => e
noncomputable def lcSc : Expr → Scope | .ListComp _ _ s _ => s | _ => default
noncomputable def lcPos : Expr → Pos | .ListComp _ _ _ p => p | _ => default
noncomputable def bigL : Expr := lcE ((bodyOf fd174).getD 5 (.Pass default))
/-- the comprehension at the end of _law_seeds -/
theorem comp_s (B : Base C) (hr : Room (n + 1) A) {L it sd lo : Addr} (he : EnvOk env L [(".0", .local), ("x", .local), ("abs", .globalImplicit)] []) {all : List Int} {Q : Led → Prop} (hl : (sd, Cell.ilist (all.map .int)) ∈ N) : ∀ (r : List Int) (i : Nat) (out : List Int) (x : List (Str × V)), all.drop i = r → out.length + r.length ≤ 100 → (x = ([] : List (Str × V)) ∨ ∃ v, x = ([("x", v)] : List (Str × V))) →
    (∀ x, Q ((L, .ns x) :: (lo, .list ((out ++ r.map big).map .int)) :: N)) →
    CLOOP C A env bigL (.ref it) (.ref lo) Q ((L, .ns x) :: (it, .flds "list_iterator" [.ref sd, .int i 0]) :: (lo, .list (out.map .int)) :: N) := by
  intro r
  induction r with
  | nil =>
    intro i out x e hz hx h
    have hi : (all.map V.int)[i]? = none := by
      rw [List.getElem?_map, Option.map_eq_none_iff, List.getElem?_eq_none_iff]
      have := congrArg List.length e
      rw [List.length_drop] at this
      simp at this; omega
    have := h x
    rw [List.map_nil, List.append_nil] at this
    exact CLOOP.list1 (NXT.listEnd hr (LstAt.imem (.tail _ (.tail _ (.tail _ hl)))) hi (.tail .head) this)
  | cons d r ih =>
    intro i out x e hz hx h
    rw [List.length_cons] at hz
    have hi0 : all[i]? = some d := by
      have := congrArg (fun l => l[0]?) e
      simpa [List.getElem?_drop] using this
    have hi : (all.map V.int)[i]? = some (.int d) := by rw [List.getElem?_map, hi0]; rfl
    have e' : all.drop (i + 1) = r := by
      rw [← List.drop_drop, e]; rfl
    have hp : Put x "x" (V.int d) [("x", .int d)] := by
      rcases hx with rfl | ⟨v0, rfl⟩
      · exact .nil
      · exact .head
    refine CLOOP.list1 (NXT.list (LstAt.imem (.tail _ (.tail _ (.tail _ hl)))) hi (.tail .head) (BND.name ?_))
    refine STO.local he (by walk_at "lk") hp .head ?_
    have fin : ∀ v, v = big d → CALL C A (.bi "list.append") [.ref lo, .int v] (fun _ N4 => CLOOP C A env bigL (.ref it) (.ref lo) Q N4) ((L, .ns [("x", .int d)]) :: (it, .flds "list_iterator" [.ref sd, .int (i + 1 : Nat) 0]) :: (lo, .list (out.map .int)) :: N) := by
      intro v ev
      refine CALL.append (.tail (.tail .head)) (by rw [List.length_map, sizeLine_eq]; omega) ?_
      rw [show (out.map V.int ++ [V.int v]) = (out ++ [v]).map V.int by simp]
      exact ih (i + 1) (out ++ [v]) [("x", .int d)] e' (by simp; omega) (.inr ⟨_, rfl⟩) (fun x => by
        rw [show out ++ [v] ++ r.map big = out ++ (d :: r).map big by rw [ev]; simp]
        exact h x)
    refine EV.ifexp (IST.cmp (EV.call (EV.name (LD.blt he (by walk_at "lk") B.b_abs (EVS.cons ?_)))))
    refine EV.name (LD.local he (by walk_at "lk") (.head _) .head (EVS.nil ⟨KEEP.bi, CALL.abs ?_⟩))
    refine EV.bin (EV.cint (EV.cint (BIN.pow (by decide) (by decide +kernel) (CMP.lti (TRU.bool ?_)))))
    by_cases hb : (if d < 0 then -d else d) < 10 ^ 12
    · rw [show ((12 : Int).toNat) = 12 from rfl, decide_eq_true hb]
      rw [if_pos rfl]
      refine EV.name (LD.local he (by walk_at "lk") (.head _) .head ?_)
      exact fin _ (by unfold big; rw [if_pos hb])
    · rw [show ((12 : Int).toNat) = 12 from rfl, decide_eq_false hb]
      rw [if_neg Bool.false_ne_true]
      refine EV.bin (EV.name (LD.local he (by walk_at "lk") (.head _) .head ?_))
      refine EV.bin (EV.cint (EV.cint (BIN.pow (by decide) (by decide +kernel) (BIN.mod (by decide) ?_))))
      exact fin _ (by unfold big; rw [if_neg hb]; rfl)
theorem f174 (B : Base C) (hr : Room (n + 2) A) {l : Addr} {ns : List Int} (hl : LstAt C N l (ns.map .int)) (hz : ns.length ≤ 100) {Q : V → Led → Prop}
    (h : ∀ l' (ds : List Int), (ds.length = 4 ∨ ds.length = 5) → (∀ d ∈ ds, -(10 ^ 12) < d ∧ d < 10 ^ 12) → Q (.ref l') ((l', .list (ds.map .int)) :: N)) : FN C A 174 [.ref l] Q N := by
  refine FN.enter1 (p := "script") (nm := nmS) hr B.f174 rfl (fun L env he hr => ?_)
  refine ST.cons (SX.assign (EV.list (by decide) (EVS.cons (EV.cint (EVS.cons (EV.una (EV.cint (UNA.neg (EVS.cons (EV.cint (EVS.nil ⟨rfl, fun sd => ?_⟩)))))))))))
  walk_at "stl"
  have fin : ∀ (d0 : List Int), (d0.length = 3 ∨ d0.length = 4) → ST C (A.deeper env) env ((bodyOf fd174).drop 2) (End Q) ((sd, .list (d0.map .int)) :: (L, .ns [("script", .ref l), ("seeds", .ref sd)]) :: N) := by
    intro d0 hd0
    refine ST.cons (SX.expr (hi := inter_off he) (EV.meth (pl := ?_) ?_))
    rotate_left
    walk_at "loc"
    refine gm_list PySem.F.slot_list_append PySem.F.type_list_append (.head _) (EVS.cons (EV.cint (EVS.nil ⟨KEEP.bi, CALL.append .head (by rw [List.length_map, sizeLine_eq]; omega) ?_⟩)))
    rw [show (d0.map V.int ++ [V.int 8]) = (d0 ++ [8]).map V.int by simp]
    refine ST.cons (SX.assign (EV.listTo ?_))
    walk_at "loc"
    refine EV.cint ⟨l, _, 60, rfl, hl.cons.cons, by rw [List.length_map, sizeLine_eq]; omega, rfl, fun tk => ?_⟩
    rw [show (ns.map V.int).take 60 = (ns.take 60).map V.int by rw [List.map_take]]
    walk_at "stl"
    refine ST.cons (SX.for_ (EV.call (EV.name (LD.blt he (by walk_at "lk") B.b_range (EVS.cons (EV.call (EV.name (LD.blt he (by walk_at "lk") B.b_len (EVS.cons ?_)))))))))
    walk_at "loc"
    have hz60 : (ns.take 60).length ≤ 60 := by rw [List.length_take]; omega
    refine EVS.nil ⟨KEEP.bi, CALL.lenList (LstAt.mem (.head _)) (by rw [List.length_map]; omega) (EVS.nil ⟨KEEP.ty, CALL.rangeO (fun rg t u v => ?_)⟩)⟩
    rw [List.length_map]
    refine ITR.range (.head _) (by omega) (fun it => ?_)
    have hd1 : (d0 ++ [8]).length = 4 ∨ (d0 ++ [8]).length = 5 := by rw [List.length_append]; simp; omega
    refine LOOP.il (a := sd) (xs := (d0 ++ [8]).map .int) (N' := (it, .raw (rit 0 ((ns.take 60).length : Nat))) :: (rg, .raw (rgo ((ns.take 60).length : Nat) t u v)) :: (tk, .list ((ns.take 60).map .int)) :: (sd, .ilist ((d0 ++ [8]).map .int)) :: (L, .ns [("script", .ref l), ("seeds", .ref sd), ("taken", .ref tk)]) :: N) (.tail (.tail (.tail .head))) ?_
    refine LOOP.re (N1 := (L, .ns (("script", .ref l) :: ("seeds", .ref sd) :: ("taken", .ref tk) :: [])) :: (it, .raw (rit (0 : Nat) ((ns.take 60).length : Nat))) :: (sd, .ilist ((d0 ++ [8]).map .int)) :: (tk, .list ((ns.take 60).map .int)) :: N)
      (N2 := (it, .raw (rit (0 : Nat) ((ns.take 60).length : Nat))) :: (tk, .list ((ns.take 60).map .int)) :: (sd, .ilist ((d0 ++ [8]).map .int)) :: (L, .ns (("script", .ref l) :: ("seeds", .ref sd) :: ("taken", .ref tk) :: [])) :: N) ?_ (.cons_cons _ (.cons _ (List.Sublist.refl _))) ?_
    rotate_left
    · refine List.Perm.trans (.swap _ _ _) (.cons _ ?_)
      refine List.Perm.trans (.cons _ (.swap _ _ _)) ?_
      refine List.Perm.trans (.swap _ _ _) (.cons _ (.swap _ _ _))
    refine loop_s B hr he hz60 (ns.take 60).length 0 (d0 ++ [8]) [] (by omega) hd1 (.inl rfl) (fun ds x hds => ?_)
    refine ST.cons (SX.ret ?_)
    refine EV.listcomp (names := [(".0", .local), ("x", .local), ("abs", .globalImplicit)]) (cl := []) he rfl rfl ?_
    refine EV.name (LD.local he (by walk_at "lk") (.head _) (.tail (by decide) .head) ?_)
    refine ITR.list (LstAt.imem (.tail _ (.head _))) (fun it2 => fun lo L' cenv he' => ⟨SELF.list (.tail _ (.tail _ (.head _))), ?_⟩)
    refine CLOOP.re (N1 := (L', .ns []) :: (it2, .flds "list_iterator" [.ref sd, .int (0 : Nat) 0]) :: (lo, .list (([] : List Int).map .int)) :: (L, .ns (("script", .ref l) :: ("seeds", .ref sd) :: ("taken", .ref tk) :: x)) :: (sd, .ilist (ds.map .int)) :: (tk, .list ((ns.take 60).map .int)) :: N) ?_ (List.Sublist.refl _) (.cons _ (.swap _ _ _))
    refine comp_s (all := ds) B hr he' (.tail _ (.head _)) ds 0 [] [] rfl (by simp; omega) (.inl rfl) (fun x => ⟨_, _, .head, ?_⟩)
    refine ⟨(lo, .list ((ds.map big).map .int)) :: N, .cons_cons _ (.cons _ (.cons _ (.cons _ (List.Sublist.refl _)))), h lo (ds.map big) (by rw [List.length_map]; exact hds) ?_⟩
    intro d hd
    obtain ⟨d', _, rfl⟩ := List.mem_map.mp hd
    exact big_lt d'
  refine ST.cons (SX.ifs (IST.cmp (EV.bin (EV.call (EV.name (LD.blt he (by walk_at "lk") B.b_len (EVS.cons ?_)))))))
  walk_at "loc"
  refine EVS.nil ⟨KEEP.bi, CALL.lenList hl.cons.cons (by rw [List.length_map]; omega) (EV.cint (BIN.mod (by decide) (EV.cint (CMP.eqi (TRU.bool ?_)))))⟩
  cases hb : (((ns.map V.int).length : Int).fmod 2 == 1)
  · rw [if_neg Bool.false_ne_true]
    exact ST.nil (fin [288, -372, 217] (.inl rfl))
  · rw [if_pos rfl]
    refine ST.cons (SX.expr (hi := inter_off he) (EV.meth (pl := ?_) ?_))
    rotate_left
    walk_at "loc"
    refine gm_list PySem.F.slot_list_append PySem.F.type_list_append (.head _) (EVS.cons (EV.cint (EVS.nil ⟨KEEP.bi, CALL.append .head (by simp [sizeLine_eq]) ?_⟩)))
    exact ST.nil (fin [288, -372, 217, 566] (.inr rfl))
end

end
section

/-- the signs that names are made of -/
noncomputable def chs : List Nat := [97, 98, 99, 34, 92, 32, 46, 108, 111, 110, 101, 116, 55]
noncomputable def OkN (x : Str) : Prop := ∀ c ∈ x.cps.toList, c ∈ chs
noncomputable def inQ (c : Nat) : Bool := !(Builtin.Str.occurrences "\"\\ " ⟨#[c]⟩ 0 ("\"\\ " : Str).length 1).isEmpty
theorem chs_q : ∀ c ∈ chs, inQ c = spc c := by decide +kernel
theorem chs_ascii : ∀ c ∈ chs, c < 128 := by decide
theorem chs_ok : ∀ c ∈ chs, okc c = true := by decide +kernel
theorem OkN.ascii {x : Str} (h : OkN x) : x.cps.all (· < 128) = true := by
  rw [Array.all_eq_true_iff_forall_mem]
  intro c hc
  exact decide_eq_true (chs_ascii c (h c (by simpa using hc)))
noncomputable def wrt (x : Str) (q : Bool) : Str := if q then "\"" ++ ofL (esc x.cps.toList) ++ "\"" else ofL (esc x.cps.toList)
noncomputable abbrev nmW : List (Str × NameKind) := [("name", .local), ("quoted", .local), ("text", .local), ("sign", .local)]
noncomputable def wFor : Stmt := (bodyOf fd181).getD 1 (.Pass default)
theorem ofL_len (w : List Nat) : (ofL w).length = w.length := by show w.toArray.size = _; simp
theorem esc_le : ∀ w : List Nat, (esc w).length ≤ 2 * w.length
  | [] => Nat.le_refl _
  | c :: w => by
    unfold esc
    have := esc_le w
    split <;> simp <;> omega
theorem esc_app : ∀ (w v : List Nat), esc (w ++ v) = esc w ++ esc v
  | [], v => rfl
  | c :: w, v => by
    show (if spc c = true then 92 :: c :: esc (w ++ v) else c :: esc (w ++ v)) = (if spc c = true then 92 :: c :: esc w else c :: esc w) ++ esc v
    rw [esc_app w v]
    split <;> rfl
section
variable {C : Cx} {A : Around} {env : Env} {N N' N1 N2 M P P' : Led} {K : Frag} {n : Nat} {x : Str}

theorem loop_w (B : Base C) (hr : Room (n + 1) A) {L it : Addr} {q : Bool} {tk0 : Tok} (he : EnvOk env L nmW []) (hx : OkN x) (hz : x.length ≤ 1000) {Q : Fl → Led → Prop} : ∀ (r p : List Nat) (y : List (Str × V)), x.cps.toList = p ++ r → (y = ([] : List (Str × V)) ∨ ∃ v, y = ([("sign", v)] : List (Str × V))) →
    (∀ y, Q .next ((L, .ns (("name", .str x) :: ("quoted", .bool q) :: ("text", .str (ofL (esc x.cps.toList))) :: y)) :: N)) →
    LOOP C A env (forT wFor) (forB wFor) [] (.ref it) Q ((L, .ns (("name", .str x) :: ("quoted", .bool q) :: ("text", .str (ofL (esc p))) :: y)) :: (it, .flds "str_ascii_iterator" [.str x tk0, .int p.length 0]) :: N) := by
  intro r
  induction r with
  | nil =>
    intro p y e hy h
    rw [List.append_nil] at e
    rw [← e]
    refine LOOP.step (NXT.strEnd hr (.tail .head) ?_ (h y))
    rw [← Array.getElem?_toList]
    simp
  | cons c r ih =>
    intro p y e hy h
    have hc : x.cps[p.length]? = some c := by rw [← Array.getElem?_toList, e]; simp
    have hcc : c ∈ chs := hx c (by rw [e]; simp)
    have hl : p.length + (r.length + 1) ≤ 1000 := by
      have h1 : x.cps.size ≤ 1000 := hz
      rw [← Array.length_toList, e] at h1
      simpa using h1
    have hp : ∀ t, Put (("name", V.str x) :: ("quoted", .bool q) :: ("text", t) :: y) "sign" (.str ⟨#[c]⟩) (("name", V.str x) :: ("quoted", .bool q) :: ("text", t) :: [("sign", .str ⟨#[c]⟩)]) := by
      intro t
      rcases hy with rfl | ⟨v0, rfl⟩
      · exact .tail (by decide) (.tail (by decide) (.tail (by decide) .nil))
      · exact .tail (by decide) (.tail (by decide) (.tail (by decide) .head))
    have l1 : (⟨#[c]⟩ : Str).length = 1 := rfl
    have next : ∀ t, t = ofL (esc (p ++ [c])) → LOOP C A env (forT wFor) (forB wFor) [] (.ref it) Q ((L, .ns (("name", .str x) :: ("quoted", .bool q) :: ("text", .str t) :: [("sign", .str ⟨#[c]⟩)])) :: (it, .flds "str_ascii_iterator" [.str x tk0, .int (p.length + 1 : Nat) 0]) :: N) := by
      rintro t rfl
      have := ih (p ++ [c]) [("sign", .str ⟨#[c]⟩)] (by rw [e]; simp) (.inr ⟨_, rfl⟩) h
      rw [List.length_append] at this
      exact this
    have el : (esc p).length ≤ 2000 := by have := esc_le p; omega
    refine LOOP.step (NXT.str (.tail .head) hc (BND.name ?_))
    refine STO.local he (by walk_at "lk") (hp _) .head ?_
    refine ST.cons (SX.ifs (IST.cmp ?_))
    refine EV.name (LD.local he (by walk_at "lk") (.head _) (.tail (by decide) (.tail (by decide) (.tail (by decide) .head))) (EV.cstr (CMP.ins (TRU.bool ?_))))
    rw [show (!(Builtin.Str.occurrences "\"\\ " ⟨#[c]⟩ 0 ("\"\\ " : Str).length 1).isEmpty) = spc c from chs_q c hcc]
    cases hs : spc c
    · rw [if_neg Bool.false_ne_true]
      refine ST.nil (ST.cons (SX.aug (LD.local he (by walk_at "lk") (.head _) (.tail (by decide) (.tail (by decide) .head)) ?_)))
      refine EV.name (LD.local he (by walk_at "lk") (.head _) (.tail (by decide) (.tail (by decide) (.tail (by decide) .head))) (INP.adds (by rw [ofL_len, l1, sizeLine_eq]; omega) ?_))
      refine STO.local he (by walk_at "lk") (.tail (by decide) (.tail (by decide) .head)) .head (ST.nil (next _ ?_))
      rw [esc_app]
      have : esc [c] = [c] := by show (if spc c = true then _ else _) = _; rw [hs]; rfl
      rw [this]
      apply str_ext
      show ((esc p).toArray ++ #[c]).toList = (esc p ++ [c]).toArray.toList
      simp
    · have lb : ("\\" : Str).length = 1 := by decide
      rw [if_pos rfl]
      refine ST.cons (SX.aug (LD.local he (by walk_at "lk") (.head _) (.tail (by decide) (.tail (by decide) .head)) (EV.cstr (INP.adds (by rw [ofL_len, sizeLine_eq]; omega) ?_))))
      refine STO.local he (by walk_at "lk") (.tail (by decide) (.tail (by decide) .head)) .head (ST.nil ?_)
      refine ST.cons (SX.aug (LD.local he (by walk_at "lk") (.head _) (.tail (by decide) (.tail (by decide) .head)) ?_))
      refine EV.name (LD.local he (by walk_at "lk") (.head _) (.tail (by decide) (.tail (by decide) (.tail (by decide) .head))) (INP.adds (by rw [Str.len_app, ofL_len, l1, sizeLine_eq]; omega) ?_))
      refine STO.local he (by walk_at "lk") (.tail (by decide) (.tail (by decide) .head)) .head (ST.nil (next _ ?_))
      rw [esc_app]
      have : esc [c] = [92, c] := by show (if spc c = true then _ else _) = _; rw [hs]; rfl
      rw [this]
      apply str_ext
      show (((esc p).toArray ++ #[92]) ++ #[c]).toList = (esc p ++ [92, c]).toArray.toList
      simp
theorem f181 (B : Base C) (hr : Room (n + 2) A) {q : Bool} (hx : OkN x) (hz : x.length ≤ 1000) {Q : V → Led → Prop} (h : Q (.str (wrt x q)) N) : FN C A 181 [.str x, .bool q] Q N := by
  refine FN.enterC (fd := fd181) (ps := ["name", "quoted"]) (nm := nmW) (n := n + 1) hr (fun R s hs => B.f181.at_ hs) rfl rfl (hb2 fun v w => rfl) (fun L env he _ _ => ?_)
  replace he : EnvOk env L nmW [] := he
  show STO _ _ _ _ _ _ _
  refine STO.local he (by walk_at "lk") (m' := [("name", .str x)]) .nil .head ?_
  refine STO.local he (by walk_at "lk") (m' := [("name", .str x), ("quoted", .bool q)]) (.tail (by decide) .nil) .head ?_
  intro hr
  have hl : x.cps.toList.length ≤ 1000 := by rw [Array.length_toList]; exact hz
  have el : (esc x.cps.toList).length ≤ 2000 := by have := esc_le x.cps.toList; omega
  have l1 : ("\"" : Str).length = 1 := by decide
  refine ST.cons (SX.assign (EV.cstr ?_))
  refine STO.local he (by walk_at "lk") (m' := [("name", .str x), ("quoted", .bool q), ("text", .str "")]) (.tail (by decide) (.tail (by decide) .nil)) .head ?_
  refine ST.cons (SX.for_ (EV.name (LD.local he (by walk_at "lk") (.head _) .head (ITR.str hx.ascii (fun it tk0 => ?_)))))
  refine LOOP.re (N1 := (L, .ns (("name", .str x) :: ("quoted", .bool q) :: ("text", .str (ofL (esc []))) :: [])) :: (it, .flds "str_ascii_iterator" [.str x tk0, .int (0 : Nat) 0]) :: N) ?_ (List.Sublist.refl _) (.swap _ _ _)
  refine loop_w B hr he hx hz x.cps.toList [] [] rfl (.inl rfl) (fun y => ?_)
  refine ST.cons (SX.ret (EV.ifexp (IST.val (EV.name (LD.local he (by walk_at "lk") (.head _) (.tail (by decide) .head) (TRU.bool ?_))))))
  cases q
  · rw [if_neg Bool.false_ne_true]
    refine EV.name (LD.local he (by walk_at "lk") (.head _) (.tail (by decide) (.tail (by decide) .head)) ?_)
    exact ⟨_, List.sublist_cons_self .., h⟩
  · rw [if_pos rfl]
    refine EV.bin (EV.bin (EV.cstr (EV.name (LD.local he (by walk_at "lk") (.head _) (.tail (by decide) (.tail (by decide) .head)) (BIN.adds (by rw [ofL_len, l1, sizeLine_eq]; omega) (EV.cstr (BIN.adds (by rw [Str.len_app, ofL_len, l1, sizeLine_eq]; omega) ?_)))))))
    exact ⟨_, List.sublist_cons_self .., h⟩
end

end
section

noncomputable abbrev nmT : List (Str × NameKind) := [("seeds", .local), ("labels", .local), ("names", .local), ("aboves", .local), ("lengths", .local), ("k", .local), ("above", .local), ("text", .local), ("range", .globalImplicit), ("len", .globalImplicit), ("_law_written", .globalImplicit)]
noncomputable def lab : List Str := ["a", "ba", "c\"a", "\\ a"]
structure TS where
  nm : List Str
  ab : List Str
  ln : List (Str × Int)
noncomputable def tstep (s : TS) (k : Nat) (d : Int) : TS :=
  ⟨s.nm ++ [lab.getD k "" ++ "." ++ s.nm.getD (d.fmod (s.nm.length : Int)).toNat ""], s.ab ++ [s.nm.getD (d.fmod (s.nm.length : Int)).toNat ""], putG s.ln (lab.getD k "" ++ "." ++ s.nm.getD (d.fmod (s.nm.length : Int)).toNat "") (d.fdiv 96)⟩
noncomputable def trun : List Int → Nat → TS → TS
  | [], _, s => s
  | d :: r, k, s => trun r (k + 1) (tstep s k d)
structure TS.Ok (s : TS) (k : Nat) : Prop where
  n : s.nm.length = k + 1
  nm : ∀ x ∈ s.nm, OkN x ∧ x.length ≤ 10 + 5 * k
  ab : s.ab.length = k
  ln : s.ln.length ≤ k
theorem lab_ok : ∀ k < 4, OkN (lab.getD k "") ∧ (lab.getD k "").length ≤ 3 := by
  intro k hk
  match k, hk with
  | 0, _ => exact ⟨fun c hc => by revert hc; revert c; decide, by decide⟩
  | 1, _ => exact ⟨fun c hc => by revert hc; revert c; decide, by decide⟩
  | 2, _ => exact ⟨fun c hc => by revert hc; revert c; decide, by decide⟩
  | 3, _ => exact ⟨fun c hc => by revert hc; revert c; decide, by decide⟩
theorem OkN.app {x y : Str} (h1 : OkN x) (h2 : OkN y) : OkN (x ++ y) := by
  intro c hc
  have : c ∈ (x.cps ++ y.cps).toList := hc
  simp at this
  rcases this with h | h
  · exact h1 c (by simpa using h)
  · exact h2 c (by simpa using h)
theorem OkN.dot : OkN "." := fun c hc => by revert hc; revert c; decide
theorem getD_mem {α : Type} {l : List α} {i : Nat} {d : α} (h : i < l.length) : l.getD i d ∈ l := by
  rw [List.getD_eq_getElem?_getD, List.getElem?_eq_getElem h]
  exact List.getElem_mem h
theorem tstep_ok {s : TS} {k : Nat} (h : s.Ok k) (hk : k < 4) (d : Int) : (tstep s k d).Ok (k + 1) := by
  have h0 : 0 ≤ d.fmod (s.nm.length : Int) := Int.fmod_nonneg_of_pos _ (by rw [h.n]; omega)
  have h1 : d.fmod (s.nm.length : Int) < (s.nm.length : Int) := Int.fmod_lt_of_pos _ (by rw [h.n]; omega)
  have hm : s.nm.getD (d.fmod (s.nm.length : Int)).toNat "" ∈ s.nm := getD_mem (by omega)
  obtain ⟨o1, o2⟩ := h.nm _ hm
  obtain ⟨l1, l2⟩ := lab_ok k hk
  have ld : ("." : Str).length = 1 := by decide
  refine ⟨by simp [tstep, h.n], ?_, by simp [tstep, h.ab], ?_⟩
  · intro x hx
    rcases List.mem_append.mp hx with hx | hx
    · obtain ⟨a, b⟩ := h.nm x hx; exact ⟨a, by omega⟩
    · rw [List.mem_singleton] at hx
      subst hx
      refine ⟨(l1.app OkN.dot).app o1, ?_⟩
      rw [Str.len_app, Str.len_app, ld]; omega
  · have := putG_len s.ln (lab.getD k "" ++ "." ++ s.nm.getD (d.fmod (s.nm.length : Int)).toNat "") (d.fdiv 96)
    have := h.ln
    show (putG _ _ _).length ≤ _
    omega
noncomputable def wsi (d : Int) : Str := Txt.item "\n\t\r " ((d.fdiv 24).fmod 4)
noncomputable def tx (s : TS) : List Int → Nat → Str → Str
  | [], _, t => t
  | d :: r, k, t => tx s r (k + 1) (if s.ab.any (· == s.nm.getD (k + 1) "") then t else t ++ wrt (s.nm.getD (k + 1) "") ((d.fdiv 12).fmod 2 == 0) ++ wsi d)
noncomputable def f1 : Stmt := (bodyOf fd188).getD 4 (.Pass default)
noncomputable def f2 : Stmt := (bodyOf fd188).getD 6 (.Pass default)

section
variable {C : Cx} {A : Around} {env : Env} {N N' N1 N2 M P P' : Led} {K : Frag} {n : Nat} {x : Str}

noncomputable def tns (sd lb nmA abA lnA : Addr) (x : List (Str × V)) : List (Str × V) := ("seeds", .ref sd) :: ("labels", .ref lb) :: ("names", .ref nmA) :: ("aboves", .ref abA) :: ("lengths", .ref lnA) :: x
theorem tns_put (u v : V) {x : List (Str × V)} (h : x = ([] : List (Str × V)) ∨ ∃ u v, x = ([("k", u), ("above", v)] : List (Str × V))) {sd lb nmA abA lnA : Addr} :
    ∃ m, Put (tns sd lb nmA abA lnA x) "k" u m ∧ Put m "above" v (tns sd lb nmA abA lnA [("k", u), ("above", v)]) ∧ Lk m "seeds" (.ref sd) ∧ Lk m "names" (.ref nmA) ∧ Lk m "k" u := by
  rcases h with rfl | ⟨u0, v0, rfl⟩
  · exact ⟨_, .tail (by decide) (.tail (by decide) (.tail (by decide) (.tail (by decide) (.tail (by decide) .nil)))), .tail (by decide) (.tail (by decide) (.tail (by decide) (.tail (by decide) (.tail (by decide) (.tail (by decide) .nil))))), .head, .tail (by decide) (.tail (by decide) .head), .tail (by decide) (.tail (by decide) (.tail (by decide) (.tail (by decide) (.tail (by decide) .head))))⟩
  · exact ⟨_, .tail (by decide) (.tail (by decide) (.tail (by decide) (.tail (by decide) (.tail (by decide) .head)))), .tail (by decide) (.tail (by decide) (.tail (by decide) (.tail (by decide) (.tail (by decide) (.tail (by decide) .head))))), .head, .tail (by decide) (.tail (by decide) .head), .tail (by decide) (.tail (by decide) (.tail (by decide) (.tail (by decide) (.tail (by decide) .head))))⟩
theorem loop_1 (B : Base C) (hr : Room (n + 1) A) {L it sd lb nmA abA lnA : Addr} (he : EnvOk env L nmT []) {ds : List Int} (hsd : LstAt C N sd (ds.map .int)) (hm : ds.length ≤ 5) {Q : Fl → Led → Prop} : ∀ (r : List Int) (k : Nat) (s : TS) (ep : Nat) (x : List (Str × V)), ds.dropLast.drop k = r → s.Ok k → (x = ([] : List (Str × V)) ∨ ∃ u v, x = ([("k", u), ("above", v)] : List (Str × V))) →
    (∀ ep x', ((x' = x ∧ r = []) ∨ ∃ u v, x' = ([("k", u), ("above", v)] : List (Str × V))) → Q .next ((L, .ns (tns sd lb nmA abA lnA x')) :: (nmA, .list ((trun r k s).nm.map .str)) :: (abA, .list ((trun r k s).ab.map .str)) :: (lnA, .dictS (mapG .int (trun r k s).ln) ep) :: (lb, .list (lab.map .str)) :: N)) →
    LOOP C A env (forT f1) (forB f1) [] (.ref it) Q ((L, .ns (tns sd lb nmA abA lnA x)) :: (it, .raw (rit k r.length)) :: (nmA, .list (s.nm.map .str)) :: (abA, .list (s.ab.map .str)) :: (lnA, .dictS (mapG .int s.ln) ep) :: (lb, .list (lab.map .str)) :: N) := by
  intro r
  induction r with
  | nil =>
    intro k s ep x e hs hx h
    exact LOOP.step (NXT.rangeEnd hr (.tail .head) (h ep x (.inl ⟨rfl, rfl⟩)))
  | cons d r ih =>
    intro k s ep x e hs hx h
    have hlen := congrArg List.length e
    rw [List.length_drop, List.length_dropLast, List.length_cons] at hlen
    have hk4 : k < 4 := by omega
    have hd : ds[k]? = some d := by
      have h1 := congrArg (fun l => l[0]?) e
      simp only [List.getElem?_drop, Nat.add_zero, List.getElem?_cons_zero] at h1
      rw [List.getElem?_dropLast] at h1
      split at h1
      · exact h1
      · cases h1
    have e' : ds.dropLast.drop (k + 1) = r := by rw [← List.drop_drop, e]; rfl
    have h0 : 0 ≤ d.fmod (s.nm.length : Int) := Int.fmod_nonneg_of_pos _ (by rw [hs.n]; omega)
    have h1 : d.fmod (s.nm.length : Int) < (s.nm.length : Int) := Int.fmod_lt_of_pos _ (by rw [hs.n]; omega)
    have hnm : s.nm[(d.fmod (s.nm.length : Int)).toNat]? = some (s.nm.getD (d.fmod (s.nm.length : Int)).toNat "") := by
      have hlt : (d.fmod (s.nm.length : Int)).toNat < s.nm.length := by omega
      rw [List.getD_eq_getElem?_getD, List.getElem?_eq_getElem hlt]; rfl
    have hlab : lab[k]? = some (lab.getD k "") := by
      have hlt : k < lab.length := hk4
      rw [List.getD_eq_getElem?_getD, List.getElem?_eq_getElem hlt]; rfl
    obtain ⟨m, p1, p2, k1, k2, k3⟩ := tns_put (.int k) (.str (s.nm.getD (d.fmod (s.nm.length : Int)).toNat "")) hx (sd := sd) (lb := lb) (nmA := nmA) (abA := abA) (lnA := lnA)
    have hok := tstep_ok hs hk4 d
    have ld : ("." : Str).length = 1 := by decide
    obtain ⟨ho1, ho2⟩ := hs.nm _ (List.mem_of_getElem? hnm)
    obtain ⟨hb1, hb2⟩ := lab_ok k hk4
    have hnl : s.nm.length = k + 1 := hs.n
    refine LOOP.step (NXT.range (k := k) (n := (r.length + 1 : Nat)) (.tail .head) (by omega) (BND.name ?_))
    refine STO.local he (by walk_at "lk") p1 .head ?_
    refine ST.cons (SX.assign (EV.sub ?_))
    refine EV.name (LD.local he (by walk_at "lk") (.head _) k2 (EV.bin (EV.sub ?_)))
    refine EV.name (LD.local he (by walk_at "lk") (.head _) k1 ?_)
    refine EV.name (LD.local he (by walk_at "lk") (.head _) k3 ?_)
    have hdV : (ds.map V.int)[(k : Int).toNat]? = some (V.int d) := by rw [Int.toNat_natCast, List.getElem?_map, hd]; rfl
    refine SUB.list hsd.cons.cons.cons.cons.cons.cons (GIT.list hsd.cons.cons.cons.cons.cons.cons (by omega) (by omega) hdV ?_)
    refine EV.call (EV.name (LD.blt he (by walk_at "lk") B.b_len (EVS.cons ?_)))
    refine EV.name (LD.local he (by walk_at "lk") (.head _) k2 (EVS.nil ⟨KEEP.bi, CALL.lenList (LstAt.mem (.tail _ (.tail _ (.head _)))) (by rw [List.length_map]; omega) ?_⟩))
    rw [List.length_map]
    refine BIN.mod (by omega) ?_
    have hnmV : (s.nm.map V.str)[(d.fmod (s.nm.length : Int)).toNat]? = some (V.str (s.nm.getD (d.fmod (s.nm.length : Int)).toNat "")) := by rw [List.getElem?_map, hnm]; rfl
    refine SUB.list (LstAt.mem (.tail _ (.tail _ (.head _)))) (GIT.list (LstAt.mem (.tail _ (.tail _ (.head _)))) h0 (by omega) hnmV ?_)
    refine STO.local he (by walk_at "lk") p2 .head ?_
    refine ST.cons (SX.expr (hi := inter_off he) (EV.meth (pl := ?_) ?_))
    rotate_left
    refine EV.name (LD.local he (by walk_at "lk") (.head _) (.tail (by decide) (.tail (by decide) (.tail (by decide) .head))) ?_)
    refine gm_list PySem.F.slot_list_append PySem.F.type_list_append (.tail _ (.tail _ (.tail _ (.head _)))) (EVS.cons ?_)
    refine EV.name (LD.local he (by walk_at "lk") (.head _) (.tail (by decide) (.tail (by decide) (.tail (by decide) (.tail (by decide) (.tail (by decide) (.tail (by decide) .head)))))) ?_)
    refine EVS.nil ⟨KEEP.bi, CALL.append (.tail (.tail (.tail .head))) (by rw [List.length_map, hs.ab, sizeLine_eq]; omega) ?_⟩
    rw [show s.ab.map V.str ++ [V.str (s.nm.getD (d.fmod (s.nm.length : Int)).toNat "")] = (tstep s k d).ab.map V.str by simp [tstep]]
    refine ST.cons (SX.expr (hi := inter_off he) (EV.meth (pl := ?_) ?_))
    rotate_left
    refine EV.name (LD.local he (by walk_at "lk") (.head _) (.tail (by decide) (.tail (by decide) .head)) ?_)
    refine gm_list PySem.F.slot_list_append PySem.F.type_list_append (.tail _ (.tail _ (.head _))) (EVS.cons (EV.bin (EV.bin (EV.sub ?_))))
    refine EV.name (LD.local he (by walk_at "lk") (.head _) (.tail (by decide) .head) ?_)
    refine EV.name (LD.local he (by walk_at "lk") (.head _) (.tail (by decide) (.tail (by decide) (.tail (by decide) (.tail (by decide) (.tail (by decide) .head))))) ?_)
    have hlabV : (lab.map V.str)[(k : Int).toNat]? = some (V.str (lab.getD k "")) := by rw [Int.toNat_natCast, List.getElem?_map, hlab]; rfl
    refine SUB.list (LstAt.mem (.tail _ (.tail _ (.tail _ (.tail _ (.tail _ (.head _))))))) (GIT.list (LstAt.mem (.tail _ (.tail _ (.tail _ (.tail _ (.tail _ (.head _))))))) (by omega) (by omega) hlabV ?_)
    refine EV.cstr (BIN.adds (by rw [ld, sizeLine_eq]; omega) ?_)
    refine EV.name (LD.local he (by walk_at "lk") (.head _) (.tail (by decide) (.tail (by decide) (.tail (by decide) (.tail (by decide) (.tail (by decide) (.tail (by decide) .head)))))) ?_)
    refine BIN.adds (by rw [Str.len_app, ld, sizeLine_eq]; omega) ?_
    refine EVS.nil ⟨KEEP.bi, CALL.append (.tail (.tail .head)) (by rw [List.length_map, sizeLine_eq]; omega) ?_⟩
    rw [show s.nm.map V.str ++ [V.str (lab.getD k "" ++ "." ++ s.nm.getD (d.fmod (s.nm.length : Int)).toNat "")] = (tstep s k d).nm.map V.str by simp [tstep]]
    refine ST.cons (SX.assignSub (EV.bin (EV.sub ?_)))
    refine EV.name (LD.local he (by walk_at "lk") (.head _) .head ?_)
    refine EV.name (LD.local he (by walk_at "lk") (.head _) (.tail (by decide) (.tail (by decide) (.tail (by decide) (.tail (by decide) (.tail (by decide) .head))))) ?_)
    refine SUB.list hsd.cons.cons.cons.cons.cons.cons (GIT.list hsd.cons.cons.cons.cons.cons.cons (by omega) (by omega) hdV ?_)
    refine EV.cint (BIN.fdiv (by decide) (PyProof.noPylong_small (by decide)) ?_)
    refine EV.name (LD.local he (by walk_at "lk") (.head _) (.tail (by decide) (.tail (by decide) (.tail (by decide) (.tail (by decide) .head)))) ?_)
    refine EV.sub ?_
    refine EV.name (LD.local he (by walk_at "lk") (.head _) (.tail (by decide) (.tail (by decide) .head)) ?_)
    have hl2 : (tstep s k d).nm.length = k + 2 := hok.n
    have hlast : ((tstep s k d).nm.map V.str)[(-1 + (((tstep s k d).nm.map V.str).length : Int)).toNat]? = some (V.str (lab.getD k "" ++ "." ++ s.nm.getD (d.fmod (s.nm.length : Int)).toNat "")) := by
      have : (-1 + (((tstep s k d).nm.map V.str).length : Int)).toNat = s.nm.length := by rw [List.length_map, hl2]; omega
      rw [this]
      simp [tstep]
    refine EV.una (EV.cint (UNA.neg (SUB.list (LstAt.mem (.tail _ (.tail _ (.head _)))) (GIT.listNeg (LstAt.mem (.tail _ (.tail _ (.head _)))) (by decide) (by rw [List.length_map, hl2]; omega) (by decide) hlast ?_))))
    refine SIT.dict (dkS C) (kvs := mapG V.int s.ln) (k := lab.getD k "" ++ "." ++ s.nm.getD (d.fmod (s.nm.length : Int)).toNat "") (x := .int (d.fdiv 96)) (ep := ep) (fun ep' => .tail (.tail (.tail (.tail .head)))) (by rw [mapG, List.length_map, sizeLine_eq]; have := hs.ln; omega) (fun ep' => ST.nil ?_)
    have e1 : putK (mapG V.int s.ln) (lab.getD k "" ++ "." ++ s.nm.getD (d.fmod (s.nm.length : Int)).toNat "") (V.int (d.fdiv 96)) = mapG V.int (tstep s k d).ln := putK_mapG V.int _ _ _
    show LOOP C A env (forT f1) (forB f1) [] (.ref it) Q ((L, _) :: (it, _) :: (nmA, _) :: (abA, _) :: (lnA, Cell.dictS (putK (mapG V.int s.ln) _ (V.int (d.fdiv 96))) ep') :: (lb, _) :: N)
    rw [e1]
    have := ih (k + 1) (tstep s k d) ep' [("k", .int k), ("above", .str (s.nm.getD (d.fmod (s.nm.length : Int)).toNat ""))] e' hok (.inr ⟨_, _, rfl⟩) (fun ep x' hx' => h ep x' (.inr (hx'.elim (fun ⟨a, _⟩ => ⟨_, _, a⟩) id)))
    rw [show ((k + 1 : Nat) : Int) = (k : Int) + 1 by omega] at this
    rw [show ((r.length + 1 : Nat) : Int) - 1 = r.length by omega]
    exact this

theorem wsi_len (d : Int) : (wsi d).length ≤ 1 := by
  unfold wsi
  have h0 : 0 ≤ (d.fdiv 24).fmod 4 := Int.fmod_nonneg_of_pos _ (by decide)
  have h1 : (d.fdiv 24).fmod 4 < 4 := Int.fmod_lt_of_pos _ (by decide)
  generalize (d.fdiv 24).fmod 4 = i at h0 h1
  have : i = 0 ∨ i = 1 ∨ i = 2 ∨ i = 3 := by omega
  rcases this with rfl | rfl | rfl | rfl <;> decide
theorem wrt_len (x : Str) (q : Bool) : (wrt x q).length ≤ 2 * x.length + 2 := by
  have h1 := esc_le x.cps.toList
  have l1 : ("\"" : Str).length = 1 := by decide
  have h2 : x.cps.toList.length = x.length := by rw [Array.length_toList]; rfl
  unfold wrt
  split
  · rw [Str.len_app, Str.len_app, ofL_len, l1]; omega
  · rw [ofL_len]; omega
noncomputable def tn2 (sd lb nmA abA lnA : Addr) (u v w : V) : List (Str × V) := ("seeds", .ref sd) :: ("labels", .ref lb) :: ("names", .ref nmA) :: ("aboves", .ref abA) :: ("lengths", .ref lnA) :: [("k", u), ("above", v), ("text", w)]
theorem loop_2 (B : Base C) (hr : Room (n + 2) A) {L it sd lb nmA abA lnA : Addr} {v : V} {ep : Nat} (he : EnvOk env L nmT []) {ds : List Int} (hsd : LstAt C N sd (ds.map .int)) (hm : ds.length ≤ 5) {s : TS} (hs : s.Ok (ds.length - 1)) {Q : Fl → Led → Prop} : ∀ (r : List Int) (k : Nat) (t : Str) (u : V), ds.dropLast.drop k = r → t.length ≤ 100 * k →
    (∀ u, Q .next ((L, .ns (tn2 sd lb nmA abA lnA u v (.str (tx s r k t)))) :: (nmA, .list (s.nm.map .str)) :: (abA, .list (s.ab.map .str)) :: (lnA, .dictS (mapG .int s.ln) ep) :: N)) →
    LOOP C A env (forT f2) (forB f2) [] (.ref it) Q ((L, .ns (tn2 sd lb nmA abA lnA u v (.str t))) :: (it, .raw (rit k r.length)) :: (nmA, .list (s.nm.map .str)) :: (abA, .list (s.ab.map .str)) :: (lnA, .dictS (mapG .int s.ln) ep) :: N) := by
  intro r
  induction r with
  | nil =>
    intro k t u e ht h
    exact LOOP.step (NXT.rangeEnd hr (.tail .head) (h u))
  | cons d r ih =>
    intro k t u e ht h
    have hlen := congrArg List.length e
    rw [List.length_drop, List.length_dropLast, List.length_cons] at hlen
    have hk4 : k < 4 := by omega
    have hd : ds[k]? = some d := by
      have h1 := congrArg (fun l => l[0]?) e
      simp only [List.getElem?_drop, Nat.add_zero, List.getElem?_cons_zero] at h1
      rw [List.getElem?_dropLast] at h1
      split at h1
      · exact h1
      · cases h1
    have e' : ds.dropLast.drop (k + 1) = r := by rw [← List.drop_drop, e]; rfl
    have hnl := hs.n
    have hlt : k + 1 < s.nm.length := by omega
    have hnm : s.nm[k + 1]? = some (s.nm.getD (k + 1) "") := by rw [List.getD_eq_getElem?_getD, List.getElem?_eq_getElem hlt]; rfl
    obtain ⟨ho1, ho2⟩ := hs.nm _ (List.mem_of_getElem? hnm)
    have hnmV : (s.nm.map V.str)[((k : Int) + 1).toNat]? = some (V.str (s.nm.getD (k + 1) "")) := by
      rw [show ((k : Int) + 1).toNat = k + 1 by omega, List.getElem?_map, hnm]; rfl
    have hdV : (ds.map V.int)[(k : Int).toNat]? = some (V.int d) := by rw [Int.toNat_natCast, List.getElem?_map, hd]; rfl
    have hw1 := wsi_len d
    have hw2 := wrt_len (s.nm.getD (k + 1) "") ((d.fdiv 12).fmod 2 == 0)
    have next : ∀ t', t' = (if s.ab.any (· == s.nm.getD (k + 1) "") then t else t ++ wrt (s.nm.getD (k + 1) "") ((d.fdiv 12).fmod 2 == 0) ++ wsi d) → t'.length ≤ 100 * (k + 1) →
        LOOP C A env (forT f2) (forB f2) [] (.ref it) Q ((L, .ns (tn2 sd lb nmA abA lnA (.int k) v (.str t'))) :: (it, .raw (rit ((k : Int) + 1) (((r.length + 1 : Nat) : Int) - 1))) :: (nmA, .list (s.nm.map .str)) :: (abA, .list (s.ab.map .str)) :: (lnA, .dictS (mapG .int s.ln) ep) :: N) := by
      rintro t' rfl hl
      have := ih (k + 1) _ (.int k) e' hl h
      rw [show ((k + 1 : Nat) : Int) = (k : Int) + 1 by omega] at this
      rw [show ((r.length + 1 : Nat) : Int) - 1 = r.length by omega]
      exact this
    refine LOOP.step (NXT.range (k := k) (n := (r.length + 1 : Nat)) (.tail .head) (by omega) (BND.name ?_))
    refine STO.local he (by walk_at "lk") (m' := tn2 sd lb nmA abA lnA (.int k) v (.str t)) (.tail (by decide) (.tail (by decide) (.tail (by decide) (.tail (by decide) (.tail (by decide) .head))))) .head ?_
    refine ST.cons (SX.ifs (IST.cmp (EV.sub ?_)))
    refine EV.name (LD.local he (by walk_at "lk") (.head _) (.tail (by decide) (.tail (by decide) .head)) (EV.bin ?_))
    refine EV.name (LD.local he (by walk_at "lk") (.head _) (.tail (by decide) (.tail (by decide) (.tail (by decide) (.tail (by decide) (.tail (by decide) .head))))) (EV.cint (BIN.add ?_)))
    refine SUB.list (LstAt.mem (.tail _ (.tail _ (.head _)))) (GIT.list (LstAt.mem (.tail _ (.tail _ (.head _)))) (by omega) (by omega) hnmV ?_)
    refine EV.name (LD.local he (by walk_at "lk") (.head _) (.tail (by decide) (.tail (by decide) (.tail (by decide) .head))) ?_)
    refine CMP.notInList (ys := s.ab) (LstAt.mem (.tail _ (.tail _ (.tail _ (.head _))))) (TRU.bool ?_)
    cases hab : s.ab.any (· == s.nm.getD (k + 1) "")
    · rw [Bool.not_false]; rw [if_pos rfl]
      refine ST.cons (SX.aug (LD.local he (by walk_at "lk") (.head _) (.tail (by decide) (.tail (by decide) (.tail (by decide) (.tail (by decide) (.tail (by decide) (.tail (by decide) (.tail (by decide) .head))))))) ?_))
      refine EV.call (EV.name (LD.glob he (by walk_at "lk") B.g__law_written (EVS.cons (EV.sub ?_))))
      refine EV.name (LD.local he (by walk_at "lk") (.head _) (.tail (by decide) (.tail (by decide) .head)) (EV.bin ?_))
      refine EV.name (LD.local he (by walk_at "lk") (.head _) (.tail (by decide) (.tail (by decide) (.tail (by decide) (.tail (by decide) (.tail (by decide) .head))))) (EV.cint (BIN.add ?_)))
      refine SUB.list (LstAt.mem (.tail _ (.tail _ (.head _)))) (GIT.list (LstAt.mem (.tail _ (.tail _ (.head _)))) (by omega) (by omega) hnmV ?_)
      refine EVS.cons (EV.cmp (EV.bin (EV.bin (EV.sub ?_))))
      refine EV.name (LD.local he (by walk_at "lk") (.head _) .head ?_)
      refine EV.name (LD.local he (by walk_at "lk") (.head _) (.tail (by decide) (.tail (by decide) (.tail (by decide) (.tail (by decide) (.tail (by decide) .head))))) ?_)
      refine SUB.list hsd.cons.cons.cons.cons.cons (GIT.list hsd.cons.cons.cons.cons.cons (by omega) (by omega) hdV ?_)
      refine EV.cint (BIN.fdiv (by decide) (PyProof.noPylong_small (by decide)) (EV.cint (BIN.mod (by decide) (EV.cint (CMP.eqi ?_)))))
      refine EVS.nil ⟨KEEP.fn B.f181, CALL.fn (f181 B hr ho1 (by omega) ?_)⟩
      refine INP.adds (by rw [sizeLine_eq]; omega) ?_
      refine STO.local he (by walk_at "lk") (m' := tn2 sd lb nmA abA lnA (.int k) v (.str (t ++ wrt (s.nm.getD (k + 1) "") ((d.fdiv 12).fmod 2 == 0)))) (.tail (by decide) (.tail (by decide) (.tail (by decide) (.tail (by decide) (.tail (by decide) (.tail (by decide) (.tail (by decide) .head))))))) .head ?_
      refine ST.cons (SX.aug (LD.local he (by walk_at "lk") (.head _) (.tail (by decide) (.tail (by decide) (.tail (by decide) (.tail (by decide) (.tail (by decide) (.tail (by decide) (.tail (by decide) .head))))))) ?_))
      refine EV.sub (EV.cstr (EV.bin (EV.bin (EV.sub ?_))))
      refine EV.name (LD.local he (by walk_at "lk") (.head _) .head ?_)
      refine EV.name (LD.local he (by walk_at "lk") (.head _) (.tail (by decide) (.tail (by decide) (.tail (by decide) (.tail (by decide) (.tail (by decide) .head))))) ?_)
      refine SUB.list hsd.cons.cons.cons.cons.cons (GIT.list hsd.cons.cons.cons.cons.cons (by omega) (by omega) hdV ?_)
      have w0 : 0 ≤ (d.fdiv 24).fmod 4 := Int.fmod_nonneg_of_pos _ (by decide)
      have w1 : (d.fdiv 24).fmod 4 < 4 := Int.fmod_lt_of_pos _ (by decide)
      have lw : (("\n\t\r " : Str).length : Int) = 4 := by decide
      refine EV.cint (BIN.fdiv (by decide) (PyProof.noPylong_small (by decide)) (EV.cint (BIN.mod (by decide) (SUB.str (by unfold fitsSsize; simp; omega) (by rw [lw]; omega) (by rw [lw]; omega) ?_))))
      refine INP.adds (by rw [Str.len_app, sizeLine_eq]; have : (Txt.item "\n\t\r " ((d.fdiv 24).fmod 4)).length ≤ 1 := hw1; omega) ?_
      refine STO.local he (by walk_at "lk") (m' := tn2 sd lb nmA abA lnA (.int k) v (.str (t ++ wrt (s.nm.getD (k + 1) "") ((d.fdiv 12).fmod 2 == 0) ++ wsi d))) (.tail (by decide) (.tail (by decide) (.tail (by decide) (.tail (by decide) (.tail (by decide) (.tail (by decide) (.tail (by decide) .head))))))) .head ?_
      refine ST.nil (ST.nil (next _ (by rw [hab]; rfl) ?_))
      rw [Str.len_app, Str.len_app]; omega
    · rw [Bool.not_true]; rw [if_neg Bool.false_ne_true]
      exact ST.nil (ST.nil (next _ (by rw [hab]; rfl) (by omega)))
end

end
section

noncomputable def topOf (ds : List Int) : Str := if (ds.getLastD 0).fmod 2 == 0 then "local" else "c7.net"
noncomputable def treeOf (ds : List Int) : TS := trun ds.dropLast 0 ⟨[topOf ds], [], []⟩
noncomputable def textOf (ds : List Int) : Str := tx (treeOf ds) ds.dropLast 0 ""
theorem trun_ok : ∀ (r : List Int) (k : Nat) (s : TS), s.Ok k → k + r.length ≤ 4 → (trun r k s).Ok (k + r.length)
  | [], k, s, h, _ => h
  | d :: r, k, s, h, hz => by
    rw [List.length_cons] at hz
    have := trun_ok r (k + 1) (tstep s k d) (tstep_ok h (by omega) d) (by omega)
    rw [List.length_cons, show k + (r.length + 1) = k + 1 + r.length by omega]
    exact this
theorem top_ok (ds : List Int) : (TS.mk [topOf ds] [] []).Ok 0 := by
  refine ⟨rfl, ?_, rfl, Nat.le_refl _⟩
  intro x hx
  rw [List.mem_singleton] at hx
  subst hx
  unfold topOf
  split
  · exact ⟨fun c hc => by revert hc; revert c; decide, by decide⟩
  · exact ⟨fun c hc => by revert hc; revert c; decide, by decide⟩
theorem treeOf_ok (ds : List Int) (h : ds.length ≤ 5) : (treeOf ds).Ok (ds.length - 1) := by
  have := trun_ok ds.dropLast 0 _ (top_ok ds) (by rw [List.length_dropLast]; omega)
  rw [List.length_dropLast, Nat.zero_add] at this
  exact this
section
variable {C : Cx} {A : Around} {env : Env} {N N' N1 N2 M P P' : Led} {K : Frag} {n : Nat} {x : Str}

theorem f188 (B : Base C) (hr : Room (n + 3) A) {sd : Addr} {ds : List Int} (hl : LstAt C N sd (ds.map .int)) (hz : ds.length = 4 ∨ ds.length = 5) {Q : V → Led → Prop}
    (h : ∀ t nmA lnA ep, Q (.ref t) ((t, .tup [.ref nmA, .ref lnA, .str (textOf ds)]) :: (nmA, .list ((treeOf ds).nm.map .str)) :: (lnA, .dictS (mapG .int (treeOf ds).ln) ep) :: N)) : FN C A 188 [.ref sd] Q N := by
  refine FN.enter1 (p := "seeds") (nm := nmT) hr B.f188 rfl (fun L env he hr => ?_)
  refine ST.cons (SX.assign (EV.list (by decide) (EVS.cons (EV.cstr (EVS.cons (EV.cstr (EVS.cons (EV.cstr (EVS.cons (EV.cstr (EVS.nil ⟨rfl, fun lb => ?_⟩)))))))))))
  walk_at "stl"
  refine ST.cons (SX.assign (EV.list (by decide) (EVS.cons (EV.ifexp (IST.cmp (EV.bin (EV.sub ?_)))))))
  walk_at "loc"
  have hlast : (ds.map V.int)[(-1 + ((ds.map V.int).length : Int)).toNat]? = some (V.int (ds.getLastD 0)) := by
    have : (-1 + ((ds.map V.int).length : Int)).toNat = ds.length - 1 := by rw [List.length_map]; omega
    rw [this, List.getElem?_map]
    have hlt : ds.length - 1 < ds.length := by omega
    rw [List.getElem?_eq_getElem hlt, List.getLastD_eq_getLast?, List.getLast?_eq_getElem?, List.getElem?_eq_getElem hlt]; rfl
  refine EV.una (EV.cint (UNA.neg (SUB.list hl.cons.cons (GIT.listNeg hl.cons.cons (by decide) (by rw [List.length_map]; omega) (by decide) hlast ?_))))
  refine EV.cint (BIN.mod (by decide) (EV.cint (CMP.eqi (TRU.bool ?_))))
  have fin : ∀ nmA, ST C (A.deeper env) env ((bodyOf fd188).drop 2) (End Q) ((nmA, .list ([topOf ds].map .str)) :: (lb, .list (lab.map .str)) :: (L, .ns [("seeds", .ref sd), ("labels", .ref lb), ("names", .ref nmA)]) :: N) := by
    intro nmA
    refine ST.cons (SX.assign (EV.list (by decide) (EVS.nil ⟨rfl, fun abA => ?_⟩)))
    walk_at "stl"
    refine ST.cons (SX.assign (EV.dict0 (dkS C) fun lnA ep => ?_))
    walk_at "stl"
    have hne : ds.dropLast ≠ [] := by
      intro e
      have := congrArg List.length e
      rw [List.length_dropLast] at this
      simp at this; omega
    have hlen : (ds.dropLast.length : Int) = ((ds.map V.int).length : Int) - 1 := by rw [List.length_dropLast, List.length_map]; omega
    refine ST.cons (SX.for_ (EV.call (EV.name (LD.blt he (by walk_at "lk") B.b_range (EVS.cons (EV.bin (EV.call (EV.name (LD.blt he (by walk_at "lk") B.b_len (EVS.cons ?_))))))))))
    walk_at "loc"
    refine EVS.nil ⟨KEEP.bi, CALL.lenList hl.cons.cons.cons.cons.cons (by rw [List.length_map]; omega) (EV.cint (BIN.sub ?_))⟩
    rw [← hlen]
    refine EVS.nil ⟨KEEP.ty, CALL.rangeO (fun rg t u v => ITR.range (.head _) (by rw [List.length_dropLast]; omega) (fun it => ?_))⟩
    refine LOOP.re (N1 := (L, .ns (tns sd lb nmA abA lnA [])) :: (it, .raw (rit (0 : Nat) ds.dropLast.length)) :: (nmA, .list ([topOf ds].map .str)) :: (abA, .list (([] : List Str).map .str)) :: (lnA, .dictS (mapG .int []) ep) :: (lb, .list (lab.map .str)) :: N)
      (N2 := (it, .raw (rit (0 : Nat) ds.dropLast.length)) :: (lnA, .dictS (mapG .int []) ep) :: (abA, .list (([] : List Str).map .str)) :: (nmA, .list ([topOf ds].map .str)) :: (lb, .list (lab.map .str)) :: (L, .ns (tns sd lb nmA abA lnA [])) :: N) ?_ (.cons_cons _ (.cons _ (List.Sublist.refl _))) ?_
    rotate_left
    · refine List.Perm.trans (.swap _ _ _) (.cons _ ?_)
      refine List.Perm.trans ?_ (List.perm_middle (l₁ := [_, _, _, _]) (l₂ := N)).symm
      refine .cons _ ?_
      refine List.Perm.trans (.cons _ (.swap _ _ _)) ?_
      refine List.Perm.trans (.swap _ _ _) (.cons _ ?_)
      exact .swap _ _ _
    refine loop_1 B hr he hl (by omega) ds.dropLast 0 ⟨[topOf ds], [], []⟩ ep [] rfl (top_ok ds) (.inl rfl) (fun ep x' hx' => ?_)
    obtain ⟨u, v, rfl⟩ : ∃ u v, x' = ([("k", u), ("above", v)] : List (Str × V)) := hx'.elim (fun ⟨_, e⟩ => absurd e hne) id
    show ST _ _ _ _ _ ((L, _) :: (nmA, Cell.list ((treeOf ds).nm.map .str)) :: (abA, Cell.list ((treeOf ds).ab.map .str)) :: (lnA, Cell.dictS (mapG .int (treeOf ds).ln) ep) :: _)
    refine ST.cons (SX.assign (EV.cstr ?_))
    refine STO.local he (by walk_at "lk") (m' := tn2 sd lb nmA abA lnA u v (.str "")) (.tail (by decide) (.tail (by decide) (.tail (by decide) (.tail (by decide) (.tail (by decide) (.tail (by decide) (.tail (by decide) .nil))))))) .head ?_
    refine ST.cons (SX.for_ (EV.call (EV.name (LD.blt he (by walk_at "lk") B.b_range (EVS.cons (EV.bin (EV.call (EV.name (LD.blt he (by walk_at "lk") B.b_len (EVS.cons ?_))))))))))
    refine EV.name (LD.local he (by walk_at "lk") (.head _) .head ?_)
    refine EVS.nil ⟨KEEP.bi, CALL.lenList hl.cons.cons.cons.cons.cons (by rw [List.length_map]; omega) (EV.cint (BIN.sub ?_))⟩
    rw [← hlen]
    refine EVS.nil ⟨KEEP.ty, CALL.rangeO (fun rg2 t2 u2 v2 => ITR.range (.head _) (by rw [List.length_dropLast]; omega) (fun it2 => ?_))⟩
    refine LOOP.re (N1 := (L, .ns (tn2 sd lb nmA abA lnA u v (.str ""))) :: (it2, .raw (rit (0 : Nat) ds.dropLast.length)) :: (nmA, .list ((treeOf ds).nm.map .str)) :: (abA, .list ((treeOf ds).ab.map .str)) :: (lnA, .dictS (mapG .int (treeOf ds).ln) ep) :: N)
      (N2 := (it2, .raw (rit (0 : Nat) ds.dropLast.length)) :: (L, .ns (tn2 sd lb nmA abA lnA u v (.str ""))) :: (nmA, .list ((treeOf ds).nm.map .str)) :: (abA, .list ((treeOf ds).ab.map .str)) :: (lnA, .dictS (mapG .int (treeOf ds).ln) ep) :: N) ?_ (.cons_cons _ (.cons _ (.cons_cons _ (.cons_cons _ (.cons_cons _ (.cons_cons _ (.cons _ (List.Sublist.refl _)))))))) (.swap _ _ _)
    refine loop_2 B hr he hl (by omega) (treeOf_ok ds (by omega)) ds.dropLast 0 "" u rfl (by decide) (fun u' => ?_)
    refine ST.cons (SX.ret (EV.tuple (by decide) (EVS.cons ?_)))
    refine EV.name (LD.local he (by walk_at "lk") (.head _) (.tail (by decide) (.tail (by decide) .head)) (EVS.cons ?_))
    refine EV.name (LD.local he (by walk_at "lk") (.head _) (.tail (by decide) (.tail (by decide) (.tail (by decide) (.tail (by decide) .head)))) (EVS.cons ?_))
    refine EV.name (LD.local he (by walk_at "lk") (.head _) (.tail (by decide) (.tail (by decide) (.tail (by decide) (.tail (by decide) (.tail (by decide) (.tail (by decide) (.tail (by decide) .head))))))) (EVS.nil ⟨rfl, fun tt => ?_⟩))
    exact ⟨_, .cons_cons _ (.cons _ (.cons_cons _ (.cons _ (List.Sublist.refl _)))), h tt nmA lnA ep⟩
  cases hb : ((ds.getLastD 0).fmod 2 == 0)
  · rw [if_neg Bool.false_ne_true]
    refine EV.cstr (EVS.nil ⟨rfl, fun nmA => ?_⟩)
    walk_at "stl"
    have := fin nmA
    rw [show topOf ds = "c7.net" by unfold topOf; rw [hb]; rfl] at this
    exact this
  · rw [if_pos rfl]
    refine EV.cstr (EVS.nil ⟨rfl, fun nmA => ?_⟩)
    walk_at "stl"
    have := fin nmA
    rw [show topOf ds = "local" by unfold topOf; rw [hb]; rfl] at this
    exact this
end

end
section

noncomputable abbrev nmK : List (Str × NameKind) := [("lexer", .local), ("found", .local), ("ends", .local), ("word", .local), ("above", .local), ("contains", .globalImplicit), ("reach", .globalImplicit), ("ne", .globalImplicit), ("add_callers", .globalImplicit)]
noncomputable def upOf (w : Str) : Str := Txt.slice (rch w) (some 1) none
/-- what a word leads to, with all that the walk asks on the way -/
noncomputable def climb1 : Nat → Str → List Str → List (Str × Int) → Option (List Str × List (Str × Int))
  | 0, _, _, _ => none
  | f + 1, w, fd, en =>
    if fd.any (· == w) then some (fd, en)
    else if !(srch w && decide (w.length ≤ 900) && decide ((rch w).length ≤ 900) && decide (fd.length ≤ 40) && decide (en.length ≤ 40)) then none
    else if (rch w).cps.toList != w.cps.toList then
      if (upOf w).cps.toList == ("" : Str).cps.toList then none else climb1 f (upOf w) (fd ++ [w]) (addI (cpyG en) (putG [(w, 1)] (upOf w) 1))
    else some (fd ++ [w], en)
noncomputable def whT : Stmt → Expr | .While t _ _ _ => t | _ => .Constant .none 0 default
noncomputable def whB : Stmt → List Stmt | .While _ b _ _ => b | _ => []
noncomputable def kWh : Stmt := (bodyOf fd202).getD 3 (.Pass default)
noncomputable def kLast : Stmt := (whB kWh).getD 1 (.Pass default)

section
variable {C : Cx} {A : Around} {env : Env} {N N' N1 N2 M P P' : Led} {K : Frag} {n : Nat} {x : Str} {a : LA} {k : Int} {t : List Nat} {L fa : Addr}

noncomputable def kns (a : LA) (fa en : Addr) (w : Str) (x : List (Str × V)) : List (Str × V) := ("lexer", .ref a.x) :: ("found", .ref fa) :: ("ends", .ref en) :: ("word", .str w) :: x
noncomputable def fax (x : List (Str × V)) : Prop := x = ([] : List (Str × V)) ∨ ∃ v, x = ([("above", v)] : List (Str × V))
/-- the state of the climb -/
noncomputable def KS (a : LA) (k : Int) (t : List Nat) (ps : List Str) (L fa en : Addr) (w : Str) (x : List (Str × V)) (fd : List Str) (es : List (Str × Int)) (ep : Nat) (N : Led) : Led :=
  lexL a k t ps ++ ((L, .ns (kns a fa en w x)) :: (fa, .list (fd.map .str)) :: (en, .dictS (mapG .int es) ep) :: N)
noncomputable abbrev KBody (C : Cx) (A : Around) (env : Env) (sts : List Stmt) (Q : Fl → Led → Prop) (N : Led) : Prop := ST C A env sts (fun f N3 => match f with
        | .next => WLOOP C A env (whT kWh) (whB kWh) Q N3
        | .cont => WLOOP C A env (whT kWh) (whB kWh) Q N3
        | .brk => Q .next N3
        | .ret v => Q (.ret v) N3) N

theorem ks_cons {p : Addr × Cell} {en : Addr} {w : Str} {x : List (Str × V)} {fd : List Str} {es : List (Str × Int)} {ep : Nat} {ps : List Str} (h : p ∈ ((L, Cell.ns (kns a fa en w x)) :: (fa, .list (fd.map .str)) :: (en, .dictS (mapG .int es) ep) :: N)) : p ∈ KS a k t ps L fa en w x fd es ep N := List.mem_append_right _ h

theorem fax_put (v : V) {x : List (Str × V)} (h : fax x) {en : Addr} {w : Str} : Put (kns a fa en w x) "above" v (kns a fa en w [("above", v)]) := by
  rcases h with rfl | ⟨v0, rfl⟩
  · exact .tail (by decide) (.tail (by decide) (.tail (by decide) (.tail (by decide) .nil)))
  · exact .tail (by decide) (.tail (by decide) (.tail (by decide) (.tail (by decide) .head)))
theorem climb_body (B : Base C) (K1 : ClsOk C K) (hp : PySem.Flt.IsPattern C.h₀ 36 patR) (hr : Room (n + 5) A) (he : EnvOk env L nmK []) {Q : Fl → Led → Prop} {fd' : List Str} {es' : List (Str × Int)}
    (cont : ∀ en w x ep, fax x → KBody C A env [kLast] Q (KS a k t [] L fa en w x fd' es' ep N)) :
    ∀ (f : Nat) (w : Str) (fd : List Str) (es : List (Str × Int)) (en : Addr) (x : List (Str × V)) (ep : Nat), climb1 f w fd es = some (fd', es') → fax x → KBody C A env (whB kWh) Q (KS a k t [] L fa en w x fd es ep N)
  | 0, w, fd, es, en, x, ep, h, hx => by cases h
  | f + 1, w, fd, es, en, x, ep, h, hx => by
    unfold climb1 at h
    refine ST.cons (SX.ifs (IST.no (IST.val (EV.call ?_))))
    refine EV.name (LD.glob he (by walk_at "lk") B.g_contains (EVS.cons ?_))
    refine EV.name (LD.local he (by walk_at "lk") (ks_cons (.head _)) (.tail (by decide) .head) (EVS.cons ?_))
    refine EV.name (LD.local he (by walk_at "lk") (ks_cons (.head _)) (.tail (by decide) (.tail (by decide) (.tail (by decide) .head))) (EVS.nil ⟨KEEP.fn B.f155, CALL.fn (f155 B hr (LstAt.mem (ks_cons (.tail _ (.head _)))) (TRU.bool ?_))⟩))
    cases hf : fd.any (· == w)
    · rw [hf, if_neg Bool.false_ne_true] at h
      cases hg : (srch w && decide (w.length ≤ 900) && decide ((rch w).length ≤ 900) && decide (fd.length ≤ 40) && decide (es.length ≤ 40))
      · rw [hg] at h; cases h
      rw [hg, Bool.not_true, if_neg Bool.false_ne_true] at h
      simp only [Bool.and_eq_true, decide_eq_true_eq] at hg
      obtain ⟨⟨⟨⟨g1, g2⟩, g3⟩, g4⟩, g5⟩ := hg
      rw [Bool.not_false]; rw [if_pos rfl]
      refine ST.cons (SX.expr (hi := inter_off he) (EV.meth (pl := ?_) ?_))
      rotate_left
      refine EV.name (LD.local he (by walk_at "lk") (ks_cons (.head _)) (.tail (by decide) .head) ?_)
      refine gm_list PySem.F.slot_list_append PySem.F.type_list_append (ks_cons (.tail _ (.head _))) (EVS.cons ?_)
      refine EV.name (LD.local he (by walk_at "lk") (ks_cons (.head _)) (.tail (by decide) (.tail (by decide) (.tail (by decide) .head))) ?_)
      refine EVS.nil ⟨KEEP.bi, CALL.append (xs := fd.map V.str) (x := .str w) (N' := KS a k t [] L fa en w x (fd ++ [w]) es ep N) ?_ (by rw [List.length_map, sizeLine_eq]; omega) ?_⟩
      · unfold KS
        rw [List.map_append]
        exact Upd.pre (.tail .head) _
      refine ST.cons (SX.assign (EV.call (EV.name (LD.glob he (by walk_at "lk") B.g_reach (EVS.cons ?_)))))
      refine EV.name (LD.local he (by walk_at "lk") (ks_cons (.head _)) (.tail (by decide) (.tail (by decide) (.tail (by decide) .head))) ?_)
      refine EVS.nil ⟨KEEP.fn B.f57, CALL.fn (f57 B hp hr g1 (by omega) ?_)⟩
      refine STO.local he (by walk_at "lk") (fax_put (.str (rch w)) hx) (Upd.pre .head _) ?_
      show ST _ _ _ _ _ (KS a k t [] L fa en w [("above", .str (rch w))] (fd ++ [w]) es ep N)
      refine ST.cons (SX.ifs (IST.val (EV.call (EV.name (LD.glob he (by walk_at "lk") B.g_ne (EVS.cons ?_))))))
      refine EV.name (LD.local he (by walk_at "lk") (ks_cons (.head _)) (.tail (by decide) (.tail (by decide) (.tail (by decide) (.tail (by decide) .head)))) (EVS.cons ?_))
      refine EV.name (LD.local he (by walk_at "lk") (ks_cons (.head _)) (.tail (by decide) (.tail (by decide) (.tail (by decide) .head))) ?_)
      refine EVS.nil ⟨KEEP.fn B.f106, CALL.fn (f106 B hr (TRU.bool ?_))⟩
      cases hne : ((rch w).cps.toList != w.cps.toList)
      · rw [hne, if_neg Bool.false_ne_true] at h
        cases h
        rw [if_neg Bool.false_ne_true]
        exact ST.nil (ST.nil (cont en w _ ep (.inr ⟨_, rfl⟩)))
      · rw [hne, if_pos rfl] at h
        cases hup : ((upOf w).cps.toList == ("" : Str).cps.toList)
        · rw [hup, if_neg Bool.false_ne_true] at h
          rw [if_pos rfl]
          have hlu : (upOf w).length ≤ 900 := Nat.le_trans (slen ..) g3
          refine ST.cons (SX.expr (hi := inter_off he) (EV.meth (pl := ?_) ?_))
          rotate_left
          refine EV.name (LD.local he (by walk_at "lk") (ks_cons (.head _)) .head ?_)
          refine GM.cls K1 (List.mem_append_left _ (.head _)) (List.mem_append_left _ (.tail _ (.head _))) K1.m92 (K1.fn 92 (by decide)) (by rfl) (EVS.cons (EV.strFrom ?_))
          refine EV.name (LD.local he (by walk_at "lk") (ks_cons (.head _)) (.tail (by decide) (.tail (by decide) (.tail (by decide) (.tail (by decide) .head)))) ?_)
          refine ⟨_, rfl, by rw [sizeLine_eq]; omega, EV.cint ⟨1, rfl, EVS.nil ⟨KEEP.fn B.f92, CALL.fn (f92 (M := []) (ps := []) B K1 hr (by decide) ?_)⟩⟩⟩
          show ST _ _ _ _ _ (KS a k t [upOf w] L fa en w [("above", .str (rch w))] (fd ++ [w]) es ep N)
          refine ST.cons (SX.assign (EV.call (EV.name (LD.glob he (by walk_at "lk") B.g_add_callers (EVS.cons ?_)))))
          refine EV.name (LD.local he (by walk_at "lk") (ks_cons (.head _)) (.tail (by decide) (.tail (by decide) .head)) (EVS.cons (EV.dict2 (dkS C) (fun d => ?_))))
          refine EV.name (LD.local he (by walk_at "lk") (.tail _ (ks_cons (.head _))) (.tail (by decide) (.tail (by decide) (.tail (by decide) .head))) (EV.cint (EV.strFrom ?_)))
          refine EV.name (LD.local he (by walk_at "lk") (.tail _ (ks_cons (.head _))) (.tail (by decide) (.tail (by decide) (.tail (by decide) (.tail (by decide) .head)))) ?_)
          refine ⟨_, rfl, by rw [sizeLine_eq]; omega, EV.cint ⟨1, rfl, EV.cint ⟨w, upOf w, _, rfl, rfl, fun ep' => .head, fun ep' => ?_⟩⟩⟩
          have e1 : putK [(w, V.int 1)] (upOf w) (V.int 1) = mapG V.int (putG [(w, (1 : Int))] (upOf w) 1) := putK_mapG V.int [(w, (1 : Int))] (upOf w) 1
          have e2 : (dkS C).cf (putK [(w, V.int 1)] (upOf w) (V.int 1)) ep' = Cell.dictS (mapG V.int (putG [(w, (1 : Int))] (upOf w) 1)) ep' := by rw [e1]; rfl
          rw [e2]
          have hl2 : (putG [(w, (1 : Int))] (upOf w) 1).length ≤ 2 := putG_len ..
          refine EVS.nil ⟨KEEP.fn B.f162, CALL.fn (f162i B hr (.tail _ (ks_cons (.tail _ (.tail _ (.head _))))) (.head _) (by omega) (fun d2 ep2 => ?_))⟩
          refine STO.local he (by walk_at "lk") (m' := kns a fa d2 w [("above", .str (rch w))]) (.tail (by decide) (.tail (by decide) .head)) (.tail (.tail (Upd.pre .head _))) (ST.nil (ST.nil ?_))
          refine W.weak (N' := (d2, .dictS (mapG V.int (addI (cpyG es) (putG [(w, (1 : Int))] (upOf w) 1))) ep2) :: (lexL a k t [upOf w] ++ ((L, .ns (kns a fa d2 w [("above", .str (rch w))])) :: (fa, .list ((fd ++ [w]).map .str)) :: N))) ?_ (.cons_cons _ (.cons _ (List.Sublist.append_left (.cons_cons _ (.cons_cons _ (.cons _ (List.Sublist.refl _)))) _)))
          refine W.perm (N' := KS a k t [upOf w] L fa d2 w [("above", .str (rch w))] (fd ++ [w]) (addI (cpyG es) (putG [(w, (1 : Int))] (upOf w) 1)) ep2 N) ?_ (List.perm_middle (l₁ := lexL a k t [upOf w] ++ [_, _]))
          show KBody C A env [kLast] Q _
          refine ST.cons (SX.assign (EV.meth (pl := ?_) ?_))
          rotate_left
          refine EV.name (LD.local he (by walk_at "lk") (ks_cons (.head _)) .head ?_)
          refine GM.cls K1 (List.mem_append_left _ (.head _)) (List.mem_append_left _ (.tail _ (.head _))) K1.m85 (K1.fn 85 (by decide)) (by rfl) ?_
          refine EVS.nil ⟨KEEP.fn B.f85, CALL.fn (f85p (M := []) (ps := []) B K1 hr (by decide) ?_)⟩
          refine STO.local he (by walk_at "lk") (m' := kns a fa d2 (upOf w) [("above", .str (rch w))]) (.tail (by decide) (.tail (by decide) (.tail (by decide) .head))) (Upd.pre .head _) (ST.nil ?_)
          refine WLOOP.step (IST.cmp ?_)
          refine EV.name (LD.local he (by walk_at "lk") (ks_cons (.head _)) (.tail (by decide) (.tail (by decide) (.tail (by decide) .head))) (EV.cstr (CMP.nes (TRU.bool ?_))))
          rw [show ((upOf w).cps.toList != ("" : Str).cps.toList) = true by unfold bne; rw [hup]; rfl]
          rw [if_pos rfl]
          exact climb_body B K1 hp hr he cont f (upOf w) (fd ++ [w]) _ d2 _ ep2 h (.inr ⟨_, rfl⟩)
        · rw [hup] at h; cases h
    · rw [hf, if_pos rfl] at h
      cases h
      rw [Bool.not_true]; rw [if_neg Bool.false_ne_true]
      exact ST.nil (cont en w x ep hx)
end

end
section

structure It where
  w : Str
  q : Bool
  d : Nat
noncomputable def itText : List It → List Nat
  | [] => []
  | i :: r => if i.q then 34 :: (esc i.w.cps.toList ++ 34 :: (i.d :: itText r)) else esc i.w.cps.toList ++ i.d :: itText r
noncomputable def It.Ok (i : It) : Prop := (∀ c ∈ i.w.cps.toList, okc c = true) ∧ i.w.cps.toList ≠ [] ∧ inWs i.d = true
noncomputable def climbAll (f : Nat) : List Str → List Str → List (Str × Int) → Option (List Str × List (Str × Int))
  | [], fd, es => some (fd, es)
  | w :: r, fd, es => match climb1 f w fd es with
    | some (fd', es') => climbAll f r fd' es'
    | none => none
theorem ofL_self (w : Str) : ofL w.cps.toList = w := by
  apply str_ext
  show w.cps.toList.toArray.toList = _
  simp
theorem lnA_app (p q : List Nat) : ∀ k, lnA k (p ++ q) = lnA (lnA k p) q := by
  induction p with
  | nil => intro k; rfl
  | cons d p ih => intro k; exact ih _

section
variable {C : Cx} {A : Around} {env : Env} {N N' N1 N2 M P P' X : Led} {K : Frag} {n : Nat} {x : Str} {a : LA} {k : Int} {t : List Nat} {L fa : Addr}

/-- the next word of the text -/
theorem tok_fn (B : Base C) (K1 : ClsOk C K) (hr : Room (n + 4) A) {items : List It} {pre : List Nat} {Q : V → Led → Prop} (hpre : ∀ d ∈ pre, inWs d = true) (hok : ∀ i ∈ items, i.Ok) (hz : (itText items).length + pre.length < 600)
    (h : match items with
      | [] => Q (.str "") (lexL a (lnA k pre) [] [] ++ X)
      | i :: r => ∀ k' pre', (∀ d ∈ pre', inWs d = true) → (itText r).length + pre'.length ≤ (itText items).length → lnA k' (pre' ++ r.map (·.d)) = lnA k (pre ++ items.map (·.d)) → Q (.str i.w) (lexL a k' (pre' ++ itText r) [] ++ X)) :
    FN C A 85 [.ref a.x] Q (lexL a k (pre ++ itText items) [] ++ X) := by
  cases items with
  | nil =>
    rw [itText, List.append_nil]
    exact f85e B K1 hr hpre (by omega) h
  | cons i r =>
    obtain ⟨o1, o2, o3⟩ := hok i List.mem_cons_self
    dsimp only at h
    cases hq : i.q
    · have e : itText (i :: r) = esc i.w.cps.toList ++ i.d :: itText r := by rw [itText, hq]; rfl
      rw [e] at hz ⊢
      simp only [List.length_append, List.length_cons] at hz
      refine f85u B K1 hr hpre o1 o2 o3 (by omega) ?_
      have := h (lnA k (pre ++ [i.d])) [] (fun d hd => by cases hd) (by rw [e]; simp; omega) (by rw [← lnA_app]; simp)
      rw [ofL_self]
      exact this
    · have e : itText (i :: r) = 34 :: (esc i.w.cps.toList ++ 34 :: (i.d :: itText r)) := by rw [itText, hq]; rfl
      rw [e] at hz ⊢
      simp only [List.length_append, List.length_cons] at hz
      refine f85q B K1 hr hpre o1 (by simp; omega) ?_
      have := h (lnA k pre) [i.d] (fun d hd => by rw [List.mem_singleton] at hd; rw [hd]; exact o3) (by rw [e]; simp; omega) (by rw [← lnA_app]; simp)
      rw [ofL_self]
      exact this

theorem climb_items (B : Base C) (K1 : ClsOk C K) (hp : PySem.Flt.IsPattern C.h₀ 36 patR) (hr : Room (n + 5) A) (he : EnvOk env L nmK []) {Q : Fl → Led → Prop} {fd' : List Str} {es' : List (Str × Int)} {kf : Int} {f : Nat}
    (h : ∀ en x ep, Q .next (KS a kf [] [] L fa en "" x fd' es' ep N)) :
    ∀ (items : List It) (pre : List Nat) (k : Int) (fd : List Str) (es : List (Str × Int)) (en : Addr) (w : Str) (x : List (Str × V)) (ep : Nat), (∀ d ∈ pre, inWs d = true) → (∀ i ∈ items, i.Ok) → (itText items).length + pre.length < 600 → climbAll f (items.map (·.w)) fd es = some (fd', es') → lnA k (pre ++ items.map (·.d)) = kf → fax x →
    KBody C A env [kLast] Q (KS a k (pre ++ itText items) [] L fa en w x fd es ep N) := by
  intro items
  induction items with
  | nil =>
    intro pre k fd es en w x ep hpre hok hz hc hk hx
    cases hc
    rw [List.map_nil, List.append_nil] at hk
    subst hk
    refine ST.cons (SX.assign (EV.meth (pl := ?_) ?_))
    rotate_left
    refine EV.name (LD.local he (by walk_at "lk") (ks_cons (.head _)) .head ?_)
    refine GM.cls K1 (List.mem_append_left _ (.head _)) (List.mem_append_left _ (.tail _ (.head _))) K1.m85 (K1.fn 85 (by decide)) (by rfl) ?_
    refine EVS.nil ⟨KEEP.fn B.f85, CALL.fn (tok_fn (items := []) B K1 hr hpre hok hz ?_)⟩
    refine STO.local he (by walk_at "lk") (m' := kns a fa en "" x) (.tail (by decide) (.tail (by decide) (.tail (by decide) .head))) (Upd.pre .head _) (ST.nil ?_)
    refine WLOOP.step (IST.cmp ?_)
    refine EV.name (LD.local he (by walk_at "lk") (List.mem_append_right _ (.head _)) (.tail (by decide) (.tail (by decide) (.tail (by decide) .head))) (EV.cstr (CMP.nes (TRU.bool ?_))))
    show ite (false = true) _ _
    rw [if_neg Bool.false_ne_true]
    exact h en x ep
  | cons i r ih =>
    intro pre k fd es en w x ep hpre hok hz hc hk hx
    rw [List.map_cons, climbAll] at hc
    cases h1 : climb1 f i.w fd es with
    | none => rw [h1] at hc; cases hc
    | some p =>
      obtain ⟨fd1, es1⟩ := p
      rw [h1] at hc
      refine ST.cons (SX.assign (EV.meth (pl := ?_) ?_))
      rotate_left
      refine EV.name (LD.local he (by walk_at "lk") (ks_cons (.head _)) .head ?_)
      refine GM.cls K1 (List.mem_append_left _ (.head _)) (List.mem_append_left _ (.tail _ (.head _))) K1.m85 (K1.fn 85 (by decide)) (by rfl) ?_
      refine EVS.nil ⟨KEEP.fn B.f85, CALL.fn (tok_fn (items := i :: r) B K1 hr hpre hok hz ?_)⟩
      intro k' pre' hpre' hz' hk'
      refine STO.local he (by walk_at "lk") (m' := kns a fa en i.w x) (.tail (by decide) (.tail (by decide) (.tail (by decide) .head))) (Upd.pre .head _) (ST.nil ?_)
      refine WLOOP.step (IST.cmp ?_)
      refine EV.name (LD.local he (by walk_at "lk") (List.mem_append_right _ (.head _)) (.tail (by decide) (.tail (by decide) (.tail (by decide) .head))) (EV.cstr (CMP.nes (TRU.bool ?_))))
      have hne : (i.w.cps.toList != ("" : Str).cps.toList) = true := by
        have := (hok i List.mem_cons_self).2.1
        show (i.w.cps.toList != []) = true
        exact bne_iff_ne.mpr this
      rw [hne]
      rw [if_pos rfl]
      refine climb_body (t := pre' ++ itText r) (k := k') B K1 hp hr he (fun en w x ep hx => ?_) f i.w fd es en x ep h1 hx
      exact ih pre' k' fd1 es1 en w x ep hpre' (fun j hj => hok j (List.mem_cons_of_mem _ hj)) (by omega) hc (hk'.trans hk) hx

theorem f202 (B : Base C) (K1 : ClsOk C K) (hp : PySem.Flt.IsPattern C.h₀ 36 patR) (hr : Room (n + 6) A) {items : List It} {f : Nat} {fd' : List Str} {es' : List (Str × Int)} (hok : ∀ i ∈ items, i.Ok) (hne : items ≠ []) (hz : (itText items).length < 600) (hc : climbAll f (items.map (·.w)) [] [] = some (fd', es')) {Q : V → Led → Prop}
    (h : ∀ t fa en ep, Q (.ref t) ((t, .tup [.ref fa, .ref en]) :: (lexL a (lnA k (items.map (·.d))) [] [] ++ ((fa, .list (fd'.map .str)) :: (en, .dictS (mapG .int es') ep) :: N)))) : FN C A 202 [.ref a.x] Q (lexL a k (itText items) [] ++ N) := by
  refine FN.enter1 (p := "lexer") (nm := nmK) hr B.f202 rfl (fun L env he hr => ?_)
  refine ST.cons (SX.assign (EV.list (by decide) (EVS.nil ⟨rfl, fun fa => ?_⟩)))
  walk_at "stl"
  refine ST.cons (SX.assign (EV.dict0 (dkS C) fun en ep => ?_))
  walk_at "stl"
  refine W.perm (N' := lexL a k (itText items) [] ++ ((L, .ns [("lexer", .ref a.x), ("found", .ref fa), ("ends", .ref en)]) :: (fa, .list (([] : List Str).map .str)) :: (en, .dictS (mapG .int []) ep) :: N)) ?_ ?_
  rotate_left
  · refine List.Perm.trans (List.perm_middle (l₁ := lexL a k (itText items) [])) ?_
    refine List.Perm.trans (.cons _ (List.perm_middle (l₁ := lexL a k (itText items) []))) ?_
    refine List.Perm.trans (.cons _ (.cons _ (List.perm_middle (l₁ := lexL a k (itText items) [])))) ?_
    refine List.Perm.trans (.cons _ (.swap _ _ _)) ?_
    refine List.Perm.trans (.swap _ _ _) ?_
    exact .cons _ (.swap _ _ _)
  match items, hne with
  | i :: r, _ =>
  rw [List.map_cons, climbAll] at hc
  cases h1 : climb1 f i.w [] [] with
  | none => rw [h1] at hc; cases hc
  | some p =>
    obtain ⟨fd1, es1⟩ := p
    rw [h1] at hc
    show ST C (A.deeper env) env ((bodyOf fd202).drop 2) (End Q) _
    refine ST.cons (SX.assign (EV.meth (pl := ?_) ?_))
    rotate_left
    refine EV.name (LD.local he (by walk_at "lk") (List.mem_append_right _ (.head _)) .head ?_)
    refine GM.cls K1 (List.mem_append_left _ (.head _)) (List.mem_append_left _ (.tail _ (.head _))) K1.m85 (K1.fn 85 (by decide)) (by rfl) ?_
    refine EVS.nil ⟨KEEP.fn B.f85, CALL.fn (tok_fn (items := i :: r) (pre := []) B K1 hr (fun d hd => by cases hd) hok (by simpa using hz) ?_)⟩
    intro k' pre' hpre' hz' hk'
    refine STO.local he (by walk_at "lk") (m' := kns a fa en i.w []) (.tail (by decide) (.tail (by decide) (.tail (by decide) .nil))) (Upd.pre .head _) ?_
    refine ST.cons (SX.while_ (WLOOP.step (IST.cmp ?_)))
    refine EV.name (LD.local he (by walk_at "lk") (List.mem_append_right _ (.head _)) (.tail (by decide) (.tail (by decide) (.tail (by decide) .head))) (EV.cstr (CMP.nes (TRU.bool ?_))))
    have hne : (i.w.cps.toList != ("" : Str).cps.toList) = true := by
      have := (hok i List.mem_cons_self).2.1
      show (i.w.cps.toList != []) = true
      exact bne_iff_ne.mpr this
    rw [hne]
    rw [if_pos rfl]
    refine climb_body (t := pre' ++ itText r) (k := k') B K1 hp hr he (fun en w x ep hx => ?_) f i.w [] [] en [] ep h1 (.inl rfl)
    refine climb_items (kf := lnA k ((i :: r).map It.d)) (f := f) B K1 hp hr he (fun en x ep => ?_) r pre' k' fd1 es1 en w x ep hpre' (fun j hj => hok j (List.mem_cons_of_mem _ hj)) (by omega) hc hk' hx
    refine ST.cons (SX.ret (EV.tuple (by decide) (EVS.cons ?_)))
    refine EV.name (LD.local he (by walk_at "lk") (ks_cons (.head _)) (.tail (by decide) .head) (EVS.cons ?_))
    refine EV.name (LD.local he (by walk_at "lk") (ks_cons (.head _)) (.tail (by decide) (.tail (by decide) .head)) (EVS.nil ⟨rfl, fun tt => ?_⟩))
    exact ⟨_, .cons_cons _ (List.Sublist.append_left (.cons _ (List.Sublist.refl _)) _), h tt fa en ep⟩
end

end
section

section
variable {C : Cx} {A : Around} {env : Env} {N N' N1 N2 M P P' X : Led} {K : Frag} {n : Nat} {x : Str} {L fa : Addr} {nm : List (Str × NameKind)} {cs : List (Str × Addr)}

theorem swaps_loc {elt : Expr} {gens : List Comprehension} {scope : Scope} {pos tp : Pos} {t : Str} {line : Nat} (he : EnvOk env L nm cs) (hk : nm.lookup t = some .local) (hp : (tp.line == pos.line) = true) (hn : (scope.names.any fun (n, k) => n == t && (k == .local || k == .cell)) = false) :
    swapsWith (.ListComp elt gens scope pos) (some (.Name t tp)) line env = pure true := by
  show pure (env.blockKind == .function && env.kindOf t == some .local && tp.line == pos.line && !(scope.names.any fun (n, k) => n == t && (k == .local || k == .cell))) = _
  have e1 : env.blockKind = .function := by unfold Env.blockKind; rw [he.kind]; rfl
  have e2 : env.kindOf t = some .local := by unfold Env.kindOf; rw [he.names, hk]
  rw [e1, e2, hp, hn]; rfl
theorem swaps_locD {kx vx : Expr} {gens : List Comprehension} {scope : Scope} {pos tp : Pos} {t : Str} {line : Nat} (he : EnvOk env L nm cs) (hk : nm.lookup t = some .local) (hp : (tp.line == pos.line) = true) (hn : (scope.names.any fun (n, k) => n == t && (k == .local || k == .cell)) = false) :
    swapsWith (.DictComp kx vx gens scope pos) (some (.Name t tp)) line env = pure true := by
  show pure (env.blockKind == .function && env.kindOf t == some .local && tp.line == pos.line && !(scope.names.any fun (n, k) => n == t && (k == .local || k == .cell))) = _
  have e1 : env.blockKind = .function := by unfold Env.blockKind; rw [he.kind]; rfl
  have e2 : env.kindOf t = some .local := by unfold Env.kindOf; rw [he.names, hk]
  rw [e1, e2, hp, hn]; rfl
theorem swaps_cell {elt : Expr} {gens : List Comprehension} {scope : Scope} {pos tp : Pos} {t : Str} {line : Nat} (he : EnvOk env L nm cs) (hk : nm.lookup t = some .cell) :
    swapsWith (.ListComp elt gens scope pos) (some (.Name t tp)) line env = pure false := by
  show pure (env.blockKind == .function && env.kindOf t == some .local && tp.line == pos.line && !(scope.names.any fun (n, k) => n == t && (k == .local || k == .cell))) = _
  have e2 : env.kindOf t = some .cell := by unfold Env.kindOf; rw [he.names, hk]
  rw [e2]
  show pure ((env.blockKind == .function && false) && _ && _) = _
  rw [Bool.and_false, Bool.false_and, Bool.false_and]
end

/-- a dict of dicts of pairs -/
inductive WIn (M : Led) : List (Str × V) → List (Str × List (Str × (Int × Int))) → Prop
  | nil : WIn M [] []
  | cons {k : Str} {d : Addr} {ed : List (Str × V)} {ep : Nat} {p e w} : (d, Cell.dictS ed ep) ∈ M → PIn M ed p → WIn M e w → WIn M ((k, .ref d) :: e) ((k, p) :: w)
theorem WIn.mono {M M' : Led} (h : ∀ p ∈ M, p ∈ M') {e p} (x : WIn M e p) : WIn M' e p := by
  induction x with
  | nil => exact .nil
  | cons m y _ ih => exact .cons (h _ m) (y.mono h) ih
theorem WIn.len {M : Led} {e p} (x : WIn M e p) : e.length = p.length := by
  induction x with
  | nil => rfl
  | cons m _ _ ih => rw [List.length_cons, List.length_cons, ih]
theorem WIn.some {M : Led} {e w} (x : WIn M e w) {k : Str} {p} (h : getG w k = some p) : ∃ d ed ep, getK e k = some (.ref d) ∧ (d, Cell.dictS ed ep) ∈ M ∧ PIn M ed p := by
  induction x with
  | nil => cases h
  | @cons k' d ed ep p' e w m y _ ih =>
    unfold getG at h
    unfold getK
    rw [List.find?_cons] at h ⊢
    by_cases hk : k' = k
    · simp [hk] at h
      subst h
      exact ⟨d, ed, ep, by simp [hk], m, y⟩
    · have h1 : decide (k' = k) = false := decide_eq_false hk
      rw [h1] at h ⊢
      exact ih h
theorem WIn.any {M : Led} {e p} (x : WIn M e p) {k : Str} : e.any (fun kv => kv.1 = k) = p.any (fun kv => kv.1 = k) := by
  induction x with
  | nil => rfl
  | cons m _ _ ih => rw [List.any_cons, List.any_cons, ih]
theorem WIn.map {M : Led} {e w} (x : WIn M e w) {k : Str} {d : Addr} {ed : List (Str × V)} {ep : Nat} {p} (m : (d, Cell.dictS ed ep) ∈ M) (y : PIn M ed p) : WIn M (e.map fun kv => if kv.1 = k then (kv.1, V.ref d) else kv) (w.map fun kv => if kv.1 = k then (kv.1, p) else kv) := by
  induction x with
  | nil => exact .nil
  | @cons k' d' ed' ep' p' e w m' y' _ ih =>
    rw [List.map_cons, List.map_cons]
    by_cases hk : k' = k
    · simp only [hk, if_true]
      exact .cons m y ih
    · simp only [hk, if_false]
      exact .cons m' y' ih
theorem WIn.app {M : Led} {e w} (x : WIn M e w) {k : Str} {d : Addr} {ed : List (Str × V)} {ep : Nat} {p} (m : (d, Cell.dictS ed ep) ∈ M) (y : PIn M ed p) : WIn M (e ++ [(k, .ref d)]) (w ++ [(k, p)]) := by
  induction x with
  | nil => exact .cons m y .nil
  | cons m' y' _ ih => exact .cons m' y' ih
theorem WIn.put {M : Led} {e w} (x : WIn M e w) {k : Str} {d : Addr} {ed : List (Str × V)} {ep : Nat} {p} (m : (d, Cell.dictS ed ep) ∈ M) (y : PIn M ed p) : WIn M (putK e k (.ref d)) (putG w k p) := by
  unfold putK putG
  rw [x.any]
  split
  · exact x.map m y
  · exact x.app m y

/-- the plain account of _law_ways -/
noncomputable def addGen {β : Type} (ad : β → β → β) (acc src : List (Str × β)) : List (Str × β) := src.foldl (fun acc p => match getG acc p.1 with | some o => putG acc p.1 (ad p.2 o) | none => putG acc p.1 p.2) acc
noncomputable def bldG {β : Type} (u : β) (ts : List Str) (acc : List (Str × β)) : List (Str × β) := ts.foldl (fun acc t => putG acc t u) acc
noncomputable def innW (fd : List Str) (g : Str) : List Str := fd.filter fun t => dmt ("w." ++ t) ("." ++ Txt.upper g)
noncomputable def outW (fd : List Str) (g : Str) : List Str := fd.filter fun t => !((innW fd g).any (· == t))
noncomputable def farW (fd : List Str) (g h : Str) : List Str := if (innW fd g).any (· == h) then outW fd g else innW fd g
noncomputable def wHeres {β : Type} (ad : β → β → β) (u : β) (fd : List Str) (g : Str) : List Str → List (Str × List (Str × β)) → Option (List (Str × List (Str × β)))
  | [], w => some w
  | h :: r, w => match getG w h with
    | some p => if p.length ≤ 50 then wHeres ad u fd g r (putG w h (addGen ad (cpyG p) (bldG u (farW fd g h) []))) else none
    | none => none
noncomputable def wGates {β : Type} (ad : β → β → β) (u : Str → Option β) (fd : List Str) (top : Str) : List Str → List (Str × List (Str × β)) → Option (List (Str × List (Str × β)))
  | [], w => some w
  | g :: r, w => if g.cps.toList == top.cps.toList then wGates ad u fd top r w else match u g with
    | some v => match wHeres ad v fd g fd w with
      | some w' => wGates ad u fd top r w'
      | none => none
    | none => none
noncomputable def w0 {β : Type} (fd : List Str) (acc : List (Str × List (Str × β))) : List (Str × List (Str × β)) := fd.foldl (fun acc h => putG acc h []) acc
noncomputable def ad2 (x y : Int × Int) : Int × Int := (x.1 + y.1, x.2 + y.2)
noncomputable def WC (t g : Str) : Prop := srch (Txt.lower ("w." ++ t)) = true ∧ srch (Txt.slice (Txt.lower ("." ++ Txt.upper g)) (some 1) none) = true ∧ Builtin.Str.tooLong (Txt.lower ("w." ++ t)).length = false ∧ Builtin.Str.tooLong (Txt.lower ("." ++ Txt.upper g)).length = false ∧
  (Txt.lower ("." ++ Txt.upper g)).length ≤ sizeLine ∧ ("w." : Str).length + t.length ≤ sizeLine ∧ ("." : Str).length + (Txt.upper g).length ≤ sizeLine ∧ Builtin.Str.tooLong (Txt.upper g).length = false
theorem putG_same {β : Type} {w : List (Str × β)} {k : Str} {p v : β} (h : getG w k = some p) : (putG w k v).length = w.length := by
  unfold putG
  have : w.any (fun kv => kv.1 = k) = true := by
    unfold getG at h
    rw [List.any_eq_true]
    cases hf : w.find? (fun kv => kv.1 = k) with
    | none => rw [hf] at h; cases h
    | some q => exact ⟨q, List.mem_of_find?_eq_some hf, by simpa using List.find?_some hf⟩
  rw [if_pos this, List.length_map]
theorem bldG_len {β : Type} (u : β) : ∀ (ts : List Str) (acc : List (Str × β)), (bldG u ts acc).length ≤ acc.length + ts.length
  | [], acc => Nat.le_refl _
  | t :: r, acc => by
    have h1 := bldG_len u r (putG acc t u)
    have h2 := putG_len acc t u
    show (bldG u r (putG acc t u)).length ≤ _
    rw [List.length_cons]; omega
theorem w0_len {β : Type} : ∀ (ts : List Str) (acc : List (Str × List (Str × β))), (w0 ts acc).length ≤ acc.length + ts.length
  | [], acc => Nat.le_refl _
  | t :: r, acc => by
    have h1 := w0_len r (putG acc t [])
    have h2 := putG_len acc t ([] : List (Str × β))
    show (w0 r (putG acc t [])).length ≤ _
    rw [List.length_cons]; omega

noncomputable abbrev nmY : List (Str × NameKind) := [("found", .local), ("top", .local), ("lengths", .cell), ("here", .local), ("ways", .local), ("gate", .cell), ("inner", .cell), ("outer", .local), ("beyond", .local), ("add_callers", .globalImplicit)]
noncomputable def gFor : Stmt := (bodyOf fd207).getD 1 (.Pass default)
noncomputable def w0E : Expr := asgV ((bodyOf fd207).getD 0 (.Pass default))
noncomputable def inE : Expr := asgV ((forB gFor).getD 1 (.Pass default))
noncomputable def outE : Expr := asgV ((forB gFor).getD 2 (.Pass default))
noncomputable def hFor : Stmt := (forB gFor).getD 3 (.Pass default)
noncomputable def arg2 : Expr → Expr | .Call _ (_ :: a :: _) _ _ => a | e => e
noncomputable def bldE : Expr := arg2 (asgV ((forB hFor).getD 1 (.Pass default)))

section
variable {C : Cx} {A : Around} {env : Env} {N N' N1 N2 M P P' X : Led} {K : Frag} {n : Nat} {x : Str} {L fa : Addr}

theorem drop_hit {α : Type} {all : List α} {i : Nat} {d : α} {r : List α} (e : all.drop i = d :: r) : all[i]? = some d ∧ all.drop (i + 1) = r := by
  refine ⟨?_, by rw [← List.drop_drop, e]; rfl⟩
  have := congrArg (fun l => l[0]?) e
  simpa [List.getElem?_drop] using this
theorem drop_end {α : Type} {all : List α} {i : Nat} (e : all.drop i = []) : all[i]? = none := by
  rw [List.getElem?_eq_none_iff]
  have := congrArg List.length e
  rw [List.length_drop] at this
  simp at this; omega
theorem map_some {α β : Type} {f : α → β} {all : List α} {i : Nat} {d : α} (h : all[i]? = some d) : (all.map f)[i]? = some (f d) := by rw [List.getElem?_map, h]; rfl
theorem map_none {α β : Type} {f : α → β} {all : List α} {i : Nat} (h : all[i]? = none) : (all.map f)[i]? = none := by rw [List.getElem?_map, h]; rfl
noncomputable abbrev one (k : Str) (x : List (Str × V)) : Prop := x = ([] : List (Str × V)) ∨ ∃ v, x = ([(k, v)] : List (Str × V))
theorem one.put {k : Str} {x : List (Str × V)} (h : one k x) (v : V) : Put x k v [(k, v)] := by
  rcases h with rfl | ⟨v0, rfl⟩
  · exact .nil
  · exact .head

theorem comp_w0 (B : Base C) (hr : Room (n + 1) A) {it wd : Addr} (he : EnvOk env L [(".0", .local), ("here", .local)] []) {all : List Str} {Q : Led → Prop} : ∀ (r : List Str) (i : Nat) (w : List (Str × List (Str × (Int × Int)))) (e : List (Str × V)) (ep : Nat) (x : List (Str × V)) (N : Led), (fa, Cell.list (all.map .str)) ∈ N → all.drop i = r → w.length + r.length ≤ 100 → WIn N e w → one "here" x →
    (∀ x e ep T, WIn (T ++ N) e (w0 r w) → Q ((L, .ns x) :: (wd, .dictS e ep) :: (T ++ N))) →
    CLOOP C A env w0E (.ref it) (.ref wd) Q ((L, .ns x) :: (it, .flds "list_iterator" [.ref fa, .int i 0]) :: (wd, .dictS e ep) :: N) := by
  intro r
  induction r with
  | nil =>
    intro i w e ep x N hl ed hz hw hx h
    exact CLOOP.dict1 (NXT.listEnd hr (LstAt.mem (.tail _ (.tail _ (.tail _ hl)))) (map_none (drop_end ed)) (.tail .head) (h x e ep [] hw))
  | cons d r ih =>
    intro i w e ep x N hl ed hz hw hx h
    rw [List.length_cons] at hz
    obtain ⟨e1, e2⟩ := drop_hit ed
    refine CLOOP.dict1 (NXT.list (LstAt.mem (.tail _ (.tail _ (.tail _ hl)))) (map_some e1) (.tail .head) (BND.name ?_))
    refine STO.local he (by walk_at "lk") (hx.put (.str d)) .head ?_
    refine EV.name (LD.local he (by walk_at "lk") (.head _) .head (EV.dict0 (dkS C) fun nd ep2 => ?_))
    refine DSET.mk (dkS C) (kvs := e) (k := d) (x := .ref nd) (ep := ep) (fun ep' => .tail (.tail (.tail .head))) (by rw [hw.len, sizeLine_eq]; omega) (fun ep' => ?_)
    have := ih (i + 1) (putG w d []) (putK e d (.ref nd)) ep' [("here", .str d)] ((nd, .dictS [] ep2) :: N) (.tail _ hl) e2 (by have := putG_len w d ([] : List (Str × (Int × Int))); omega) ((hw.mono fun q hq => .tail _ hq).put (.head _) .nil) (.inr ⟨_, rfl⟩) (fun x e ep T hT => by
      have := h x e ep (T ++ [(nd, .dictS [] ep2)]) (by rw [List.append_assoc]; exact hT)
      rw [List.append_assoc] at this
      exact this)
    exact CLOOP.re this (List.Sublist.refl _) (List.Perm.trans (.cons _ (.cons _ (.swap _ _ _))) (List.Perm.trans (.cons _ (.swap _ _ _)) (.swap _ _ _)))

theorem comp_in (B : Base C) (hp : PySem.Flt.IsPattern C.h₀ 36 patR) (hr : Room (n + 2) A) {it lo cg : Addr} {g : Str} (he : EnvOk env L [(".0", .local), ("there", .local), ("domain_match", .globalImplicit), ("gate", .cell)] [("gate", cg)]) {all : List Str} {Q : Led → Prop} (hl : (fa, Cell.list (all.map .str)) ∈ N) (hg : (cg, Cell.cell (some (.str g))) ∈ N) (hc : ∀ t ∈ all, WC t g) : ∀ (r : List Str) (i : Nat) (out : List Str) (x : List (Str × V)), all.drop i = r → out.length + r.length ≤ 100 → one "there" x →
    (∀ x, Q ((L, .ns x) :: (lo, .list ((out ++ r.filter fun t => dmt ("w." ++ t) ("." ++ Txt.upper g)).map .str)) :: N)) →
    CLOOP C A env inE (.ref it) (.ref lo) Q ((L, .ns x) :: (it, .flds "list_iterator" [.ref fa, .int i 0]) :: (lo, .list (out.map .str)) :: N) := by
  intro r
  induction r with
  | nil =>
    intro i out x ed hz hx h
    have := h x
    rw [List.filter_nil, List.append_nil] at this
    exact CLOOP.listIf (NXT.listEnd hr (LstAt.mem (.tail _ (.tail _ (.tail _ hl)))) (map_none (drop_end ed)) (.tail .head) this)
  | cons d r ih =>
    intro i out x ed hz hx h
    rw [List.length_cons] at hz
    obtain ⟨e1, e2⟩ := drop_hit ed
    obtain ⟨w1, w2, w3, w4, w5, w6, w7, w8⟩ := hc d (List.mem_of_getElem? e1)
    refine CLOOP.listIf (NXT.list (LstAt.mem (.tail _ (.tail _ (.tail _ hl)))) (map_some e1) (.tail .head) (BND.name ?_))
    refine STO.local he (by walk_at "lk") (hx.put (.str d)) .head ?_
    refine IST.val (EV.call (EV.name (LD.glob he (by walk_at "lk") B.g_domain_match (EVS.cons (EV.bin (EV.cstr ?_))))))
    refine EV.name (LD.local he (by walk_at "lk") (.head _) .head (BIN.adds w6 (EVS.cons (EV.bin (EV.cstr (EV.meth (pl := ?_) ?_))))))
    rotate_left
    refine EV.name (LD.cell he (by walk_at "lk") (by walk_at "lk") (.tail _ (.tail _ (.tail _ hg))) ?_)
    refine gm_str PySem.F.slot_str_upper PySem.F.type_str_upper (EVS.nil ⟨KEEP.bi, CALL.upper w8 (BIN.adds w7 (EVS.nil ⟨KEEP.fn B.f50, CALL.fn (f50 B hp hr w1 w2 w3 w4 w5 (TRU.bool ?_))⟩))⟩)
    cases hb : dmt ("w." ++ d) ("." ++ Txt.upper g)
    · rw [if_neg Bool.false_ne_true]
      refine ih (i + 1) out [("there", .str d)] e2 (by omega) (.inr ⟨_, rfl⟩) (fun x => ?_)
      have := h x
      rw [List.filter_cons, hb] at this
      exact this
    · rw [if_pos rfl]
      refine EV.name (LD.local he (by walk_at "lk") (.head _) .head ?_)
      refine CALL.append (.tail (.tail .head)) (by rw [List.length_map, sizeLine_eq]; omega) ?_
      rw [show (out.map V.str ++ [V.str d]) = (out ++ [d]).map V.str by simp]
      refine ih (i + 1) (out ++ [d]) [("there", .str d)] e2 (by simp; omega) (.inr ⟨_, rfl⟩) (fun x => ?_)
      have := h x
      rw [List.filter_cons, hb] at this
      rw [List.append_assoc]
      exact this

theorem comp_out (B : Base C) (hr : Room (n + 2) A) {it lo cg li : Addr} {ins : List Str} (he : EnvOk env L [(".0", .local), ("there", .local), ("inner", .cell)] [("inner", cg)]) {all : List Str} {Q : Led → Prop} (hl : (fa, Cell.list (all.map .str)) ∈ N) (hg : (cg, Cell.cell (some (.ref li))) ∈ N) (hi : (li, Cell.list (ins.map .str)) ∈ N) : ∀ (r : List Str) (i : Nat) (out : List Str) (x : List (Str × V)), all.drop i = r → out.length + r.length ≤ 100 → one "there" x →
    (∀ x, Q ((L, .ns x) :: (lo, .list ((out ++ r.filter fun t => !(ins.any (· == t))).map .str)) :: N)) →
    CLOOP C A env outE (.ref it) (.ref lo) Q ((L, .ns x) :: (it, .flds "list_iterator" [.ref fa, .int i 0]) :: (lo, .list (out.map .str)) :: N) := by
  intro r
  induction r with
  | nil =>
    intro i out x ed hz hx h
    have := h x
    rw [List.filter_nil, List.append_nil] at this
    exact CLOOP.listIf (NXT.listEnd hr (LstAt.mem (.tail _ (.tail _ (.tail _ hl)))) (map_none (drop_end ed)) (.tail .head) this)
  | cons d r ih =>
    intro i out x ed hz hx h
    rw [List.length_cons] at hz
    obtain ⟨e1, e2⟩ := drop_hit ed
    refine CLOOP.listIf (NXT.list (LstAt.mem (.tail _ (.tail _ (.tail _ hl)))) (map_some e1) (.tail .head) (BND.name ?_))
    refine STO.local he (by walk_at "lk") (hx.put (.str d)) .head ?_
    refine IST.cmp ?_
    refine EV.name (LD.local he (by walk_at "lk") (.head _) .head ?_)
    refine EV.name (LD.cell he (by walk_at "lk") (by walk_at "lk") (.tail _ (.tail _ (.tail _ hg))) ?_)
    refine CMP.notInList (LstAt.mem (.tail _ (.tail _ (.tail _ hi)))) (TRU.bool ?_)
    cases hb : !(ins.any (· == d))
    · rw [if_neg Bool.false_ne_true]
      refine ih (i + 1) out [("there", .str d)] e2 (by omega) (.inr ⟨_, rfl⟩) (fun x => ?_)
      have := h x
      rw [List.filter_cons, hb] at this
      exact this
    · rw [if_pos rfl]
      refine EV.name (LD.local he (by walk_at "lk") (.head _) .head ?_)
      refine CALL.append (.tail (.tail .head)) (by rw [List.length_map, sizeLine_eq]; omega) ?_
      rw [show (out.map V.str ++ [V.str d]) = (out ++ [d]).map V.str by simp]
      refine ih (i + 1) (out ++ [d]) [("there", .str d)] e2 (by simp; omega) (.inr ⟨_, rfl⟩) (fun x => ?_)
      have := h x
      rw [List.filter_cons, hb] at this
      rw [List.append_assoc]
      exact this

theorem comp_b (B : Base C) (hr : Room (n + 1) A) {it wd cg cl ln ba : Addr} {g : Str} {ls : List (Str × Int)} {lp : Nat} {len : Int} (he : EnvOk env L [(".0", .local), ("there", .local), ("gate", .cell), ("lengths", .cell)] [("lengths", cl), ("gate", cg)]) {all : List Str} {Q : Led → Prop} (hlen : getG ls g = some len) : ∀ (r : List Str) (i : Nat) (p : List (Str × (Int × Int))) (e : List (Str × V)) (ep : Nat) (x : List (Str × V)) (N : Led), (ba, Cell.list (all.map .str)) ∈ N → (cg, Cell.cell (some (.str g))) ∈ N → (cl, Cell.cell (some (.ref ln))) ∈ N → (ln, Cell.dictS (mapG .int ls) lp) ∈ N → all.drop i = r → p.length + r.length ≤ 100 → PIn N e p → one "there" x →
    (∀ x e ep T, PIn (T ++ N) e (bldG (1, len) r p) → Q ((L, .ns x) :: (wd, .dictS e ep) :: (T ++ N))) →
    CLOOP C A env bldE (.ref it) (.ref wd) Q ((L, .ns x) :: (it, .flds "list_iterator" [.ref ba, .int i 0]) :: (wd, .dictS e ep) :: N) := by
  intro r
  induction r with
  | nil =>
    intro i p e ep x N hl hg hc hn ed hz hw hx h
    exact CLOOP.dict1 (NXT.listEnd hr (LstAt.mem (.tail _ (.tail _ (.tail _ hl)))) (map_none (drop_end ed)) (.tail .head) (h x e ep [] hw))
  | cons d r ih =>
    intro i p e ep x N hl hg hc hn ed hz hw hx h
    rw [List.length_cons] at hz
    obtain ⟨e1, e2⟩ := drop_hit ed
    refine CLOOP.dict1 (NXT.list (LstAt.mem (.tail _ (.tail _ (.tail _ hl)))) (map_some e1) (.tail .head) (BND.name ?_))
    refine STO.local he (by walk_at "lk") (hx.put (.str d)) .head ?_
    refine EV.name (LD.local he (by walk_at "lk") (.head _) .head ?_)
    refine EV.tuple (by decide) (EVS.cons (EV.cint (EVS.cons (EV.sub ?_))))
    refine EV.name (LD.cell he (by walk_at "lk") (by walk_at "lk") (.tail _ (.tail _ (.tail _ hc))) ?_)
    refine EV.name (LD.cell he (by walk_at "lk") (by walk_at "lk") (.tail _ (.tail _ (.tail _ hg))) ?_)
    refine SUB.dict (dkS C) (k := g) (.tail _ (.tail _ (.tail _ hn))) (GIT.dict (dkS C) (x := .int len) (.tail _ (.tail _ (.tail _ hn))) ?_ ?_) (fun _ => nofun)
    · rw [getK_mapG, hlen]; rfl
    refine EVS.nil ⟨rfl, fun tt => ?_⟩
    refine DSET.mk (dkS C) (kvs := e) (k := d) (x := .ref tt) (ep := ep) (fun ep' => .tail (.tail (.tail .head))) (by rw [hw.len, sizeLine_eq]; omega) (fun ep' => ?_)
    have := ih (i + 1) (putG p d (1, len)) (putK e d (.ref tt)) ep' [("there", .str d)] ((tt, .tup [.int 1, .int len]) :: N) (.tail _ hl) (.tail _ hg) (.tail _ hc) (.tail _ hn) e2 (by have := putG_len p d ((1 : Int), len); omega) ((hw.mono fun q hq => .tail _ hq).put (.head _)) (.inr ⟨_, rfl⟩) (fun x e ep T hT => by
      have := h x e ep (T ++ [(tt, .tup [.int 1, .int len])]) (by rw [List.append_assoc]; exact hT)
      rw [List.append_assoc] at this
      exact this)
    exact CLOOP.re this (List.Sublist.refl _) (List.Perm.trans (.cons _ (.cons _ (.swap _ _ _))) (List.Perm.trans (.cons _ (.swap _ _ _)) (.swap _ _ _)))
end

end
section

section
variable {C : Cx} {A : Around} {env : Env} {N N' N1 N2 M P P' X : Led} {K : Frag} {n : Nat} {x : Str} {L fa : Addr}

theorem addGen_ad2 (acc src : List (Str × (Int × Int))) : addP acc src = addGen ad2 acc src := by
  unfold addP addGen
  congr 1
  funext acc p
  cases getG acc p.1 <;> rfl
theorem filter_le {α : Type} (p : α → Bool) (l : List α) : (l.filter p).length ≤ l.length := List.length_filter_le p l
theorem farW_len (fd : List Str) (g h : Str) : (farW fd g h).length ≤ fd.length := by
  unfold farW
  split
  · exact filter_le _ _
  · exact filter_le _ _
noncomputable abbrev fns (fa : Addr) (top : Str) (wd : Addr) (x : List (Str × V)) : List (Str × V) := ("found", .ref fa) :: ("top", .str top) :: ("ways", .ref wd) :: x
noncomputable abbrev hbx (x : List (Str × V)) : Prop := x = ([] : List (Str × V)) ∨ ∃ h b, x = ([("here", h), ("beyond", b)] : List (Str × V))
theorem led3 {a b c : Addr × Cell} {P N : Led} : (a :: b :: c :: (P ++ N)).Perm (P ++ (a :: b :: c :: N)) := (List.perm_append_comm_assoc P [a, b, c] N).symm
theorem PIn.monoT {M M' : Led} {e p} (x : PIn M e p) (h : ∀ t xs, (t, Cell.tup xs) ∈ M → (t, Cell.tup xs) ∈ M') : PIn M' e p := by
  induction x with
  | nil => exact .nil
  | cons m _ ih => exact .cons (h _ _ m) ih

noncomputable def loopK (C : Cx) (A : Around) (env : Env) (f : Stmt) (it : Addr) (Q : Fl → Led → Prop) (fl : Fl) (N3 : Led) : Prop := match fl with
  | .next => LOOP C A env (forT f) (forB f) [] (.ref it) Q N3
  | .cont => LOOP C A env (forT f) (forB f) [] (.ref it) Q N3
  | .brk => Q .next N3
  | .ret v => Q (.ret v) N3
theorem loop_h (B : Base C) (ht : tAdd ∈ C.tabs) (hb : C.h₀.BuiltinsAt C.mg 157) (hr : Room (n + 3) A) {c1 c2 c3 it wd ln oa ia : Addr} {top g : Str} {fd : List Str} {ls : List (Str × Int)} {lp : Nat} {len : Int}
    (he : EnvOk env L nmY [("inner", c3), ("gate", c2), ("lengths", c1)]) (hlen : getG ls g = some len) (hfd : fd.length ≤ 50) {Q : Fl → Led → Prop} {wf : List (Str × List (Str × (Int × Int)))} :
    ∀ (r : List Str) (i : Nat) (w : List (Str × List (Str × (Int × Int)))) (e : List (Str × V)) (ep : Nat) (x : List (Str × V)) (N : Led), (fa, Cell.list (fd.map .str)) ∈ N → (c1, Cell.cell (some (.ref ln))) ∈ N → (c2, Cell.cell (some (.str g))) ∈ N → (c3, Cell.cell (some (.ref ia))) ∈ N → (ln, Cell.dictS (mapG .int ls) lp) ∈ N →
    (ia, Cell.list ((innW fd g).map .str)) ∈ N → (oa, Cell.list ((outW fd g).map .str)) ∈ N → fd.drop i = r → w.length ≤ 50 → WIn N e w → hbx x → wHeres ad2 (1, len) fd g r w = some wf →
    (∀ x e ep T, hbx x → wf.length = w.length → WIn (T ++ N) e wf → Q .next ((L, .ns (fns fa top wd (("outer", .ref oa) :: x))) :: (wd, .dictS e ep) :: (T ++ N))) →
    LOOP C A env (forT hFor) (forB hFor) [] (.ref it) Q ((L, .ns (fns fa top wd (("outer", .ref oa) :: x))) :: (it, .flds "list_iterator" [.ref fa, .int i 0]) :: (wd, .dictS e ep) :: N) := by
  intro r
  induction r with
  | nil =>
    intro i w e ep x N hl h1 h2 h3 hn hi ho ed hz hw hx hwf h
    cases hwf
    exact LOOP.step (NXT.listEnd hr (LstAt.mem (.tail _ (.tail _ (.tail _ hl)))) (map_none (drop_end ed)) (.tail .head) (h x e ep [] hx rfl hw))
  | cons d r ih =>
    intro i w e ep x N hl h1 h2 h3 hn hi ho ed hz hw hx hwf h
    obtain ⟨e1, e2⟩ := drop_hit ed
    unfold wHeres at hwf
    cases hg : getG w d with
    | none => rw [hg] at hwf; cases hwf
    | some p =>
    rw [hg] at hwf
    dsimp only at hwf
    by_cases hp50 : p.length ≤ 50
    rotate_left
    · rw [if_neg hp50] at hwf; cases hwf
    rw [if_pos hp50] at hwf
    obtain ⟨da, de, dep, hk, hd, hpd⟩ := hw.some hg
    have hp1 : ∃ b0, Put (fns fa top wd (("outer", .ref oa) :: x)) "here" (.str d) (fns fa top wd (("outer", .ref oa) :: ("here", .str d) :: b0)) ∧ one "beyond" b0 := by
      rcases hx with rfl | ⟨v0, b, rfl⟩
      · exact ⟨[], .tail (by decide) (.tail (by decide) (.tail (by decide) (.tail (by decide) .nil))), .inl rfl⟩
      · exact ⟨_, .tail (by decide) (.tail (by decide) (.tail (by decide) (.tail (by decide) .head))), .inr ⟨_, rfl⟩⟩
    obtain ⟨b0, hput, hb0⟩ := hp1
    refine LOOP.step (NXT.list (LstAt.mem (.tail _ (.tail _ (.tail _ hl)))) (map_some e1) (.tail .head) (BND.name ?_))
    refine STO.local he (by walk_at "lk") hput .head ?_
    have body : ∀ (ba : Addr), (ba, Cell.list ((farW fd g d).map .str)) ∈ N → STO C A env "beyond" (.ref ba) (fun N2 => ST C A env ((forB hFor).drop 1) (loopK C A env hFor it Q) N2) ((L, .ns (fns fa top wd (("outer", .ref oa) :: ("here", .str d) :: b0))) :: (it, .flds "list_iterator" [.ref fa, .int (i + 1 : Nat) 0]) :: (wd, .dictS e ep) :: N) := by
      intro ba hba
      refine STO.local he (by walk_at "lk") (m' := fns fa top wd (("outer", .ref oa) :: ("here", .str d) :: [("beyond", .ref ba)])) (.tail (by decide) (.tail (by decide) (.tail (by decide) (.tail (by decide) (.tail (by decide) (hb0.put _)))))) .head ?_
      refine ST.cons (SX.assignSub (EV.permQ (EV.call (EV.name (LD.glob he (by walk_at "lk") B.g_add_callers (EVS.cons (EV.sub ?_)))))))
      refine EV.name (LD.local he (by walk_at "lk") (.head _) (by walk_at "lk") ?_)
      refine EV.name (LD.local he (by walk_at "lk") (.head _) (by walk_at "lk") ?_)
      refine SUB.dict (dkS C) (k := d) (.tail _ (.tail _ (.head _))) (GIT.dict (dkS C) (.tail _ (.tail _ (.head _))) hk ?_) (fun _ => nofun)
      refine EVS.cons ?_
      refine EV.dictcomp (dkS C) (names := [(".0", .local), ("there", .local), ("gate", .free), ("lengths", .free)]) (cl := [("lengths", c1), ("gate", c2)]) he rfl rfl ?_
      refine EV.name (LD.local he (by walk_at "lk") (.head _) (by walk_at "lk") ?_)
      refine ITR.list (LstAt.mem (.tail _ (.tail _ (.tail _ hba)))) (fun it2 => fun nd ep2 L' cenv he' => ⟨SELF.list (.tail _ (.tail _ (.head _))), ?_⟩)
      refine CLOOP.re (N1 := (L', .ns []) :: (it2, .flds "list_iterator" [.ref ba, .int (0 : Nat) 0]) :: (nd, .dictS [] ep2) :: (L, .ns (fns fa top wd (("outer", .ref oa) :: ("here", .str d) :: [("beyond", .ref ba)]))) :: (it, .flds "list_iterator" [.ref fa, .int (i + 1 : Nat) 0]) :: (wd, .dictS e ep) :: N) ?_ (List.Sublist.refl _) (.cons _ (.swap _ _ _))
      have hfl := farW_len fd g d
      refine comp_b (ls := ls) (lp := lp) (ln := ln) (len := len) (g := g) B hr he' hlen (farW fd g d) 0 [] [] ep2 [] _ (.tail _ (.tail _ (.tail _ hba))) (.tail _ (.tail _ (.tail _ h2))) (.tail _ (.tail _ (.tail _ h1))) (.tail _ (.tail _ (.tail _ hn))) rfl (by rw [List.length_nil]; omega) .nil (.inl rfl) (fun x2 e3 ep3 T hT => ⟨_, _, .head, ?_⟩)
      have mono1 : ∀ q ∈ N, q ∈ (nd, Cell.dictS e3 ep3) :: (T ++ ((L, Cell.ns (fns fa top wd (("outer", .ref oa) :: ("here", .str d) :: [("beyond", .ref ba)]))) :: (it, .flds "list_iterator" [.ref fa, .int (i + 1 : Nat) 0]) :: (wd, .dictS e ep) :: N)) := fun q hq => .tail _ (List.mem_append_right _ (.tail _ (.tail _ (.tail _ hq))))
      have hbl := bldG_len ((1 : Int), len) (farW fd g d) []
      refine EVS.nil ⟨KEEP.fn B.f162, CALL.fn (f162p B ht hb hr (mono1 _ hd) (hpd.mono mono1) (.head _) (hT.mono fun q hq => .tail _ hq) (by rw [List.length_nil] at hbl; omega) (fun rd rep re T2 hT2 => ?_))⟩
      refine ⟨_, (L, Cell.ns (fns fa top wd (("outer", .ref oa) :: ("here", .str d) :: [("beyond", .ref ba)]))) :: (it, .flds "list_iterator" [.ref fa, .int (i + 1 : Nat) 0]) :: (wd, .dictS e ep) :: (((rd, Cell.dictS re rep) :: (T2 ++ ((nd, Cell.dictS e3 ep3) :: T))) ++ N), List.Sublist.refl _, ?_, ?_⟩
      · refine List.Perm.trans (led3 (P := (rd, Cell.dictS re rep) :: (T2 ++ ((nd, Cell.dictS e3 ep3) :: T)))) (List.Perm.of_eq ?_)
        simp only [List.cons_append, List.append_assoc]
      refine EV.name (LD.local he (by walk_at "lk") (.head _) (by walk_at "lk") ?_)
      refine EV.name (LD.local he (by walk_at "lk") (.head _) (by walk_at "lk") ?_)
      refine SIT.dict (dkS C) (kvs := e) (k := d) (x := .ref rd) (ep := ep) (fun ep' => .tail (.tail .head)) (by rw [hw.len, sizeLine_eq]; omega) (fun ep' => ST.nil ?_)
      have mono2 : ∀ q ∈ N, q ∈ ((rd, Cell.dictS re rep) :: (T2 ++ ((nd, Cell.dictS e3 ep3) :: T))) ++ N := fun q hq => List.mem_append_right _ hq
      have hnew : WIn (((rd, Cell.dictS re rep) :: (T2 ++ ((nd, Cell.dictS e3 ep3) :: T))) ++ N) (putK e d (.ref rd)) (putG w d (addGen ad2 (cpyG p) (bldG (1, len) (farW fd g d) []))) := by
        refine WIn.put (hw.mono mono2) (.head _) ?_
        rw [← addGen_ad2]
        refine hT2.monoT fun t xs hq => ?_
        simp only [List.mem_append, List.mem_cons, Prod.mk.injEq, reduceCtorEq, and_false, false_or] at hq ⊢
        rcases hq with hq | hq | hq <;> simp [hq]
      refine ih (i + 1) _ (putK e d (.ref rd)) ep' _ _ (mono2 _ hl) (mono2 _ h1) (mono2 _ h2) (mono2 _ h3) (mono2 _ hn) (mono2 _ hi) (mono2 _ ho) e2 (by rw [putG_same hg]; exact hz) hnew (.inr ⟨_, _, rfl⟩) hwf (fun x e ep T3 hx hl hT => ?_)
      have := h x e ep (T3 ++ ((rd, Cell.dictS re rep) :: (T2 ++ ((nd, Cell.dictS e3 ep3) :: T)))) hx (by rw [hl, putG_same hg]) (by rw [List.append_assoc]; exact hT)
      rw [List.append_assoc] at this
      exact this
    refine ST.cons (SX.assign (EV.ifexp (IST.cmp ?_)))
    refine EV.name (LD.local he (by walk_at "lk") (.head _) (by walk_at "lk") ?_)
    refine EV.name (LD.cell he (by walk_at "lk") (by walk_at "lk") (.tail _ (.tail _ (.tail _ h3))) ?_)
    refine CMP.inList (LstAt.mem (.tail _ (.tail _ (.tail _ hi)))) (TRU.bool ?_)
    cases hb : (innW fd g).any (· == d)
    · rw [if_neg Bool.false_ne_true]
      refine EV.name (LD.cell he (by walk_at "lk") (by walk_at "lk") (.tail _ (.tail _ (.tail _ h3))) ?_)
      exact body ia (by unfold farW; rw [hb]; exact hi)
    · rw [if_pos rfl]
      refine EV.name (LD.local he (by walk_at "lk") (.head _) (by walk_at "lk") ?_)
      exact body oa (by unfold farW; rw [hb]; exact ho)
end

end
section

section
variable {C : Cx} {A : Around} {env : Env} {N N' N1 N2 M P P' X : Led} {K : Frag} {n : Nat} {x : Str} {L fa : Addr}

noncomputable abbrev owx (x : List (Str × V)) : Prop := x = ([] : List (Str × V)) ∨ ∃ (o : V) (r : List (Str × V)), x = ((("outer" : Str), o) :: r) ∧ hbx r
theorem led4 {a b c : Addr × Cell} {P N : Led} : (P ++ (a :: b :: c :: N)).Perm (a :: b :: c :: (P ++ N)) := List.perm_append_comm_assoc P [a, b, c] N
theorem WIn.monoT {M M' : Led} {e w} (x : WIn M e w) (h : ∀ t xs, (t, Cell.tup xs) ∈ M → (t, Cell.tup xs) ∈ M') (h2 : ∀ t kv ep, (t, Cell.dictS kv ep) ∈ M → (t, Cell.dictS kv ep) ∈ M') : WIn M' e w := by
  induction x with
  | nil => exact .nil
  | cons m y _ ih => exact .cons (h2 _ _ _ m) (y.monoT h) ih
theorem wHeres_len {β : Type} (ad : β → β → β) (u : β) (fd : List Str) (g : Str) : ∀ (r : List Str) (w w' : List (Str × List (Str × β))), wHeres ad u fd g r w = some w' → w'.length = w.length
  | [], w, w', h => by cases h; rfl
  | d :: r, w, w', h => by
    unfold wHeres at h
    cases hg : getG w d with
    | none => rw [hg] at h; cases h
    | some p =>
      rw [hg] at h
      dsimp only at h
      split at h
      · rw [wHeres_len ad u fd g r _ _ h, putG_same hg]
      · cases h

theorem loop_g (B : Base C) (hp : PySem.Flt.IsPattern C.h₀ 36 patR) (ht : tAdd ∈ C.tabs) (hb : C.h₀.BuiltinsAt C.mg 157) (hr : Room (n + 3) A) {c1 c2 c3 it wd ln : Addr} {top : Str} {fd : List Str} {ls : List (Str × Int)} {lp : Nat}
    (he : EnvOk env L nmY [("inner", c3), ("gate", c2), ("lengths", c1)]) (hfd : fd.length ≤ 50) (hwc : ∀ t ∈ fd, ∀ g ∈ fd, WC t g) {Q : Fl → Led → Prop} {wf : List (Str × List (Str × (Int × Int)))} :
    ∀ (r : List Str) (i : Nat) (w : List (Str × List (Str × (Int × Int)))) (e : List (Str × V)) (ep : Nat) (x : List (Str × V)) (v2 v3 : Option V) (N : Led), (fa, Cell.list (fd.map .str)) ∈ N → (c1, Cell.cell (some (.ref ln))) ∈ N → (ln, Cell.dictS (mapG .int ls) lp) ∈ N →
    fd.drop i = r → w.length ≤ 50 → WIn N e w → owx x → wGates ad2 (fun g => (getG ls g).map fun l => ((1 : Int), l)) fd top r w = some wf →
    (∀ x e ep T v2 v3, WIn (T ++ N) e wf → Q .next ((L, .ns (fns fa top wd x)) :: (c3, .cell v3) :: (c2, .cell v2) :: (wd, .dictS e ep) :: (T ++ N))) →
    LOOP C A env (forT gFor) (forB gFor) [] (.ref it) Q ((L, .ns (fns fa top wd x)) :: (it, .flds "list_iterator" [.ref fa, .int i 0]) :: (c3, .cell v3) :: (c2, .cell v2) :: (wd, .dictS e ep) :: N) := by
  intro r
  induction r with
  | nil =>
    intro i w e ep x v2 v3 N hl h1 hn ed hz hw hx hwf h
    cases hwf
    exact LOOP.step (NXT.listEnd hr (LstAt.mem (.tail _ (.tail _ (.tail _ (.tail _ (.tail _ hl)))))) (map_none (drop_end ed)) (.tail .head) (h x e ep [] _ _ hw))
  | cons g r ih =>
    intro i w e ep x v2 v3 N hl h1 hn ed hz hw hx hwf h
    obtain ⟨e1, e2⟩ := drop_hit ed
    unfold wGates at hwf
    refine LOOP.step (NXT.list (LstAt.mem (.tail _ (.tail _ (.tail _ (.tail _ (.tail _ hl)))))) (map_some e1) (.tail .head) (BND.name ?_))
    refine STO.cell he (by walk_at "lk") (by walk_at "lk") (.tail (.tail (.tail .head))) ?_
    refine ST.cons (SX.ifs (IST.cmp ?_))
    refine EV.name (LD.cell he (by walk_at "lk") (by walk_at "lk") (.tail _ (.tail _ (.tail _ (.head _)))) ?_)
    refine EV.name (LD.local he (by walk_at "lk") (.head _) (by walk_at "lk") (CMP.eqs (TRU.bool ?_)))
    cases hgt : (g.cps.toList == top.cps.toList)
    rotate_left
    · rw [hgt, if_pos rfl] at hwf
      rw [if_pos rfl]
      exact ST.cons (SX.cont (ih (i + 1) w e ep x (some (.str g)) v3 N hl h1 hn e2 hz hw hx hwf h))
    rw [hgt, if_neg Bool.false_ne_true] at hwf
    rw [if_neg Bool.false_ne_true]
    cases hlen : getG ls g with
    | none => rw [hlen] at hwf; cases hwf
    | some len =>
    rw [hlen] at hwf
    dsimp only [Option.map] at hwf
    cases hwh : wHeres ad2 ((1 : Int), len) fd g fd w with
    | none => rw [hwh] at hwf; cases hwf
    | some w' =>
    rw [hwh] at hwf
    dsimp only at hwf
    refine ST.nil (ST.cons ?_)
    refine SX.assign (hs := swaps_cell he rfl) (EV.listcomp (names := [(".0", .local), ("there", .local), ("domain_match", .globalImplicit), ("gate", .free)]) (cl := [("gate", c2)]) he rfl rfl ?_)
    refine EV.name (LD.local he (by walk_at "lk") (.head _) (by walk_at "lk") ?_)
    refine ITR.list (LstAt.mem (.tail _ (.tail _ (.tail _ (.tail _ (.tail _ hl)))))) (fun it2 => fun ia L' cenv he' => ⟨SELF.list (.tail _ (.tail _ (.head _))), ?_⟩)
    refine CLOOP.re (N1 := (L', .ns []) :: (it2, .flds "list_iterator" [.ref fa, .int (0 : Nat) 0]) :: (ia, .list (([] : List Str).map .str)) :: (L, .ns (fns fa top wd x)) :: (it, .flds "list_iterator" [.ref fa, .int (i + 1 : Nat) 0]) :: (c3, .cell v3) :: (c2, .cell (some (.str g))) :: (wd, .dictS e ep) :: N) ?_ (List.Sublist.refl _) (.cons _ (.swap _ _ _))
    refine comp_in (n := n) (g := g) B hp (hr.mono (by omega)) he' (.tail _ (.tail _ (.tail _ (.tail _ (.tail _ hl))))) (.tail _ (.tail _ (.tail _ (.head _)))) (fun t htm => hwc t htm g (List.mem_of_getElem? e1)) fd 0 [] [] rfl (by rw [List.length_nil]; omega) (.inl rfl) (fun x2 => ⟨_, _, .head, ?_⟩)
    rw [List.nil_append]
    refine STO.cell he (by walk_at "lk") (by walk_at "lk") (.tail (.tail (.tail .head))) (ST.cons ?_)
    refine SX.assignList (names := [(".0", .local), ("there", .local), ("inner", .free)]) (cl := [("inner", c3)]) he rfl rfl ?_ (swaps_loc he rfl rfl rfl)
    refine EV.name (LD.local he (by walk_at "lk") (.tail _ (.head _)) (by walk_at "lk") ?_)
    refine ITR.list (LstAt.mem (.tail _ (.tail _ (.tail _ (.tail _ (.tail _ (.tail _ hl))))))) (fun it3 => fun oa L2 cenv2 he2 => ⟨SELF.list (.tail _ (.tail _ (.head _))), ?_⟩)
    refine CLOOP.re (N1 := (L2, .ns []) :: (it3, .flds "list_iterator" [.ref fa, .int (0 : Nat) 0]) :: (oa, .list (([] : List Str).map .str)) :: (ia, .list ((innW fd g).map .str)) :: (L, .ns (fns fa top wd x)) :: (it, .flds "list_iterator" [.ref fa, .int (i + 1 : Nat) 0]) :: (c3, .cell (some (.ref ia))) :: (c2, .cell (some (.str g))) :: (wd, .dictS e ep) :: N) ?_ (List.Sublist.refl _) (.cons _ (.swap _ _ _))
    have hox : ∃ r0, Put (fns fa top wd x) "outer" (.ref oa) (fns fa top wd (("outer", .ref oa) :: r0)) ∧ hbx r0 := by
      rcases hx with rfl | ⟨v0, b, rfl, hb0⟩
      · exact ⟨[], .tail (by decide) (.tail (by decide) (.tail (by decide) .nil)), .inl rfl⟩
      · exact ⟨_, .tail (by decide) (.tail (by decide) (.tail (by decide) .head)), hb0⟩
    obtain ⟨r0, hput, hr0⟩ := hox
    refine comp_out (n := n) (ins := innW fd g) (li := ia) B (hr.mono (by omega)) he2 (.tail _ (.tail _ (.tail _ (.tail _ (.tail _ (.tail _ hl)))))) (.tail _ (.tail _ (.tail _ (.head _)))) (.head _) fd 0 [] [] rfl (by rw [List.length_nil]; omega) (.inl rfl) (fun x3 => ?_)
    rw [List.nil_append]
    refine STO.local he (by walk_at "lk") hput (.tail (.tail (.tail .head))) ⟨_, _, .head, ST.cons (SX.for_ ?_)⟩
    refine EV.name (LD.local he (by walk_at "lk") (.tail _ (.tail _ (.head _))) (by walk_at "lk") ?_)
    refine ITR.list (LstAt.mem (.tail _ (.tail _ (.tail _ (.tail _ (.tail _ (.tail _ (.tail _ hl)))))))) (fun hit => ?_)
    refine LOOP.re (N1 := (L, .ns (fns fa top wd (("outer", .ref oa) :: r0))) :: (hit, .flds "list_iterator" [.ref fa, .int (0 : Nat) 0]) :: (wd, .dictS e ep) :: ((oa, .list ((outW fd g).map .str)) :: (ia, .list ((innW fd g).map .str)) :: (it, .flds "list_iterator" [.ref fa, .int (i + 1 : Nat) 0]) :: (c3, .cell (some (.ref ia))) :: (c2, .cell (some (.str g))) :: N)) ?_ (List.Sublist.refl _) ?_
    rotate_left
    · exact List.Perm.trans (.cons _ (.cons _ (List.perm_middle (l₁ := [_, _, _, _, _]) (l₂ := N)).symm)) (List.perm_middle (l₁ := [_, _, _]) (l₂ := _ :: _ :: _ :: _ :: N)).symm
    refine loop_h (ls := ls) (lp := lp) (len := len) (g := g) (ln := ln) (ia := ia) (oa := oa) B ht hb hr he hlen hfd fd 0 w e ep r0 _ (.tail _ (.tail _ (.tail _ (.tail _ (.tail _ hl))))) (.tail _ (.tail _ (.tail _ (.tail _ (.tail _ h1))))) (.tail _ (.tail _ (.tail _ (.tail _ (.head _))))) (.tail _ (.tail _ (.tail _ (.head _)))) (.tail _ (.tail _ (.tail _ (.tail _ (.tail _ hn))))) (.tail _ (.head _)) (.head _) rfl hz (hw.mono fun q hq => .tail _ (.tail _ (.tail _ (.tail _ (.tail _ hq))))) hr0 hwh (fun x4 e4 ep4 T hx4 hl4 hT => ST.nil ?_)
    refine LOOP.re (N1 := (L, .ns (fns fa top wd (("outer", .ref oa) :: x4))) :: (it, .flds "list_iterator" [.ref fa, .int (i + 1 : Nat) 0]) :: (c3, .cell (some (.ref ia))) :: (c2, .cell (some (.str g))) :: (wd, .dictS e4 ep4) :: (T ++ ((oa, .list ((outW fd g).map .str)) :: (ia, .list ((innW fd g).map .str)) :: N))) ?_ (List.Sublist.refl _) (.cons _ ?_)
    rotate_left
    · have hh := led3 (a := (it, Cell.flds "list_iterator" [.ref fa, .int (i + 1 : Nat) 0])) (b := (c3, Cell.cell (some (.ref ia)))) (c := (c2, Cell.cell (some (.str g)))) (P := (wd, Cell.dictS e4 ep4) :: (T ++ [(oa, .list ((outW fd g).map .str)), (ia, .list ((innW fd g).map .str))])) (N := N)
      simp only [List.cons_append, List.append_assoc, List.nil_append] at hh
      exact hh
    have mono : ∀ q ∈ N, q ∈ T ++ ((oa, Cell.list ((outW fd g).map .str)) :: (ia, .list ((innW fd g).map .str)) :: N) := fun q hq => List.mem_append_right _ (.tail _ (.tail _ hq))
    refine ih (i + 1) w' e4 ep4 _ _ _ _ (mono _ hl) (mono _ h1) (mono _ hn) e2 (by rw [wHeres_len _ _ _ _ _ _ _ hwh]; exact hz) ?_ (.inr ⟨_, _, rfl, hx4⟩) hwf (fun x5 e5 ep5 T5 v2' v3' hT5 => ?_)
    · refine hT.monoT (fun t xs hq => ?_) (fun t kv kp hq => ?_)
      · simp only [List.mem_append, List.mem_cons, Prod.mk.injEq, reduceCtorEq, and_false, false_or] at hq ⊢
        exact hq
      · simp only [List.mem_append, List.mem_cons, Prod.mk.injEq, reduceCtorEq, and_false, false_or] at hq ⊢
        exact hq
    · have := h x5 e5 ep5 (T5 ++ (T ++ [(oa, .list ((outW fd g).map .str)), (ia, .list ((innW fd g).map .str))])) v2' v3' (by simpa only [List.cons_append, List.append_assoc, List.nil_append] using hT5)
      simpa only [List.cons_append, List.append_assoc, List.nil_append] using this

theorem f207 (B : Base C) (hp : PySem.Flt.IsPattern C.h₀ 36 patR) (ht : tAdd ∈ C.tabs) (hb : C.h₀.BuiltinsAt C.mg 157) (hr : Room (n + 4) A) {ln : Addr} {top : Str} {fd : List Str} {ls : List (Str × Int)} {lp : Nat}
    (hfd : fd.length ≤ 50) (hwc : ∀ t ∈ fd, ∀ g ∈ fd, WC t g) {wf : List (Str × List (Str × (Int × Int)))} (hl : (fa, Cell.list (fd.map .str)) ∈ N) (hn : (ln, Cell.dictS (mapG .int ls) lp) ∈ N)
    (hwf : wGates ad2 (fun g => (getG ls g).map fun l => ((1 : Int), l)) fd top fd (w0 fd []) = some wf) {Q : V → Led → Prop} (h : ∀ wd e ep T, WIn (T ++ N) e wf → Q (.ref wd) ((wd, .dictS e ep) :: (T ++ N))) : FN C A 207 [.ref fa, .str top, .ref ln] Q N := by
  refine FN.enterC (fd := fd207) (ps := ["found", "top", "lengths"]) (nm := nmY) (n := n + 3) hr (fun R s hs => B.f207.at_ hs) rfl rfl (hb3 fun v w u => rfl) (fun L c1 c2 c3 env he _ _ => ?_)
  replace he : EnvOk env L nmY [("inner", c3), ("gate", c2), ("lengths", c1)] := he
  show STO _ _ _ _ _ _ _
  refine STO.local he (by walk_at "lk") (m' := [("found", .ref fa)]) .nil (.tail (.tail (.tail .head))) ?_
  refine STO.local he (by walk_at "lk") (m' := [("found", .ref fa), ("top", .str top)]) (.tail (by decide) .nil) (.tail (.tail (.tail .head))) ?_
  refine STO.cell he (by walk_at "lk") (by walk_at "lk") (.tail (.tail .head)) ?_
  intro hr
  refine ST.cons ?_
  refine SX.assignDict (dkS C) (names := [(".0", .local), ("here", .local)]) (cl := []) he rfl rfl ?_ (swaps_locD he rfl rfl rfl)
  refine EV.name (LD.local he (by walk_at "lk") (.tail _ (.tail _ (.tail _ (.head _)))) (by walk_at "lk") ?_)
  refine ITR.list (LstAt.mem (.tail _ (.tail _ (.tail _ (.tail _ hl))))) (fun it => fun wd ep L' cenv he' => ⟨SELF.list (.tail _ (.tail _ (.head _))), ?_⟩)
  refine CLOOP.re (N1 := (L', .ns []) :: (it, .flds "list_iterator" [.ref fa, .int (0 : Nat) 0]) :: (wd, .dictS [] ep) :: (c3, .cell none) :: (c2, .cell none) :: (c1, .cell (some (.ref ln))) :: (L, .ns [("found", .ref fa), ("top", .str top)]) :: N) ?_ (List.Sublist.refl _) (.cons _ (.swap _ _ _))
  refine comp_w0 (n := n + 2) (all := fd) B hr he' fd 0 [] [] ep [] _ (.tail _ (.tail _ (.tail _ (.tail _ hl)))) rfl (by rw [List.length_nil]; omega) .nil (.inl rfl) (fun x e ep1 T hT => ?_)
  refine STO.local he (by walk_at "lk") (m' := fns fa top wd []) (.tail (by decide) (.tail (by decide) .nil)) (N' := (L', .ns x) :: (wd, .dictS e ep1) :: (T ++ ((c3, .cell none) :: (c2, .cell none) :: (c1, .cell (some (.ref ln))) :: (L, .ns (fns fa top wd [])) :: N))) (.tail (.tail (Upd.pre (.tail (.tail (.tail .head))) _))) ⟨_, _, .head, ?_⟩
  refine ST.cons (SX.for_ ?_)
  refine EV.name (LD.local he (by walk_at "lk") (.tail _ (List.mem_append_right _ (.tail _ (.tail _ (.tail _ (.head _)))))) (by walk_at "lk") ?_)
  refine ITR.list (LstAt.mem (.tail _ (List.mem_append_right _ (.tail _ (.tail _ (.tail _ (.tail _ hl))))))) (fun git => ?_)
  refine LOOP.re (N1 := (L, .ns (fns fa top wd [])) :: (git, .flds "list_iterator" [.ref fa, .int (0 : Nat) 0]) :: (c3, .cell none) :: (c2, .cell none) :: (wd, .dictS e ep1) :: (T ++ ((c1, .cell (some (.ref ln))) :: N))) ?_ (List.Sublist.refl _) ?_
  rotate_left
  · refine List.Perm.trans (.swap _ _ _) (.cons _ ?_)
    exact List.Perm.trans (led3 (P := (wd, Cell.dictS e ep1) :: T) (N := (c1, Cell.cell (some (.ref ln))) :: N)) (List.Perm.append_left ((wd, Cell.dictS e ep1) :: T) (List.perm_middle (l₁ := [_, _, _]) (l₂ := N)).symm)
  have hw0 := w0_len (β := Int × Int) fd []
  refine loop_g (ls := ls) (lp := lp) (ln := ln) (fd := fd) (n := n) B hp ht hb hr he hfd hwc fd 0 (w0 fd []) e ep1 [] none none _ (List.mem_append_right _ (.tail _ hl)) (List.mem_append_right _ (.head _)) (List.mem_append_right _ (.tail _ hn)) rfl (by rw [List.length_nil] at hw0; omega) ?_ (.inl rfl) hwf (fun x e ep T2 v2 v3 hT2 => ?_)
  · refine hT.monoT (fun t xs hq => ?_) (fun t kv kp hq => ?_)
    · simp only [List.mem_append, List.mem_cons, Prod.mk.injEq, reduceCtorEq, and_false, false_or] at hq ⊢
      exact hq
    · simp only [List.mem_append, List.mem_cons, Prod.mk.injEq, reduceCtorEq, and_false, false_or] at hq ⊢
      exact hq
  refine ST.cons (SX.ret (EV.name (LD.local he (by walk_at "lk") (.head _) (by walk_at "lk") ?_)))
  refine ⟨(wd, .dictS e ep) :: ((T2 ++ (T ++ [(c1, .cell (some (.ref ln)))])) ++ N), ?_, h wd e ep _ (by simpa only [List.cons_append, List.append_assoc, List.nil_append] using hT2)⟩
  simp only [List.cons_append, List.append_assoc, List.nil_append]
  exact .cons _ (.cons _ (.cons _ (List.Sublist.refl _)))
end

end
section
open Builtin.Int (intBits)
section

noncomputable def putH {β : Type} (kvs : List (Int × β)) (k : Int) (v : β) : List (Int × β) := if kvs.any (fun kv => kv.1 = k) then kvs.map (fun kv => if kv.1 = k then (kv.1, v) else kv) else kvs ++ [(k, v)]
noncomputable def getH {β : Type} (kvs : List (Int × β)) (k : Int) : Option β := (kvs.find? fun kv => kv.1 = k).map (·.2)
noncomputable def mapH {β γ : Type} (g : β → γ) (kvs : List (Int × β)) : List (Int × γ) := kvs.map fun p => (p.1, g p.2)
theorem putK_mapH {β : Type} (g : β → V) (kvs : List (Int × β)) (k : Int) (v : β) : putK (mapH g kvs) k (g v) = mapH g (putH kvs k v) := by
  unfold putK putH mapH
  rw [List.any_map]
  show (if (kvs.any fun kv => decide (kv.1 = k)) = true then _ else _) = _
  split
  · rw [List.map_map, List.map_map]
    congr 1
    funext p
    by_cases h : p.1 = k
    · simp [h]
    · simp [h]
  · simp
theorem getK_mapH {β : Type} (g : β → V) (kvs : List (Int × β)) (k : Int) : getK (mapH g kvs) k = (getH kvs k).map g := by
  unfold getK getH mapH
  induction kvs with
  | nil => rfl
  | cons p r ih =>
    rw [List.map_cons, List.find?_cons, List.find?_cons]
    by_cases h : p.1 = k
    · simp [h]
    · have h1 : decide (p.1 = k) = false := decide_eq_false h
      rw [h1]
      exact ih
theorem putH_len {β : Type} (kvs : List (Int × β)) (k : Int) (v : β) : (putH kvs k v).length ≤ kvs.length + 1 := by
  unfold putH
  split <;> simp
theorem putH_mem {β : Type} {kvs : List (Int × β)} {k : Int} {v : β} {p : Int × β} (h : p ∈ putH kvs k v) : p.2 = v ∨ p ∈ kvs := by
  unfold putH at h
  split at h
  · obtain ⟨q, hq, rfl⟩ := List.mem_map.mp h
    split
    · exact .inl rfl
    · exact .inr hq
  · rcases List.mem_append.mp h with h | h
    · exact .inr h
    · rw [List.mem_singleton] at h
      subst h
      exact .inl rfl
theorem getH_mem {β : Type} {kvs : List (Int × β)} {k : Int} {v : β} (h : getH kvs k = some v) : (k, v) ∈ kvs := by
  unfold getH at h
  cases hf : kvs.find? (fun kv => kv.1 = k) with
  | none => rw [hf] at h; cases h
  | some q =>
    rw [hf] at h
    cases h
    have h1 := List.mem_of_find?_eq_some hf
    have h2 : q.1 = k := by simpa using List.find?_some hf
    rw [← h2]; exact h1
/-- the plain account of _law_determinant -/
noncomputable def dpCols {β : Type} (zero : β) (add mul : β → β → β) (neg : β → β) (row : List β) (used : Int) : Nat → Nat → β → List (Int × β) → Option (List (Int × β))
  | 0, _, _, w => some w
  | r + 1, c, p, w => if Builtin.bitAnd used (2 ^ c) == 0 then match row[c]? with
    | some x => dpCols zero add mul neg row used r (c + 1) (neg p) (putH w (Builtin.bitOr used (2 ^ c)) (add ((getH w (Builtin.bitOr used (2 ^ c))).getD zero) (mul p x)))
    | none => none
    else dpCols zero add mul neg row used r (c + 1) p w
noncomputable def dpUsed {β : Type} (zero : β) (add mul : β → β → β) (neg : β → β) (row : List β) (size : Nat) (m : List (Int × β)) : List (Int × β) → List (Int × β) → Option (List (Int × β))
  | [], w => some w
  | (k, _) :: r, w => match getH m k with
    | some p => match dpCols zero add mul neg row k size 0 p w with
      | some w' => if w'.length ≤ 100 then dpUsed zero add mul neg row size m r w' else none
      | none => none
    | none => none
noncomputable def dpRows {β : Type} (zero : β) (add mul : β → β → β) (neg : β → β) (size : Nat) : List (List β) → List (Int × β) → Option (List (Int × β))
  | [], m => some m
  | row :: r, m => match dpUsed zero add mul neg row size m m [] with
    | some w => dpRows zero add mul neg size r w
    | none => none
noncomputable abbrev dpColsI := dpCols (0 : Int) (· + ·) (· * ·) (- ·)
noncomputable abbrev dpUsedI := dpUsed (0 : Int) (· + ·) (· * ·) (- ·)
noncomputable abbrev dpRowsI := dpRows (0 : Int) (· + ·) (· * ·) (- ·)

noncomputable def BitsH (m : List (Int × Int)) (b : Nat) : Prop := ∀ p ∈ m, intBits p.2 ≤ b
theorem BitsH.mono {m : List (Int × Int)} {b c : Nat} (h : BitsH m b) (hbc : b ≤ c) : BitsH m c := fun p hp => Nat.le_trans (h p hp) hbc
theorem bits0 : intBits 0 ≤ 0 := by decide
theorem BitsH.put {m : List (Int × Int)} {b bp : Nat} (h : BitsH m b) {k k' p x : Int} (hp : intBits p ≤ bp) (hx : intBits x ≤ 200) (hb : bp + 200 ≤ b) : BitsH (putH m k ((getH m k').getD 0 + p * x)) (b + 1) := by
  intro q hq
  rcases putH_mem hq with e | hq
  · rw [e]
    have h1 : intBits ((getH m k').getD 0) ≤ b := by
      cases hg : getH m k' with
      | none => exact Nat.le_trans bits0 (Nat.zero_le _)
      | some v => exact h _ (getH_mem hg)
    have h2 : intBits (p * x) ≤ b := Nat.le_trans (intBits_mul_le hp hx) hb
    have := intBits_add_le h1 h2
    rwa [Nat.max_self] at this
  · exact Nat.le_trans (h q hq) (Nat.le_succ _)

noncomputable abbrev nmD : List (Str × NameKind) := [("table", .local), ("size", .local), ("minors", .local), ("row", .local), ("wider", .local), ("used", .local), ("part", .local), ("column", .local), ("after", .local), ("len", .globalImplicit), ("range", .globalImplicit), ("and_", .globalImplicit), ("or_", .globalImplicit), ("add", .globalImplicit), ("mul", .globalImplicit), ("neg", .globalImplicit)]
noncomputable def rwFor : Stmt := (bodyOf fd214).getD 2 (.Pass default)
noncomputable def usFor : Stmt := (forB rwFor).getD 1 (.Pass default)
noncomputable def coFor : Stmt := (forB usFor).getD 1 (.Pass default)
inductive Chn : List Str → List (Str × V) → Prop
  | nil {ks : List Str} : Chn ks []
  | cons {k : Str} {ks : List Str} {v : V} {x : List (Str × V)} : Chn ks x → Chn (k :: ks) ((k, v) :: x)
theorem Chn.put {k : Str} {ks : List Str} {x : List (Str × V)} (h : Chn (k :: ks) x) (v : V) : ∃ y, Put x k v ((k, v) :: y) ∧ Chn ks y := by
  cases h with
  | nil => exact ⟨[], .nil, .nil⟩
  | cons h => exact ⟨_, .head, h⟩
noncomputable abbrev dns (ta : Addr) (sz : Nat) (md : Addr) (x : List (Str × V)) : List (Str × V) := ("table", .ref ta) :: ("size", .int sz) :: ("minors", .ref md) :: x
noncomputable abbrev rns (ta : Addr) (sz : Nat) (md ra wd : Addr) (x : List (Str × V)) : List (Str × V) := dns ta sz md (("row", .ref ra) :: ("wider", .ref wd) :: x)

variable {C : Cx} {A : Around} {env : Env} {N N' N1 N2 M P P' X : Led} {K : Frag} {n : Nat} {x : Str} {L fa : Addr}

/-- the columns -/
theorem loop_o (B : Base C) (hr : Room (n + 2) A) (he : EnvOk env L nmD []) {ta md ra wd it : Addr} {sz b : Nat} {row : List Int} {u : Int} (hrow : (ra, Cell.list (row.map .int)) ∈ N) (hbr : ∀ v ∈ row, intBits v ≤ 200) (hb : b ≤ 100000) {Q : Fl → Led → Prop} {w' : List (Int × Int)} :
    ∀ (r c : Nat) (p : Int) (w : List (Int × Int)) (ep : Nat) (x : List (Str × V)) (j : Nat), c + r ≤ 50 → w.length + r ≤ 200 → intBits p ≤ b → BitsH w (b + 200 + j) → j + r ≤ 100000 → Chn ["column", "after"] x → dpColsI row u r c p w = some w' →
    (∀ p ep x j', BitsH w' (b + 200 + j') → j' ≤ j + r → Chn ["column", "after"] x → Q .next ((L, .ns (rns ta sz md ra wd (("used", .int u) :: ("part", .int p) :: x))) :: (wd, .dictI (mapH .int w') ep) :: N)) →
    LOOP C A env (forT coFor) (forB coFor) [] (.ref it) Q ((L, .ns (rns ta sz md ra wd (("used", .int u) :: ("part", .int p) :: x))) :: (it, .raw (rit c r)) :: (wd, .dictI (mapH .int w) ep) :: N) := by
  intro r
  induction r with
  | zero =>
    intro c p w ep x j hz hwl hp hw hj hx hd h
    cases hd
    exact LOOP.step (NXT.rangeEnd hr (.tail .head) (h p ep x j hw (Nat.le_refl _) hx))
  | succ r ih =>
    intro c p w ep x j hz hwl hp hw hj hx hd h
    obtain ⟨y, hput, hy⟩ := hx.put (.int c)
    unfold dpColsI dpCols at hd
    refine LOOP.step (NXT.range (k := c) (n := (r + 1 : Nat)) (.tail .head) (by omega) (BND.name ?_))
    refine STO.local he (by walk_at "lk") (m' := rns ta sz md ra wd (("used", .int u) :: ("part", .int p) :: ("column", .int c) :: y)) (.tail (by decide) (.tail (by decide) (.tail (by decide) (.tail (by decide) (.tail (by decide) (.tail (by decide) (.tail (by decide) hput))))))) .head ?_
    have e2 : ((r + 1 : Nat) : Int) - 1 = r := by omega
    have e3 : (c : Int) + 1 = ((c + 1 : Nat) : Int) := by omega
    rw [e2, e3]
    have hpw : (2 : Int) ^ ((c : Int).toNat) = 2 ^ c := by rw [Int.toNat_natCast]
    have hcb : (Builtin.Int.intBits 2 : Int) * (c : Int) ≤ 2 ^ 27 := by
      have : Builtin.Int.intBits 2 = 2 := by decide
      rw [this]; omega
    refine ST.cons (SX.ifs (IST.cmp (EV.call (EV.name (LD.glob he (by walk_at "lk") B.g_and_ (EVS.cons ?_))))))
    refine EV.name (LD.local he (by walk_at "lk") (.head _) (by walk_at "lk") (EVS.cons (EV.bin (EV.cint ?_))))
    refine EV.name (LD.local he (by walk_at "lk") (.head _) (by walk_at "lk") (BIN.pow (by omega) hcb ?_))
    rw [hpw]
    refine EVS.nil ⟨KEEP.fn B.f120, CALL.fn (f120 B hr (EV.cint (CMP.eqi (TRU.bool ?_))))⟩
    cases hz0 : (Builtin.bitAnd u (2 ^ c) == 0)
    · rw [hz0, if_neg Bool.false_ne_true] at hd
      rw [if_neg Bool.false_ne_true]
      refine ST.nil (ST.nil (ih (c + 1) p w ep _ j (by omega) (by omega) hp hw (by omega) (.cons hy) hd (fun p ep x j' h1 h2 h3 => h p ep x j' h1 (by omega) h3)))
    · rw [hz0, if_pos rfl] at hd
      rw [if_pos rfl]
      cases hrc : row[c]? with
      | none => rw [hrc] at hd; cases hd
      | some v =>
      rw [hrc] at hd
      dsimp only at hd
      obtain ⟨y2, hput2, hy2⟩ := hy.put (.int (Builtin.bitOr u (2 ^ c)))
      refine ST.cons (SX.assign (EV.call (EV.name (LD.glob he (by walk_at "lk") B.g_or_ (EVS.cons ?_)))))
      refine EV.name (LD.local he (by walk_at "lk") (.head _) (by walk_at "lk") (EVS.cons (EV.bin (EV.cint ?_))))
      refine EV.name (LD.local he (by walk_at "lk") (.head _) (by walk_at "lk") (BIN.pow (by omega) hcb ?_))
      rw [hpw]
      refine EVS.nil ⟨KEEP.fn B.f141, CALL.fn (f141 B hr ?_)⟩
      refine STO.local he (by walk_at "lk") (m' := rns ta sz md ra wd (("used", .int u) :: ("part", .int p) :: ("column", .int c) :: ("after", .int (Builtin.bitOr u (2 ^ c))) :: y2)) (.tail (by decide) (.tail (by decide) (.tail (by decide) (.tail (by decide) (.tail (by decide) (.tail (by decide) (.tail (by decide) (.tail (by decide) hput2)))))))) .head ?_
      refine ST.cons (SX.assignSub (EV.call (EV.name (LD.glob he (by walk_at "lk") B.g_add (EVS.cons (EV.meth (pl := ?_) ?_))))))
      rotate_left
      refine EV.name (LD.local he (by walk_at "lk") (.head _) (by walk_at "lk") ?_)
      refine gm_dict (dkI C) PySem.F.slot_dict_get PySem.F.type_dict_get (.tail _ (.tail _ (.head _))) (EVS.cons ?_)
      refine EV.name (LD.local he (by walk_at "lk") (.head _) (by walk_at "lk") ?_)
      refine (EVS.cons (EV.cint (EVS.nil ⟨KEEP.bi, CALL.dget (dkI C) (k := Builtin.bitOr u (2 ^ c)) (.tail _ (.tail _ (.head _))) ?_⟩)))
      have eg : (getK (mapH V.int w) (Builtin.bitOr u (2 ^ c))).getD (.int 0) = .int ((getH w (Builtin.bitOr u (2 ^ c))).getD 0) := by
        rw [getK_mapH]
        cases getH w (Builtin.bitOr u (2 ^ c)) <;> rfl
      rw [eg]
      refine EVS.cons (EV.call (EV.name (LD.glob he (by walk_at "lk") B.g_mul (EVS.cons ?_))))
      refine EV.name (LD.local he (by walk_at "lk") (.head _) (by walk_at "lk") (EVS.cons (EV.sub ?_)))
      refine EV.name (LD.local he (by walk_at "lk") (.head _) (by walk_at "lk") ?_)
      refine EV.name (LD.local he (by walk_at "lk") (.head _) (by walk_at "lk") ?_)
      have hi : (row.map V.int)[(c : Int).toNat]? = some (V.int v) := by
        rw [Int.toNat_natCast, List.getElem?_map, hrc]; rfl
      have hv : intBits v ≤ 200 := hbr v (List.mem_of_getElem? hrc)
      refine SUB.list (LstAt.mem (.tail _ (.tail _ (.tail _ hrow)))) (GIT.list (LstAt.mem (.tail _ (.tail _ (.tail _ hrow)))) (by omega) (by omega) hi ?_)
      refine EVS.nil ⟨KEEP.fn B.f127, CALL.fn (f127 B hr (IntMulOk.of_le hp hv (by omega)) (EVS.nil ⟨KEEP.fn B.f113, CALL.fn (f113 B hr ?_)⟩))⟩
      refine EV.name (LD.local he (by walk_at "lk") (.head _) (by walk_at "lk") ?_)
      refine EV.name (LD.local he (by walk_at "lk") (.head _) (by walk_at "lk") ?_)
      refine SIT.dict (dkI C) (kvs := mapH V.int w) (k := Builtin.bitOr u (2 ^ c)) (x := .int ((getH w (Builtin.bitOr u (2 ^ c))).getD 0 + p * v)) (ep := ep) (fun ep' => .tail (.tail .head)) (by unfold mapH; rw [List.length_map, sizeLine_eq]; omega) (fun ep' => ?_)
      rw [putK_mapH]
      refine ST.cons (SX.assign (EV.call (EV.name (LD.glob he (by walk_at "lk") B.g_neg (EVS.cons ?_)))))
      refine EV.name (LD.local he (by walk_at "lk") (.head _) (by walk_at "lk") (EVS.nil ⟨KEEP.fn B.f134, CALL.fn (f134 B hr ?_)⟩))
      refine STO.local he (by walk_at "lk") (m' := rns ta sz md ra wd (("used", .int u) :: ("part", .int (-p)) :: ("column", .int c) :: ("after", .int (Builtin.bitOr u (2 ^ c))) :: y2)) (.tail (by decide) (.tail (by decide) (.tail (by decide) (.tail (by decide) (.tail (by decide) (.tail (by decide) .head)))))) .head ?_
      refine ST.nil (ST.nil ?_)
      have hl := putH_len w (Builtin.bitOr u (2 ^ c)) ((getH w (Builtin.bitOr u (2 ^ c))).getD 0 + p * v)
      refine ih (c + 1) (-p) _ ep' _ (j + 1) (by omega) (by omega) (intBits_neg_le hp) (hw.put hp hv (by omega)) (by omega) (.cons (.cons hy2)) hd (fun p ep x j' h1 h2 h3 => h p ep x j' h1 (by omega) h3)
end

end
section
open Builtin.Int (intBits)
section
variable {C : Cx} {A : Around} {env : Env} {N N' N1 N2 M P P' X : Led} {K : Frag} {n : Nat} {x : Str} {L fa : Addr}
noncomputable abbrev kit (d : Addr) (i m ep : Nat) : Cell := .flds "dict_keyiterator" [.ref d, .int i 0, .int m 0, .int ep 0]

theorem loop_us (B : Base C) (hr : Room (n + 2) A) (he : EnvOk env L nmD []) {ta md ra wd it : Addr} {sz b mep : Nat} {row : List Int} {m : List (Int × Int)} (hrow : (ra, Cell.list (row.map .int)) ∈ N) (hmd : (md, Cell.dictI (mapH .int m) mep) ∈ N) (hbr : ∀ v ∈ row, intBits v ≤ 200) (hb : b ≤ 100000) (hm : BitsH m b) (hsz : sz ≤ 50) {Q : Fl → Led → Prop} {w' : List (Int × Int)} :
    ∀ (r : List (Int × Int)) (i : Nat) (w : List (Int × Int)) (ep : Nat) (x : List (Str × V)) (j : Nat), m.drop i = r → w.length ≤ 100 → BitsH w (b + 200 + j) → j + r.length * sz ≤ 100000 → Chn ["used", "part", "column", "after"] x → dpUsedI row sz m r w = some w' →
    (∀ ep x j', BitsH w' (b + 200 + j') → j' ≤ j + r.length * sz → w'.length ≤ 100 → Chn ["used", "part", "column", "after"] x → Q .next ((L, .ns (rns ta sz md ra wd x)) :: (wd, .dictI (mapH .int w') ep) :: N)) →
    LOOP C A env (forT usFor) (forB usFor) [] (.ref it) Q ((L, .ns (rns ta sz md ra wd x)) :: (it, kit md i (mapH V.int m).length mep) :: (wd, .dictI (mapH .int w) ep) :: N) := by
  intro r
  induction r with
  | nil =>
    intro i w ep x j ed hwl hw hj hx hd h
    cases hd
    exact LOOP.step (NXT.dictEnd (dkI C) hr (.tail _ (.tail _ (.tail _ hmd))) (map_none (drop_end ed)) (.tail .head) (h ep x j hw (by omega) hwl hx))
  | cons q r ih =>
    intro i w ep x j ed hwl hw hj hx hd h
    obtain ⟨u, u0⟩ := q
    obtain ⟨e1, e2⟩ := drop_hit ed
    have hi : (mapH V.int m)[i]? = some (u, .int u0) := by unfold mapH; rw [List.getElem?_map, e1]; rfl
    unfold dpUsedI dpUsed at hd
    cases hg : getH m u with
    | none => rw [hg] at hd; cases hd
    | some p =>
    rw [hg] at hd
    dsimp only at hd
    cases hc : dpCols (0 : Int) (· + ·) (· * ·) (- ·) row u sz 0 p w with
    | none => rw [hc] at hd; cases hd
    | some w1 =>
    rw [hc] at hd
    dsimp only at hd
    by_cases hl1 : w1.length ≤ 100
    rotate_left
    · rw [if_neg hl1] at hd; cases hd
    rw [if_pos hl1] at hd
    rw [List.length_cons, Nat.add_mul, Nat.one_mul] at hj
    obtain ⟨y, hput, hy⟩ := hx.put (.int u)
    obtain ⟨y2, hput2, hy2⟩ := hy.put (.int p)
    refine LOOP.step (NXT.dict (dkI C) (.tail _ (.tail _ (.tail _ hmd))) hi (.tail .head) (BND.name ?_))
    refine STO.local he (by walk_at "lk") (m' := rns ta sz md ra wd (("used", .int u) :: y)) (.tail (by decide) (.tail (by decide) (.tail (by decide) (.tail (by decide) (.tail (by decide) hput))))) .head ?_
    refine ST.cons (SX.assign (EV.sub ?_))
    refine EV.name (LD.local he (by walk_at "lk") (.head _) (by walk_at "lk") ?_)
    refine EV.name (LD.local he (by walk_at "lk") (.head _) (by walk_at "lk") ?_)
    refine SUB.dict (dkI C) (k := u) (.tail _ (.tail _ (.tail _ hmd))) (GIT.dict (dkI C) (x := .int p) (.tail _ (.tail _ (.tail _ hmd))) ?_ ?_) (fun _ => nofun)
    · rw [getK_mapH, hg]; rfl
    refine STO.local he (by walk_at "lk") (m' := rns ta sz md ra wd (("used", .int u) :: ("part", .int p) :: y2)) (.tail (by decide) (.tail (by decide) (.tail (by decide) (.tail (by decide) (.tail (by decide) (.tail (by decide) hput2)))))) .head ?_
    refine ST.cons (SX.for_ (EV.call (EV.name (LD.blt he (by walk_at "lk") B.b_range (EVS.cons ?_)))))
    refine EV.name (LD.local he (by walk_at "lk") (.head _) (by walk_at "lk") ?_)
    refine EVS.nil ⟨KEEP.ty, CALL.rangeO (fun rg t u' v => ?_)⟩
    refine ITR.range (.head _) (by omega) (fun cit => ?_)
    refine LOOP.re (N1 := (L, .ns (rns ta sz md ra wd (("used", .int u) :: ("part", .int p) :: y2))) :: (cit, .raw (rit (0 : Nat) sz)) :: (wd, .dictI (mapH .int w) ep) :: ((it, kit md (i + 1) (mapH V.int m).length mep) :: N))
      (N2 := (cit, .raw (rit (0 : Nat) sz)) :: (L, .ns (rns ta sz md ra wd (("used", .int u) :: ("part", .int p) :: y2))) :: (it, kit md (i + 1) (mapH V.int m).length mep) :: (wd, .dictI (mapH .int w) ep) :: N) ?_ (.cons_cons _ (.cons _ (List.Sublist.refl _))) (List.Perm.trans (.swap _ _ _) (.cons _ (.cons _ (.swap _ _ _))))
    refine loop_o (row := row) (b := b) B hr he (.tail _ hrow) hbr hb sz 0 p w ep y2 j (by omega) (by omega) (hm _ (getH_mem hg)) hw (by omega) hy2 hc (fun p' ep' x' j' h1 h2 h3 => ST.nil ?_)
    refine LOOP.re (N1 := (L, .ns (rns ta sz md ra wd (("used", .int u) :: ("part", .int p') :: x'))) :: (it, kit md (i + 1) (mapH V.int m).length mep) :: (wd, .dictI (mapH .int w1) ep') :: N) ?_ (List.Sublist.refl _) (.cons _ (.swap _ _ _))
    refine ih (i + 1) w1 ep' _ j' e2 hl1 h1 (by omega) (.cons (.cons h3)) hd (fun ep x j'' g1 g2 g3 g4 => h ep x j'' g1 (by rw [List.length_cons, Nat.add_mul, Nat.one_mul]; omega) g3 g4)

/-- a table's rows -/
inductive RIn (M : Led) : List V → List (List Int) → Prop
  | nil : RIn M [] []
  | cons {ra : Addr} {row : List Int} {e r} : (ra, Cell.list (row.map .int)) ∈ M → RIn M e r → RIn M (.ref ra :: e) (row :: r)
theorem RIn.len {M : Led} {e r} (h : RIn M e r) : e.length = r.length := by
  induction h with
  | nil => rfl
  | cons _ _ ih => rw [List.length_cons, List.length_cons, ih]
theorem RIn.mono {M M' : Led} (h : ∀ p ∈ M, p ∈ M') {e r} (x : RIn M e r) : RIn M' e r := by
  induction x with
  | nil => exact .nil
  | cons m _ ih => exact .cons (h _ m) ih
theorem RIn.app {M : Led} {e r} (x : RIn M e r) {ra : Addr} {row : List Int} (m : (ra, Cell.list (row.map .int)) ∈ M) : RIn M (e ++ [.ref ra]) (r ++ [row]) := by
  induction x with
  | nil => exact .cons m .nil
  | cons m' _ ih => exact .cons m' ih
noncomputable abbrev chR : List Str := ["row", "wider", "used", "part", "column", "after"]

theorem loop_rw (B : Base C) (hr : Room (n + 2) A) (he : EnvOk env L nmD []) {ta it : Addr} {sz : Nat} (hsz : sz ≤ 10) {all : List V} (hta : (ta, Cell.list all) ∈ N) {Q : Fl → Led → Prop} {m' : List (Int × Int)} :
    ∀ (r : List (List Int)) (rs : List V) (i b : Nat) (m : List (Int × Int)) (md : Addr) (mep : Nat) (x : List (Str × V)), all.drop i = rs → RIn N rs r → (∀ row ∈ r, ∀ v ∈ row, intBits v ≤ 200) → BitsH m b → m.length ≤ 100 → b + r.length * 1300 ≤ 100000 → Chn chR x → dpRowsI sz r m = some m' →
    (∀ md mep x, Chn chR x → Q .next ((L, .ns (dns ta sz md x)) :: (md, .dictI (mapH .int m') mep) :: N)) →
    LOOP C A env (forT rwFor) (forB rwFor) [] (.ref it) Q ((L, .ns (dns ta sz md x)) :: (it, .flds "list_iterator" [.ref ta, .int i 0]) :: (md, .dictI (mapH .int m) mep) :: N) := by
  intro r
  induction r with
  | nil =>
    intro rs i b m md mep x ed hrs hbr hm hml hb hx hd h
    cases hrs
    cases hd
    exact LOOP.step (NXT.listEnd hr (LstAt.mem (.tail _ (.tail _ (.tail _ hta)))) (drop_end ed) (.tail .head) (h md mep x hx))
  | cons row r ih =>
    intro rs i b m md mep x ed hrs hbr hm hml hb hx hd h
    cases hrs with
    | @cons ra _ rs _ hra hrs =>
    obtain ⟨e1, e2⟩ := drop_hit ed
    unfold dpRowsI dpRows at hd
    cases hu : dpUsed (0 : Int) (· + ·) (· * ·) (- ·) row sz m m [] with
    | none => rw [hu] at hd; cases hd
    | some w =>
    rw [hu] at hd
    dsimp only at hd
    rw [List.length_cons, Nat.add_mul, Nat.one_mul] at hb
    obtain ⟨y, hput, hy⟩ := hx.put (.ref ra)
    refine LOOP.step (NXT.list (LstAt.mem (.tail _ (.tail _ (.tail _ hta)))) e1 (.tail .head) (BND.name ?_))
    refine STO.local he (by walk_at "lk") (m' := dns ta sz md (("row", .ref ra) :: y)) (.tail (by decide) (.tail (by decide) (.tail (by decide) hput))) .head ?_
    refine ST.cons (SX.assign (EV.dict0 (dkI C) fun wd wep => ?_))
    obtain ⟨y2, hput2, hy2⟩ := hy.put (.ref wd)
    refine STO.local he (by walk_at "lk") (m' := rns ta sz md ra wd y2) (.tail (by decide) (.tail (by decide) (.tail (by decide) (.tail (by decide) hput2)))) (.tail .head) ?_
    refine ST.cons (SX.for_ ?_)
    refine EV.name (LD.local he (by walk_at "lk") (.tail _ (.head _)) (by walk_at "lk") ?_)
    refine ITR.dict (dkI C) (kvs := mapH V.int m) (ep := mep) (.tail _ (.tail _ (.tail _ (.head _)))) (fun uit => ?_)
    refine LOOP.re (N1 := (L, .ns (rns ta sz md ra wd y2)) :: (uit, kit md (0 : Nat) (mapH V.int m).length mep) :: (wd, .dictI (mapH .int []) wep) :: ((it, .flds "list_iterator" [.ref ta, .int (i + 1 : Nat) 0]) :: (md, .dictI (mapH .int m) mep) :: N)) ?_ (List.Sublist.refl _) (List.perm_middle (l₁ := [_, _])).symm
    refine loop_us (row := row) (b := b) B hr he (.tail _ (.tail _ hra)) (.tail _ (.head _)) (hbr row List.mem_cons_self) (by omega) hm (by omega) m 0 [] wep y2 0 rfl (by simp) (fun p hp => by cases hp) (by
      have : m.length * sz ≤ 100 * 10 := Nat.mul_le_mul hml hsz
      omega) hy2 hu (fun ep x j' h1 h2 h3 h4 => ?_)
    refine ST.cons (SX.assign (EV.name (LD.local he (by walk_at "lk") (.head _) (by walk_at "lk") ?_)))
    refine STO.local he (by walk_at "lk") (m' := dns ta sz wd (("row", .ref ra) :: ("wider", .ref wd) :: x)) (.tail (by decide) (.tail (by decide) .head)) .head (ST.nil ?_)
    refine LOOP.re (N1 := (L, .ns (dns ta sz wd (("row", .ref ra) :: ("wider", .ref wd) :: x))) :: (it, .flds "list_iterator" [.ref ta, .int (i + 1 : Nat) 0]) :: (wd, .dictI (mapH .int w) ep) :: N)
      (N2 := (L, .ns (dns ta sz wd (("row", .ref ra) :: ("wider", .ref wd) :: x))) :: (wd, .dictI (mapH .int w) ep) :: (it, .flds "list_iterator" [.ref ta, .int (i + 1 : Nat) 0]) :: N) ?_ (.cons_cons _ (.cons_cons _ (.cons_cons _ (.cons _ (List.Sublist.refl _))))) (.cons _ (.swap _ _ _))
    have hms : m.length * sz ≤ 100 * 10 := Nat.mul_le_mul hml hsz
    exact ih rs (i + 1) (b + 1300) w wd ep _ e2 hrs (fun row hrow => hbr row (List.mem_cons_of_mem _ hrow)) (h1.mono (by omega)) h3 (by omega) (.cons (.cons h4)) hd h

theorem dict1_sh (k v : Expr) (env : Env) (pos : Pos) : (evalEachOpt [some k] env).zip ((evalEach [v] env).map fun v => do let x ← v; standAt pos; pure x) = [(some (eval k env), do let x ← eval v env; standAt pos; pure x)] := by rfl
theorem f214 (B : Base C) (hr : Room (n + 3) A) {ta : Addr} {rs : List V} {rows : List (List Int)} (hta : (ta, Cell.list rs) ∈ N) (hrs : RIn N rs rows) (hsz : rows.length ≤ 10) (hbr : ∀ row ∈ rows, ∀ v ∈ row, intBits v ≤ 200) {m' : List (Int × Int)} {v : Int}
    (hd : dpRowsI rows.length rows [(0, 1)] = some m') (hv : getH m' (2 ^ rows.length - 1) = some v) {Q : V → Led → Prop} (h : Q (.int v) N) : FN C A 214 [.ref ta] Q N := by
  refine FN.enter1 (p := "table") (nm := nmD) hr B.f214 rfl (fun L env he hr => ?_)
  refine ST.cons (SX.assign (EV.call (EV.name (LD.blt he (by walk_at "lk") B.b_len (EVS.cons ?_)))))
  walk_at "loc"
  have hlen := hrs.len
  refine EVS.nil ⟨KEEP.bi, CALL.lenList (LstAt.mem (.tail _ hta)) (by omega) ?_⟩
  rw [hlen]
  walk_at "stl"
  refine ST.cons ?_
  refine SX.assign ?_ (hs := ?_)
  rotate_left
  · rfl
  refine EV.dict1 (dkI C) (hsh := dict1_sh _ _ _ _) (fun md => ?_)
  refine EV.cint (EV.cint ⟨0, fun ep => _, rfl, fun ep => .head, fun ep => ?_⟩)
  refine STO.local he (by walk_at "lk") (m' := dns ta rows.length md []) (.tail (by decide) (.tail (by decide) .nil)) (.tail .head) ?_
  refine ST.cons (SX.for_ ?_)
  refine EV.name (LD.local he (by walk_at "lk") (.tail _ (.head _)) (by walk_at "lk") ?_)
  refine ITR.list (LstAt.mem (.tail _ (.tail _ hta))) (fun it => ?_)
  refine LOOP.re (N1 := (L, .ns (dns ta rows.length md [])) :: (it, .flds "list_iterator" [.ref ta, .int (0 : Nat) 0]) :: (md, .dictI (mapH .int [(0, 1)]) ep) :: N) ?_ (List.Sublist.refl _) (List.perm_middle (l₁ := [_, _])).symm
  refine loop_rw (n := n) B hr he hsz hta rows rs 0 1 [(0, 1)] md ep [] rfl hrs hbr (fun p hp => by rw [List.mem_singleton] at hp; subst hp; decide) (by simp) (by omega) .nil hd (fun md mep x hx => ?_)
  refine ST.cons (SX.ret (EV.sub ?_))
  refine EV.name (LD.local he (by walk_at "lk") (.head _) (by walk_at "lk") ?_)
  refine EV.bin (EV.bin (EV.cint ?_))
  refine EV.name (LD.local he (by walk_at "lk") (.head _) (by walk_at "lk") (BIN.pow (by omega) ?_ (EV.cint (BIN.sub ?_))))
  · have : Builtin.Int.intBits 2 = 2 := by decide
    rw [this]; omega
  rw [Int.toNat_natCast]
  refine SUB.dict (dkI C) (k := 2 ^ rows.length - 1) (.tail _ (.head _)) (GIT.dict (dkI C) (x := .int v) (.tail _ (.head _)) ?_ ?_) (fun _ => nofun)
  · rw [getK_mapH, hv]; rfl
  exact ⟨_, .cons _ (.cons _ (List.Sublist.refl _)), h⟩
end

end
section
set_option maxRecDepth 4000
open Builtin.Int (intBits)

noncomputable def wayOf (wf : List (Str × List (Str × (Int × Int)))) (h t : Str) : Int × Int := (getG ((getG wf h).getD []) t).getD (0, 0)
noncomputable def shareOf (es : List (Str × Int)) (t : Str) : Int := 2 - (getG es t).getD 0
noncomputable def hopsF (es : List (Str × Int)) (wf : List (Str × List (Str × (Int × Int)))) (h : Str) : List Str → Int → Int
  | [], a => a
  | t :: r, a => hopsF es wf h r (a + shareOf es t * (wayOf wf h t).1)
noncomputable def farF (es : List (Str × Int)) (wf : List (Str × List (Str × (Int × Int)))) (h : Str) : List Str → Int → Int
  | [], a => a
  | t :: r, a => farF es wf h r (a + shareOf es t * (wayOf wf h t).2)
noncomputable abbrev nmL : List (Str × NameKind) := ("script", .local) :: ("seeds", .local) :: ("names", .local) :: ("lengths", .cell) :: ("text", .local) :: ("lexer", .local) :: ("found", .cell) :: ("ends", .local) :: ("steps", .local) :: ("ways", .cell) :: ("here", .local) :: ("hops", .local) :: ("far", .local) :: ("there", .local) :: ("share", .local) :: ("way", .local) :: ("toll", .cell) :: ("table", .local) :: ("due", .local) :: ("step", .local) :: ("_law_seeds", .globalImplicit) :: ("_law_tree", .globalImplicit) :: ("_law_lexer", .globalImplicit) :: ("_law_climbed", .globalImplicit) :: ("sorted", .globalImplicit) :: ("count_calls", .globalImplicit) :: ("len", .globalImplicit) :: ("_law_ways", .globalImplicit) :: ("sub", .globalImplicit) :: ("add", .globalImplicit) :: ("mul", .globalImplicit) :: ("sum", .globalImplicit) :: ("_law_determinant", .globalImplicit) :: []
noncomputable abbrev csL (c1 c2 c3 c4 : Addr) : List (Str × Addr) := [("toll", c4), ("ways", c3), ("found", c2), ("lengths", c1)]
noncomputable abbrev lns (sc : V) (sd nmA : Addr) (tx : Str) (lx en st : Addr) (x : List (Str × V)) : List (Str × V) := ("script", sc) :: ("seeds", .ref sd) :: ("names", .ref nmA) :: ("text", .str tx) :: ("lexer", .ref lx) :: ("ends", .ref en) :: ("steps", .ref st) :: x
noncomputable def heFor : Stmt := (bodyOf fd219).getD 8 (.Pass default)
noncomputable def thFor : Stmt := (forB heFor).getD 2 (.Pass default)
noncomputable def duFor : Stmt := (bodyOf fd219).getD 12 (.Pass default)
noncomputable def stE : Expr := asgV ((bodyOf fd219).getD 5 (.Pass default))
noncomputable def tabE : Expr := asgV ((bodyOf fd219).getD 10 (.Pass default))
noncomputable def rowE : Expr := lcElt tabE

section
variable {C : Cx} {A : Around} {env : Env} {N N' N1 N2 M P P' X : Led} {K : Frag} {n : Nat} {x : Str} {L fa : Addr}

theorem comp_st (B : Base C) (hr : Room (n + 1) A) {it so c1 na ln : Addr} {ls : List (Str × Int)} {lp : Nat} (he : EnvOk env L [(".0", .local), ("name", .local), ("lengths", .cell)] [("lengths", c1)]) {all : List Str} {Q : Led → Prop} (hl : (na, Cell.list (all.map .str)) ∈ N) (hc : (c1, Cell.cell (some (.ref ln))) ∈ N) (hn : (ln, Cell.dictS (mapG .int ls) lp) ∈ N) :
    ∀ (r : List Str) (i : Nat) (out vs : List Int) (x : List (Str × V)), all.drop i = r → out.length + r.length ≤ 100 → r.map (getG ls) = vs.map some → one "name" x →
    (∀ x, Q ((L, .ns x) :: (so, .list ((out ++ vs).map .int)) :: N)) →
    CLOOP C A env stE (.ref it) (.ref so) Q ((L, .ns x) :: (it, .flds "list_iterator" [.ref na, .int i 0]) :: (so, .list (out.map .int)) :: N) := by
  intro r
  induction r with
  | nil =>
    intro i out vs x ed hz hv hx h
    have := h x
    cases vs with
    | cons v vs => cases hv
    | nil =>
    rw [List.append_nil] at this
    exact CLOOP.list1 (NXT.listEnd hr (LstAt.mem (.tail _ (.tail _ (.tail _ hl)))) (map_none (drop_end ed)) (.tail .head) this)
  | cons d r ih =>
    intro i out vs x ed hz hv hx h
    rw [List.length_cons] at hz
    obtain ⟨e1, e2⟩ := drop_hit ed
    cases vs with
    | nil => cases hv
    | cons v vs =>
    rw [List.map_cons, List.map_cons, List.cons.injEq] at hv
    obtain ⟨hv1, hv2⟩ := hv
    refine CLOOP.list1 (NXT.list (LstAt.mem (.tail _ (.tail _ (.tail _ hl)))) (map_some e1) (.tail .head) (BND.name ?_))
    refine STO.local he (by walk_at "lk") (hx.put (.str d)) .head ?_
    refine EV.sub ?_
    refine EV.name (LD.cell he (by walk_at "lk") (by walk_at "lk") (.tail _ (.tail _ (.tail _ hc))) ?_)
    refine EV.name (LD.local he (by walk_at "lk") (.head _) .head ?_)
    refine SUB.dict (dkS C) (k := d) (.tail _ (.tail _ (.tail _ hn))) (GIT.dict (dkS C) (x := .int v) (.tail _ (.tail _ (.tail _ hn))) ?_ ?_) (fun _ => nofun)
    · rw [getK_mapG, hv1]; rfl
    refine CALL.append (.tail (.tail .head)) (by rw [List.length_map, sizeLine_eq]; omega) ?_
    rw [show (out.map V.int ++ [V.int v]) = (out ++ [v]).map V.int by simp]
    refine ih (i + 1) (out ++ [v]) vs [("name", .str d)] e2 (by simp; omega) hv2 (.inr ⟨_, rfl⟩) (fun x => ?_)
    rw [List.append_assoc]
    exact h x

/-- what ways[here].get(there, (0, 0)) gives -/
theorem way_get {wf : List (Str × List (Str × (Int × Int)))} {p : List (Str × (Int × Int))} {h t : Str} {ed : List (Str × V)} {tt : Addr} (hp : getG wf h = some p) (hpd : PIn N ed p) :
    ∃ wt, (getK ed t).getD (.ref tt) = .ref wt ∧ (wt, Cell.tup [.int (wayOf wf h t).1, .int (wayOf wf h t).2]) ∈ (tt, Cell.tup [.int 0, .int 0]) :: N := by
  unfold wayOf
  rw [hp]
  show ∃ wt, _ ∧ (wt, Cell.tup [.int ((getG p t).getD (0, 0)).1, .int ((getG p t).getD (0, 0)).2]) ∈ _
  cases hg : getG p t with
  | none =>
    rw [hpd.none hg]
    exact ⟨tt, rfl, .head _⟩
  | some ab =>
    obtain ⟨a, b⟩ := ab
    obtain ⟨t0, hk, hm⟩ := hpd.some hg
    rw [hk]
    exact ⟨t0, rfl, .tail _ hm⟩

theorem loop_th (B : Base C) (hr : Room (n + 3) A) {c1 c2 c3 c4 it wd en sd nmA lx st : Addr} {sc : V} {tx : Str} {fd : List Str} {es : List (Str × Int)} {ep wep : Nat} {we : List (Str × V)} {wf : List (Str × List (Str × (Int × Int)))} {hh : Str}
    (he : EnvOk env L nmL (csL c1 c2 c3 c4)) (hl : (fa, Cell.list (fd.map .str)) ∈ N) (h3 : (c3, Cell.cell (some (.ref wd))) ∈ N) (hen : (en, Cell.dictS (mapG .int es) ep) ∈ N) (hwd : (wd, Cell.dictS we wep) ∈ N) (hw : WIn N we wf) {p : List (Str × (Int × Int))} (hp : getG wf hh = some p)
    (hes : ∀ t ∈ fd, ∃ e, getG es t = some e) (hb : ∀ t ∈ fd, intBits (shareOf es t) ≤ 1000 ∧ intBits (wayOf wf hh t).1 ≤ 1000 ∧ intBits (wayOf wf hh t).2 ≤ 1000) {Q : Fl → Led → Prop} :
    ∀ (r : List Str) (i : Nat) (a b : Int) (y : List (Str × V)), fd.drop i = r → Chn ["there", "share", "way"] y →
    (∀ y, Chn ["there", "share", "way"] y → Q .next ((L, .ns (lns sc sd nmA tx lx en st (("here", .str hh) :: ("hops", .int (hopsF es wf hh r a)) :: ("far", .int (farF es wf hh r b)) :: y))) :: N)) →
    LOOP C A env (forT thFor) (forB thFor) [] (.ref it) Q ((L, .ns (lns sc sd nmA tx lx en st (("here", .str hh) :: ("hops", .int a) :: ("far", .int b) :: y))) :: (it, .flds "list_iterator" [.ref fa, .int i 0]) :: N) := by
  intro r
  induction r with
  | nil =>
    intro i a b y ed hy h
    exact LOOP.step (NXT.listEnd hr (LstAt.mem (.tail _ (.tail _ hl))) (map_none (drop_end ed)) (.tail .head) (h y hy))
  | cons d r ih =>
    intro i a b y ed hy h
    obtain ⟨e1, e2⟩ := drop_hit ed
    obtain ⟨e, hge⟩ := hes d (List.mem_of_getElem? e1)
    obtain ⟨b1, b2, b3⟩ := hb d (List.mem_of_getElem? e1)
    obtain ⟨y1, q1, hy1⟩ := hy.put (.str d)
    obtain ⟨y2, q2, hy2⟩ := hy1.put (.int (shareOf es d))
    refine LOOP.step (NXT.list (LstAt.mem (.tail _ (.tail _ hl))) (map_some e1) (.tail .head) (BND.name ?_))
    refine STO.local he (by walk_at "lk") (m' := lns sc sd nmA tx lx en st (("here", .str hh) :: ("hops", .int a) :: ("far", .int b) :: ("there", .str d) :: y1)) (.tail (by decide) (.tail (by decide) (.tail (by decide) (.tail (by decide) (.tail (by decide) (.tail (by decide) (.tail (by decide) (.tail (by decide) (.tail (by decide) (.tail (by decide) q1)))))))))) .head ?_
    refine ST.cons (SX.assign (EV.call (EV.name (LD.glob he (by walk_at "lk") B.g_sub (EVS.cons (EV.cint (EVS.cons (EV.sub ?_))))))))
    refine EV.name (LD.local he (by walk_at "lk") (.head _) (by walk_at "lk") ?_)
    refine EV.name (LD.local he (by walk_at "lk") (.head _) (by walk_at "lk") ?_)
    refine SUB.dict (dkS C) (k := d) (.tail _ (.tail _ hen)) (GIT.dict (dkS C) (x := .int e) (.tail _ (.tail _ hen)) ?_ ?_) (fun _ => nofun)
    · rw [getK_mapG, hge]; rfl
    refine EVS.nil ⟨KEEP.fn B.f148, CALL.fn (f148 B hr ?_)⟩
    have es1 : 2 - e = shareOf es d := by unfold shareOf; rw [hge]; rfl
    rw [es1]
    refine STO.local he (by walk_at "lk") (m' := lns sc sd nmA tx lx en st (("here", .str hh) :: ("hops", .int a) :: ("far", .int b) :: ("there", .str d) :: ("share", .int (shareOf es d)) :: y2)) (.tail (by decide) (.tail (by decide) (.tail (by decide) (.tail (by decide) (.tail (by decide) (.tail (by decide) (.tail (by decide) (.tail (by decide) (.tail (by decide) (.tail (by decide) (.tail (by decide) q2))))))))))) .head ?_
    obtain ⟨da, de, dep, hk, hd, hpd⟩ := hw.some hp
    refine ST.cons (SX.assign (EV.meth (pl := ?_) (EV.sub ?_)))
    rotate_left
    refine EV.name (LD.cell he (by walk_at "lk") (by walk_at "lk") (.tail _ (.tail _ h3)) ?_)
    refine EV.name (LD.local he (by walk_at "lk") (.head _) (by walk_at "lk") ?_)
    refine SUB.dict (dkS C) (k := hh) (.tail _ (.tail _ hwd)) (GIT.dict (dkS C) (.tail _ (.tail _ hwd)) hk ?_) (fun _ => nofun)
    refine gm_dict (dkS C) PySem.F.slot_dict_get PySem.F.type_dict_get (.tail _ (.tail _ hd)) (EVS.cons ?_)
    refine EV.name (LD.local he (by walk_at "lk") (.head _) (by walk_at "lk") ?_)
    refine EVS.cons (EV.tuple (by decide) (EVS.cons (EV.cint (EVS.cons (EV.cint (EVS.nil ⟨rfl, fun tt => ?_⟩))))))
    refine EVS.nil ⟨KEEP.bi, CALL.dget (dkS C) (k := d) (.tail _ (.tail _ (.tail _ hd))) ?_⟩
    obtain ⟨wt, ew, hwt⟩ := way_get (t := d) (tt := tt) hp hpd
    rw [ew]
    obtain ⟨y3, q3, hy3⟩ := hy2.put (.ref wt)
    refine STO.local he (by walk_at "lk") (m' := lns sc sd nmA tx lx en st (("here", .str hh) :: ("hops", .int a) :: ("far", .int b) :: ("there", .str d) :: ("share", .int (shareOf es d)) :: ("way", .ref wt) :: y3)) (.tail (by decide) (.tail (by decide) (.tail (by decide) (.tail (by decide) (.tail (by decide) (.tail (by decide) (.tail (by decide) (.tail (by decide) (.tail (by decide) (.tail (by decide) (.tail (by decide) (.tail (by decide) q3)))))))))))) (.tail .head) ?_
    have hwt2 : ∀ m it', (wt, Cell.tup [.int (wayOf wf hh d).1, .int (wayOf wf hh d).2]) ∈ (tt, Cell.tup [.int 0, .int 0]) :: (L, Cell.ns m) :: (it, it') :: N := fun m it' => by
      rcases List.mem_cons.mp hwt with e | hm
      · rw [e]; exact .head _
      · exact .tail _ (.tail _ (.tail _ hm))
    refine ST.cons (SX.assign (EV.call (EV.name (LD.glob he (by walk_at "lk") B.g_add (EVS.cons ?_)))))
    refine EV.name (LD.local he (by walk_at "lk") (.tail _ (.head _)) (by walk_at "lk") ?_)
    refine EVS.cons (EV.call (EV.name (LD.glob he (by walk_at "lk") B.g_mul (EVS.cons ?_))))
    refine EV.name (LD.local he (by walk_at "lk") (.tail _ (.head _)) (by walk_at "lk") ?_)
    refine EVS.cons (EV.sub ?_)
    refine EV.name (LD.local he (by walk_at "lk") (.tail _ (.head _)) (by walk_at "lk") ?_)
    refine EV.cint (SUB.tup (TupAt.mem (hwt2 _ _)) (GIT.tup (j := 0) (TupAt.mem (hwt2 _ _)) (by decide) (by decide) rfl rfl ?_))
    refine EVS.nil ⟨KEEP.fn B.f127, CALL.fn (f127 B hr (IntMulOk.of_le b1 b2 (by omega)) (EVS.nil ⟨KEEP.fn B.f113, CALL.fn (f113 B hr ?_)⟩))⟩
    refine STO.local he (by walk_at "lk") (m' := lns sc sd nmA tx lx en st (("here", .str hh) :: ("hops", .int (a + shareOf es d * (wayOf wf hh d).1)) :: ("far", .int b) :: ("there", .str d) :: ("share", .int (shareOf es d)) :: ("way", .ref wt) :: y3)) (.tail (by decide) (.tail (by decide) (.tail (by decide) (.tail (by decide) (.tail (by decide) (.tail (by decide) (.tail (by decide) (.tail (by decide) .head)))))))) (.tail .head) ?_
    refine ST.cons (SX.assign (EV.call (EV.name (LD.glob he (by walk_at "lk") B.g_add (EVS.cons ?_)))))
    refine EV.name (LD.local he (by walk_at "lk") (.tail _ (.head _)) (by walk_at "lk") ?_)
    refine EVS.cons (EV.call (EV.name (LD.glob he (by walk_at "lk") B.g_mul (EVS.cons ?_))))
    refine EV.name (LD.local he (by walk_at "lk") (.tail _ (.head _)) (by walk_at "lk") ?_)
    refine EVS.cons (EV.sub ?_)
    refine EV.name (LD.local he (by walk_at "lk") (.tail _ (.head _)) (by walk_at "lk") ?_)
    refine EV.cint (SUB.tup (TupAt.mem (hwt2 _ _)) (GIT.tup (j := 1) (TupAt.mem (hwt2 _ _)) (by decide) (by decide) rfl rfl ?_))
    refine EVS.nil ⟨KEEP.fn B.f127, CALL.fn (f127 B hr (IntMulOk.of_le b1 b3 (by omega)) (EVS.nil ⟨KEEP.fn B.f113, CALL.fn (f113 B hr ?_)⟩))⟩
    refine STO.local he (by walk_at "lk") (m' := lns sc sd nmA tx lx en st (("here", .str hh) :: ("hops", .int (a + shareOf es d * (wayOf wf hh d).1)) :: ("far", .int (b + shareOf es d * (wayOf wf hh d).2)) :: ("there", .str d) :: ("share", .int (shareOf es d)) :: ("way", .ref wt) :: y3)) (.tail (by decide) (.tail (by decide) (.tail (by decide) (.tail (by decide) (.tail (by decide) (.tail (by decide) (.tail (by decide) (.tail (by decide) (.tail (by decide) .head))))))))) (.tail .head) (ST.nil ?_)
    refine LOOP.re (N1 := (L, .ns (lns sc sd nmA tx lx en st (("here", .str hh) :: ("hops", .int (a + shareOf es d * (wayOf wf hh d).1)) :: ("far", .int (b + shareOf es d * (wayOf wf hh d).2)) :: ("there", .str d) :: ("share", .int (shareOf es d)) :: ("way", .ref wt) :: y3))) :: (it, .flds "list_iterator" [.ref fa, .int (i + 1 : Nat) 0]) :: N) ?_ (List.sublist_cons_self ..) (.refl _)
    exact ih (i + 1) _ _ _ e2 (.cons (.cons (.cons hy3))) h
end

end
section
set_option maxRecDepth 4000
open Builtin.Int (intBits)

section
variable {C : Cx} {A : Around} {env : Env} {N N' N1 N2 M P P' X : Led} {K : Frag} {n : Nat} {x : Str} {L fa : Addr}
noncomputable abbrev chH : List Str := ["here", "hops", "far", "there", "share", "way"]

theorem loop_he (B : Base C) (hr : Room (n + 3) A) {c1 c2 c3 c4 it wd en sd nmA lx st : Addr} {sc : V} {tx : Str} {fd : List Str} {es : List (Str × Int)} {ep wep : Nat} {we : List (Str × V)} {wf : List (Str × List (Str × (Int × Int)))} {steps : List Int}
    (he : EnvOk env L nmL (csL c1 c2 c3 c4)) (hl : (fa, Cell.list (fd.map .str)) ∈ N) (h2 : (c2, Cell.cell (some (.ref fa))) ∈ N) (h3 : (c3, Cell.cell (some (.ref wd))) ∈ N) (hen : (en, Cell.dictS (mapG .int es) ep) ∈ N) (hwd : (wd, Cell.dictS we wep) ∈ N) (hst : (st, Cell.list (steps.map .int)) ∈ N) (hsz : steps.length ≤ 100) (hw : WIn N we wf)
    (hes : ∀ t ∈ fd, ∃ e, getG es t = some e) (hb : ∀ h ∈ fd, ∀ t ∈ fd, intBits (shareOf es t) ≤ 1000 ∧ intBits (wayOf wf h t).1 ≤ 1000 ∧ intBits (wayOf wf h t).2 ≤ 1000)
    (hrow : ∀ h ∈ fd, (∃ p, getG wf h = some p) ∧ hopsF es wf h fd 0 = steps.length ∧ farF es wf h fd 0 = steps.sum) {Q : Fl → Led → Prop} :
    ∀ (r : List Str) (i : Nat) (x : List (Str × V)), fd.drop i = r → Chn chH x →
    (∀ x, Chn chH x → Q .next ((L, .ns (lns sc sd nmA tx lx en st x)) :: N)) →
    LOOP C A env (forT heFor) (forB heFor) [] (.ref it) Q ((L, .ns (lns sc sd nmA tx lx en st x)) :: (it, .flds "list_iterator" [.ref fa, .int i 0]) :: N) := by
  intro r
  induction r with
  | nil =>
    intro i x ed hx h
    exact LOOP.step (NXT.listEnd hr (LstAt.mem (.tail _ (.tail _ hl))) (map_none (drop_end ed)) (.tail .head) (h x hx))
  | cons d r ih =>
    intro i x ed hx h
    obtain ⟨e1, e2⟩ := drop_hit ed
    obtain ⟨⟨p, hp⟩, hh1, hh2⟩ := hrow d (List.mem_of_getElem? e1)
    obtain ⟨y1, q1, hy1⟩ := hx.put (.str d)
    obtain ⟨y2, q2, hy2⟩ := hy1.put (.int 0)
    obtain ⟨y3, q3, hy3⟩ := hy2.put (.int 0)
    refine LOOP.step (NXT.list (LstAt.mem (.tail _ (.tail _ hl))) (map_some e1) (.tail .head) (BND.name ?_))
    refine STO.local he (by walk_at "lk") (m' := lns sc sd nmA tx lx en st (("here", .str d) :: y1)) (.tail (by decide) (.tail (by decide) (.tail (by decide) (.tail (by decide) (.tail (by decide) (.tail (by decide) (.tail (by decide) q1))))))) .head ?_
    refine ST.cons (SX.assign (EV.cint ?_))
    refine STO.local he (by walk_at "lk") (m' := lns sc sd nmA tx lx en st (("here", .str d) :: ("hops", .int 0) :: y2)) (.tail (by decide) (.tail (by decide) (.tail (by decide) (.tail (by decide) (.tail (by decide) (.tail (by decide) (.tail (by decide) (.tail (by decide) q2)))))))) .head ?_
    refine ST.cons (SX.assign (EV.cint ?_))
    refine STO.local he (by walk_at "lk") (m' := lns sc sd nmA tx lx en st (("here", .str d) :: ("hops", .int 0) :: ("far", .int 0) :: y3)) (.tail (by decide) (.tail (by decide) (.tail (by decide) (.tail (by decide) (.tail (by decide) (.tail (by decide) (.tail (by decide) (.tail (by decide) (.tail (by decide) q3))))))))) .head ?_
    refine ST.cons (SX.for_ ?_)
    refine EV.name (LD.cell he (by walk_at "lk") (by walk_at "lk") (.tail _ (.tail _ h2)) ?_)
    refine ITR.list (LstAt.mem (.tail _ (.tail _ hl))) (fun it2 => ?_)
    refine LOOP.re (N1 := (L, .ns (lns sc sd nmA tx lx en st (("here", .str d) :: ("hops", .int 0) :: ("far", .int 0) :: y3))) :: (it2, .flds "list_iterator" [.ref fa, .int (0 : Nat) 0]) :: ((it, .flds "list_iterator" [.ref fa, .int (i + 1 : Nat) 0]) :: N)) ?_ (List.Sublist.refl _) (.swap _ _ _)
    refine loop_th (es := es) (wf := wf) (p := p) (hh := d) B hr he (.tail _ hl) (.tail _ h3) (.tail _ hen) (.tail _ hwd) (hw.mono fun q hq => .tail _ hq) hp hes (fun t ht => hb d (List.mem_of_getElem? e1) t ht) fd 0 0 0 y3 rfl hy3 (fun y hy => ?_)
    rw [hh1, hh2]
    refine ST.cons (SX.ifs (IST.bool (ALLT.orCons (IST.cmp ?_))))
    refine EV.name (LD.local he (by walk_at "lk") (.head _) (by walk_at "lk") ?_)
    refine EV.call (EV.name (LD.blt he (by walk_at "lk") B.b_len (EVS.cons ?_)))
    refine EV.name (LD.local he (by walk_at "lk") (.head _) (by walk_at "lk") ?_)
    refine EVS.nil ⟨KEEP.bi, CALL.lenList (LstAt.mem (.tail _ (.tail _ hst))) (by rw [List.length_map]; omega) ?_⟩
    rw [List.length_map]
    refine CMP.nei (TRU.bool ?_)
    rw [bne_self_eq_false]
    rw [if_neg Bool.false_ne_true]
    refine ALLT.orCons (IST.cmp ?_)
    refine EV.name (LD.local he (by walk_at "lk") (.head _) (by walk_at "lk") ?_)
    refine EV.call (EV.name (LD.blt he (by walk_at "lk") B.b_sum (EVS.cons ?_)))
    refine EV.name (LD.local he (by walk_at "lk") (.head _) (by walk_at "lk") ?_)
    refine EVS.nil ⟨KEEP.bi, CALL.sum hr (LstAt.mem (.tail _ (.tail _ hst))) ?_⟩
    refine CMP.nei (TRU.bool ?_)
    rw [bne_self_eq_false]
    rw [if_neg Bool.false_ne_true]
    refine ALLT.orNil ?_
    rw [if_neg Bool.false_ne_true]
    refine ST.nil (ST.nil ?_)
    exact ih (i + 1) _ e2 (.cons (.cons (.cons hy))) h

theorem comp_row (B : Base C) (hr : Room (n + 2) A) {c2 c3 c4 ch it wd ra : Addr} {toll : Int} {fd : List Str} {wep : Nat} {we : List (Str × V)} {wf : List (Str × List (Str × (Int × Int)))} {hh : Str}
    (he : EnvOk env L [(".0", .local), ("there", .local), ("add", .globalImplicit), ("here", .cell), ("toll", .cell), ("ways", .cell)] [("ways", c3), ("toll", c4), ("here", ch)]) (hl : (fa, Cell.list (fd.map .str)) ∈ N) (h3 : (c3, Cell.cell (some (.ref wd))) ∈ N) (h4 : (c4, Cell.cell (some (.int toll))) ∈ N) (hch : (ch, Cell.cell (some (.str hh))) ∈ N)
    (hwd : (wd, Cell.dictS we wep) ∈ N) (hw : WIn N we wf) {p : List (Str × (Int × Int))} (hp : getG wf hh = some p) {Q : Led → Prop} :
    ∀ (r : List Str) (i : Nat) (out : List Int) (x : List (Str × V)), fd.drop i = r → out.length + r.length ≤ 100 → one "there" x →
    (∀ x, Q ((L, .ns x) :: (ra, .list ((out ++ r.map fun t => toll + (wayOf wf hh t).2).map .int)) :: N)) →
    CLOOP C A env rowE (.ref it) (.ref ra) Q ((L, .ns x) :: (it, .flds "list_iterator" [.ref fa, .int i 0]) :: (ra, .list (out.map .int)) :: N) := by
  intro r
  induction r with
  | nil =>
    intro i out x ed hz hx h
    have := h x
    rw [List.map_nil, List.append_nil] at this
    exact CLOOP.list1 (NXT.listEnd hr (LstAt.mem (.tail _ (.tail _ (.tail _ hl)))) (map_none (drop_end ed)) (.tail .head) this)
  | cons d r ih =>
    intro i out x ed hz hx h
    rw [List.length_cons] at hz
    obtain ⟨e1, e2⟩ := drop_hit ed
    refine CLOOP.list1 (NXT.list (LstAt.mem (.tail _ (.tail _ (.tail _ hl)))) (map_some e1) (.tail .head) (BND.name ?_))
    refine STO.local he (by walk_at "lk") (hx.put (.str d)) .head ?_
    obtain ⟨da, de, dep, hk, hd, hpd⟩ := hw.some hp
    refine EV.call (EV.name (LD.glob he (by walk_at "lk") B.g_add (EVS.cons ?_)))
    refine EV.name (LD.cell he (by walk_at "lk") (by walk_at "lk") (.tail _ (.tail _ (.tail _ h4))) (EVS.cons (EV.sub (EV.meth (pl := ?_) (EV.sub ?_)))))
    rotate_left
    refine EV.name (LD.cell he (by walk_at "lk") (by walk_at "lk") (.tail _ (.tail _ (.tail _ h3))) ?_)
    refine EV.name (LD.cell he (by walk_at "lk") (by walk_at "lk") (.tail _ (.tail _ (.tail _ hch))) ?_)
    refine SUB.dict (dkS C) (k := hh) (.tail _ (.tail _ (.tail _ hwd))) (GIT.dict (dkS C) (.tail _ (.tail _ (.tail _ hwd))) hk ?_) (fun _ => nofun)
    refine gm_dict (dkS C) PySem.F.slot_dict_get PySem.F.type_dict_get (.tail _ (.tail _ (.tail _ hd))) (EVS.cons ?_)
    refine EV.name (LD.local he (by walk_at "lk") (.head _) .head ?_)
    refine EVS.cons (EV.tuple (by decide) (EVS.cons (EV.cint (EVS.cons (EV.cint (EVS.nil ⟨rfl, fun tt => ?_⟩))))))
    refine EVS.nil ⟨KEEP.bi, CALL.dget (dkS C) (k := d) (.tail _ (.tail _ (.tail _ (.tail _ hd)))) ?_⟩
    obtain ⟨wt, ew, hwt⟩ := way_get (t := d) (tt := tt) hp hpd
    rw [ew]
    have hwt2 : ∀ m it' o', (wt, Cell.tup [.int (wayOf wf hh d).1, .int (wayOf wf hh d).2]) ∈ (tt, Cell.tup [.int 0, .int 0]) :: (L, Cell.ns m) :: (it, it') :: (ra, o') :: N := fun m it' o' => by
      rcases List.mem_cons.mp hwt with e | hm
      · rw [e]; exact .head _
      · exact .tail _ (.tail _ (.tail _ (.tail _ hm)))
    refine EV.cint (SUB.tup (TupAt.mem (hwt2 _ _ _)) (GIT.tup (j := 1) (TupAt.mem (hwt2 _ _ _)) (by decide) (by decide) rfl rfl ?_))
    refine EVS.nil ⟨KEEP.fn B.f113, CALL.fn (f113 B hr ?_)⟩
    refine CALL.append (.tail (.tail (.tail .head))) (by rw [List.length_map, sizeLine_eq]; omega) ?_
    rw [show (out.map V.int ++ [V.int (toll + (wayOf wf hh d).2)]) = (out ++ [toll + (wayOf wf hh d).2]).map V.int by simp]
    refine CLOOP.re (N1 := (L, .ns [("there", .str d)]) :: (it, .flds "list_iterator" [.ref fa, .int (i + 1 : Nat) 0]) :: (ra, .list ((out ++ [toll + (wayOf wf hh d).2]).map .int)) :: N) ?_ (List.sublist_cons_self ..) (.refl _)
    refine ih (i + 1) _ [("there", .str d)] e2 (by simp; omega) (.inr ⟨_, rfl⟩) (fun x => ?_)
    rw [List.append_assoc]
    exact h x

theorem comp_tab (B : Base C) (hr : Room (n + 2) A) {c2 c3 c4 ch it wd ta : Addr} {toll : Int} {fd : List Str} {wep : Nat} {we : List (Str × V)} {wf : List (Str × List (Str × (Int × Int)))}
    (he : EnvOk env L [(".0", .local), ("here", .cell), ("found", .cell), ("toll", .cell), ("ways", .cell)] [("here", ch), ("ways", c3), ("toll", c4), ("found", c2)]) (hfz : fd.length ≤ 50) (hrow : ∀ h ∈ fd, ∃ p, getG wf h = some p) {Q : Led → Prop} :
    ∀ (r : List Str) (i : Nat) (rs : List V) (rows : List (List Int)) (v0 : Option V) (N : Led), (fa, Cell.list (fd.map .str)) ∈ N → (c2, Cell.cell (some (.ref fa))) ∈ N → (c3, Cell.cell (some (.ref wd))) ∈ N → (c4, Cell.cell (some (.int toll))) ∈ N → (wd, Cell.dictS we wep) ∈ N → WIn N we wf →
    fd.drop i = r → rows.length + r.length ≤ 100 → RIn N rs rows →
    (∀ rs v T, RIn (T ++ N) rs (rows ++ r.map fun h => fd.map fun t => toll + (wayOf wf h t).2) → Q ((ch, .cell v) :: (L, .ns []) :: (ta, .list rs) :: (T ++ N))) →
    CLOOP C A env tabE (.ref it) (.ref ta) Q ((ch, .cell v0) :: (L, .ns []) :: (it, .flds "list_iterator" [.ref fa, .int i 0]) :: (ta, .list rs) :: N) := by
  intro r
  induction r with
  | nil =>
    intro i rs rows v0 N hl h2 h3 h4 hwd hw ed hz hrs h
    have := h rs v0 [] (by rw [List.map_nil, List.append_nil]; exact hrs)
    exact CLOOP.list1 (NXT.listEnd hr (LstAt.mem (.tail _ (.tail _ (.tail _ (.tail _ hl))))) (map_none (drop_end ed)) (.tail (.tail .head)) this)
  | cons d r ih =>
    intro i rs rows v0 N hl h2 h3 h4 hwd hw ed hz hrs h
    rw [List.length_cons] at hz
    obtain ⟨e1, e2⟩ := drop_hit ed
    obtain ⟨p, hp⟩ := hrow d (List.mem_of_getElem? e1)
    refine CLOOP.list1 (NXT.list (LstAt.mem (.tail _ (.tail _ (.tail _ (.tail _ hl))))) (map_some e1) (.tail (.tail .head)) (BND.name ?_))
    refine STO.cell he (by walk_at "lk") (by walk_at "lk") .head ?_
    refine EV.listcomp (names := [(".0", .local), ("there", .local), ("add", .globalImplicit), ("here", .free), ("toll", .free), ("ways", .free)]) (cl := [("ways", c3), ("toll", c4), ("here", ch)]) he rfl rfl ?_
    refine EV.name (LD.cell he (by walk_at "lk") (by walk_at "lk") (.tail _ (.tail _ (.tail _ (.tail _ h2)))) ?_)
    refine ITR.list (LstAt.mem (.tail _ (.tail _ (.tail _ (.tail _ hl))))) (fun it2 => fun ra L2 cenv he2 => ⟨SELF.list (.tail _ (.tail _ (.head _))), ?_⟩)
    refine CLOOP.re (N1 := (L2, .ns []) :: (it2, .flds "list_iterator" [.ref fa, .int (0 : Nat) 0]) :: (ra, .list (([] : List Int).map .int)) :: ((ch, .cell (some (.str d))) :: (L, .ns []) :: (it, .flds "list_iterator" [.ref fa, .int (i + 1 : Nat) 0]) :: (ta, .list rs) :: N)) ?_ (List.Sublist.refl _) (.cons _ (.swap _ _ _))
    refine comp_row (c2 := c2) (hh := d) (wf := wf) (p := p) B hr he2 (.tail _ (.tail _ (.tail _ (.tail _ hl)))) (.tail _ (.tail _ (.tail _ (.tail _ h3)))) (.tail _ (.tail _ (.tail _ (.tail _ h4)))) (.head _) (.tail _ (.tail _ (.tail _ (.tail _ hwd)))) (hw.mono fun q hq => .tail _ (.tail _ (.tail _ (.tail _ hq)))) hp fd 0 [] [] rfl (by rw [List.length_nil]; omega) (.inl rfl) (fun x => ⟨_, _, .head, ?_⟩)
    rw [List.nil_append]
    refine CALL.append (.tail (.tail (.tail (.tail .head)))) (by rw [hrs.len, sizeLine_eq]; omega) ?_
    refine CLOOP.re (N1 := (ch, .cell (some (.str d))) :: (L, .ns []) :: (it, .flds "list_iterator" [.ref fa, .int (i + 1 : Nat) 0]) :: (ta, .list (rs ++ [V.ref ra])) :: ((ra, .list ((fd.map fun t => toll + (wayOf wf d t).2).map .int)) :: N)) ?_ (List.Sublist.refl _) (List.perm_middle (l₁ := [_, _, _, _]) (l₂ := N))
    refine ih (i + 1) _ (rows ++ [fd.map fun t => toll + (wayOf wf d t).2]) _ _ (.tail _ hl) (.tail _ h2) (.tail _ h3) (.tail _ h4) (.tail _ hwd) (hw.mono fun q hq => .tail _ hq) e2 (by simp; omega) ((hrs.mono fun q hq => .tail _ hq).app (.head _)) (fun rs v T hT => ?_)
    have := h rs v (T ++ [(ra, .list ((fd.map fun t => toll + (wayOf wf d t).2).map .int))]) (by
      rw [List.append_assoc] at hT ⊢
      exact hT)
    rw [List.append_assoc] at this
    exact this

/-- due's product -/
noncomputable abbrev duL (v : V) (x : List (Str × V)) : List (Str × V) := ("due", v) :: x
theorem loop_du (B : Base C) (hr : Room (n + 1) A) {c1 c2 c3 c4 it st : Addr} {steps : List Int}
    (he : EnvOk env L nmL (csL c1 c2 c3 c4)) (hst : (st, Cell.list (steps.map .int)) ∈ N) (hbs : ∀ s ∈ steps, intBits s ≤ 1000) {m : List (Str × V)} {Q : Fl → Led → Prop} (hm0 : ∀ k ∈ m, (("due" : Str) == k.1) = false ∧ (("step" : Str) == k.1) = false) :
    ∀ (r : List Int) (i : Nat) (a : Int) (b : Nat) (x : List (Str × V)), steps.drop i = r → intBits a ≤ b → b + 1000 * r.length ≤ 1000000 → one "step" x →
    (∀ x, Q .next ((L, .ns (m ++ duL (.int (r.foldl (· * ·) a)) x)) :: N)) →
    LOOP C A env (forT duFor) (forB duFor) [] (.ref it) Q ((L, .ns (m ++ duL (.int a) x)) :: (it, .flds "list_iterator" [.ref st, .int i 0]) :: N) := by
  have lkm : ∀ (v : V) (x : List (Str × V)), Lk (m ++ duL v x) "due" v := by
    intro v x
    induction m with
    | nil => exact .head
    | cons q m ih => exact .tail (hm0 q List.mem_cons_self).1 (ih fun k hk => hm0 k (List.mem_cons_of_mem _ hk))
  have lks : ∀ (v w : V), Lk (m ++ duL v [("step", w)]) "step" w := by
    intro v w
    clear lkm
    induction m with
    | nil => exact .tail (by decide) .head
    | cons q m ih => exact .tail (hm0 q List.mem_cons_self).2 (ih fun k hk => hm0 k (List.mem_cons_of_mem _ hk))
  have pts : ∀ (v : V) (x : List (Str × V)) (w : V), one "step" x → Put (m ++ duL v x) "step" w (m ++ duL v [("step", w)]) := by
    intro v x w hx
    clear lkm lks
    induction m with
    | nil => exact .tail (by decide) (hx.put w)
    | cons q m ih => exact .tail (hm0 q List.mem_cons_self).2 (ih fun k hk => hm0 k (List.mem_cons_of_mem _ hk))
  have ptd : ∀ (v : V) (x : List (Str × V)) (w : V), Put (m ++ duL v x) "due" w (m ++ duL w x) := by
    intro v x w
    clear lkm lks pts
    induction m with
    | nil => exact .head
    | cons q m ih => exact .tail (hm0 q List.mem_cons_self).1 (ih fun k hk => hm0 k (List.mem_cons_of_mem _ hk))
  intro r
  induction r with
  | nil =>
    intro i a b x ed ha hb hx h
    exact LOOP.step (NXT.listEnd hr (LstAt.mem (.tail _ (.tail _ hst))) (map_none (drop_end ed)) (.tail .head) (h x))
  | cons d r ih =>
    intro i a b x ed ha hb hx h
    rw [List.length_cons] at hb
    obtain ⟨e1, e2⟩ := drop_hit ed
    have hd := hbs d (List.mem_of_getElem? e1)
    refine LOOP.step (NXT.list (LstAt.mem (.tail _ (.tail _ hst))) (map_some e1) (.tail .head) (BND.name ?_))
    refine STO.local he (by walk_at "lk") (pts _ _ _ hx) .head ?_
    refine ST.cons (SX.assign (EV.bin ?_))
    refine EV.name (LD.local he (by walk_at "lk") (.head _) (lkm _ _) ?_)
    refine EV.name (LD.local he (by walk_at "lk") (.head _) (lks _ _) (BIN.mul (IntMulOk.of_le ha hd (by omega)) ?_))
    refine STO.local he (by walk_at "lk") (ptd _ _ _) .head (ST.nil ?_)
    exact ih (i + 1) _ (b + 1000) _ e2 (intBits_mul_le ha hd) (by omega) (.inr ⟨_, rfl⟩) h
end

end
section
set_option maxRecDepth 4000
open Builtin.Int (intBits)

structure LawOk (ds : List Int) (items : List It) (f : Nat) (fd : List Str) (es : List (Str × Int)) (wf : List (Str × List (Str × (Int × Int)))) (steps : List Int) (m' : List (Int × Int)) (toll : Int) : Prop where
  tx : (textOf ds).cps.toList = itText items
  ok : ∀ i ∈ items, i.Ok
  ne : items ≠ []
  sz : (itText items).length < 600
  cl : climbAll f (items.map (·.w)) [] [] = some (fd, es)
  pm : fd.Perm (treeOf ds).nm
  ln : lnA 1 (items.map (·.d)) = 1 + (Txt.count (textOf ds) "\n" : Int)
  st : (treeOf ds).nm.tail.map (getG (treeOf ds).ln) = steps.map some
  n0 : 1 ≤ steps.length
  n4 : steps.length ≤ 4
  cc : (es.map (·.2)).sum = 2 * (steps.length : Int)
  wg : wGates ad2 (fun g => (getG (treeOf ds).ln g).map fun l => ((1 : Int), l)) fd ((treeOf ds).nm.getD 0 "") fd (w0 fd []) = some wf
  wc : ∀ t ∈ fd, ∀ g ∈ fd, WC t g
  he : ∀ t ∈ fd, ∃ e, getG es t = some e
  hb : ∀ h ∈ fd, ∀ t ∈ fd, intBits (shareOf es t) ≤ 1000 ∧ intBits (wayOf wf h t).1 ≤ 1000 ∧ intBits (wayOf wf h t).2 ≤ 1000
  hrow : ∀ h ∈ fd, (∃ p, getG wf h = some p) ∧ hopsF es wf h fd 0 = steps.length ∧ farF es wf h fd 0 = steps.sum
  tl : toll = (ds.getLastD 0).fdiv 2
  bt : intBits toll ≤ 900
  bs : ∀ s ∈ steps, intBits s ≤ 900
  br : ∀ h ∈ fd, ∀ t ∈ fd, intBits (toll + (wayOf wf h t).2) ≤ 200
  dp : dpRowsI fd.length (fd.map fun h => fd.map fun t => toll + (wayOf wf h t).2) [(0, 1)] = some m'
  dv : getH m' (2 ^ fd.length - 1) = some (steps.foldl (· * ·) ((-1) ^ steps.length * 2 ^ (steps.length - 1) * (steps.sum + 2 * toll)))

theorem Chn.keys {ks : List Str} {x : List (Str × V)} (h : Chn ks x) : ∀ p ∈ x, p.1 ∈ ks := by
  induction h with
  | nil => intro p hp; cases hp
  | cons h ih =>
    intro p hp
    rcases List.mem_cons.mp hp with rfl | hp
    · exact List.mem_cons_self
    · exact List.mem_cons_of_mem _ (ih p hp)
theorem put_end {m : List (Str × V)} {k : Str} (h : ∀ p ∈ m, (k == p.1) = false) (v : V) : Put m k v (m ++ ([(k, v)] : List (Str × V))) := by
  induction m with
  | nil => exact .nil
  | cons q m ih => exact .tail (h q List.mem_cons_self) (ih fun p hp => h p (List.mem_cons_of_mem _ hp))
theorem lk_end {m z : List (Str × V)} {k : Str} (h : ∀ p ∈ m, (k == p.1) = false) (v : V) : Lk (m ++ ((k, v) :: z : List (Str × V))) k v := by
  induction m with
  | nil => exact .head
  | cons q m ih => exact .tail (h q List.mem_cons_self) (ih fun p hp => h p (List.mem_cons_of_mem _ hp))
theorem sum_bits : ∀ (l : List Int) (b : Nat), (∀ s ∈ l, intBits s ≤ b) → intBits l.sum ≤ b + l.length
  | [], b, h => Nat.le_trans bits0 (Nat.zero_le _)
  | s :: l, b, h => by
    have h1 := sum_bits l b fun s hs => h s (List.mem_cons_of_mem _ hs)
    have h2 := h s List.mem_cons_self
    have := intBits_add_le h2 h1
    rw [List.sum_cons, List.length_cons]
    omega

theorem RIn.mono' {M M' : Led} {e r} (x : RIn M e r) (h : ∀ t xs, (t, Cell.list xs) ∈ M → (t, Cell.list xs) ∈ M') : RIn M' e r := by
  induction x with
  | nil => exact .nil
  | cons m _ ih => exact .cons (h _ _ m) ih
section
variable {C : Cx} {A : Around} {env : Env} {N N' N1 N2 M P P' X : Led} {K : Frag} {n : Nat} {x : Str} {L fa : Addr}

theorem bump {a : Addr × Cell} {P N : Led} : (a :: (P ++ N)).Perm (P ++ a :: N) := List.perm_middle.symm

theorem law_tail2 (B : Base C) (hr : Room (n + 7) A) {c1 c2 c3 c4 en sd nmA wd st : Addr} {sc : V} {lx : Addr} {eep wep : Nat} {ds : List Int} {items : List It} {f : Nat} {fd : List Str} {es : List (Str × Int)} {wf : List (Str × List (Str × (Int × Int)))} {steps : List Int} {m' : List (Int × Int)} {toll : Int} {we : List (Str × V)} {tx : Str}
    (he : EnvOk env L nmL (csL c1 c2 c3 c4)) (hz : ds.length = 4 ∨ ds.length = 5) (O : LawOk ds items f fd es wf steps m' toll) (hfl : fd.length = steps.length + 1) {Q : V → Led → Prop} (h : ∀ N', Q (.bool true) N')
    (h1 : (st, Cell.list (steps.map .int)) ∈ N) (h2 : (fa, Cell.list (fd.map .str)) ∈ N) (h3 : (en, Cell.dictS (mapG .int es) eep) ∈ N) (h4 : (c3, Cell.cell (some (.ref wd))) ∈ N) (h5 : (c2, Cell.cell (some (.ref fa))) ∈ N) (h6 : (sd, Cell.list (ds.map .int)) ∈ N) (h7 : (wd, Cell.dictS we wep) ∈ N) (hw : WIn N we wf) :
    ST C A env ((bodyOf fd219).drop 8) (End Q) ((L, .ns (lns sc sd nmA tx lx en st [])) :: (c4, .cell none) :: N) := by
  have hn4 := O.n4
  have hn0 := O.n0
  refine ST.cons (SX.for_ ?_)
  refine EV.name (LD.cell he (by walk_at "lk") (by walk_at "lk") (.tail _ (.tail _ h5)) ?_)
  refine ITR.list (LstAt.mem (.tail _ (.tail _ h2))) (fun it => ?_)
  refine LOOP.re (N1 := (L, .ns (lns sc sd nmA tx lx en st [])) :: (it, .flds "list_iterator" [.ref fa, .int (0 : Nat) 0]) :: (c4, .cell none) :: N) ?_ (List.Sublist.refl _) (.swap _ _ _)
  refine loop_he (n := n + 4) (fd := fd) (es := es) (wf := wf) (steps := steps) B hr he (.tail _ h2) (.tail _ h5) (.tail _ h4) (.tail _ h3) (.tail _ h7) (.tail _ h1) (by omega) (hw.mono fun q hq => .tail _ hq) O.he O.hb O.hrow fd 0 [] rfl .nil (fun x hx => ?_)
  have hk := hx.keys
  -- toll
  refine ST.cons (SX.assign (EV.bin (EV.sub ?_)))
  refine EV.name (LD.local he (by walk_at "lk") (.head _) (by walk_at "lk") ?_)
  have hlast : (ds.map V.int)[(-1 + ((ds.map V.int).length : Int)).toNat]? = some (V.int (ds.getLastD 0)) := by
    have : (-1 + ((ds.map V.int).length : Int)).toNat = ds.length - 1 := by rw [List.length_map]; omega
    rw [this, List.getElem?_map]
    have hlt : ds.length - 1 < ds.length := by omega
    rw [List.getElem?_eq_getElem hlt, List.getLastD_eq_getLast?, List.getLast?_eq_getElem?, List.getElem?_eq_getElem hlt]; rfl
  refine EV.una (EV.cint (UNA.neg (SUB.list (LstAt.mem (.tail _ (.tail _ h6))) (GIT.listNeg (LstAt.mem (.tail _ (.tail _ h6))) (by decide) (by rw [List.length_map]; omega) (by decide) hlast ?_))))
  refine EV.cint (BIN.fdiv (by decide) (PyProof.noPylong_small (by decide)) ?_)
  rw [← O.tl]
  refine STO.cell he (by walk_at "lk") (by walk_at "lk") (.tail .head) ?_
  -- table
  refine ST.cons ?_
  refine SX.assignList (names := [(".0", .local), ("here", .cell), ("found", .free), ("toll", .free), ("ways", .free)]) (cl := [("ways", c3), ("toll", c4), ("found", c2)]) he rfl rfl ?_ (swaps_loc he rfl rfl rfl)
  refine EV.name (LD.cell he (by walk_at "lk") (by walk_at "lk") (.tail _ (.tail _ h5)) ?_)
  refine ITR.list (LstAt.mem (.tail _ (.tail _ h2))) (fun it2 => fun ta L2 ch cenv he2 => ⟨SELF.list (.tail _ (.tail _ (.tail _ (.head _)))), ?_⟩)
  refine CLOOP.re (N1 := (ch, .cell none) :: (L2, .ns []) :: (it2, .flds "list_iterator" [.ref fa, .int (0 : Nat) 0]) :: (ta, .list []) :: ((L, .ns (lns sc sd nmA tx lx en st x)) :: (c4, .cell (some (.int toll))) :: N)) ?_ (List.Sublist.refl _) (.cons _ (.cons _ (.swap _ _ _)))
  refine comp_tab (n := n + 5) (c2 := c2) (fd := fd) (wf := wf) (we := we) (wep := wep) (toll := toll) B hr he2 (by omega) (fun h hh => (O.hrow h hh).1) fd 0 [] [] none _ (.tail _ (.tail _ h2)) (.tail _ (.tail _ h5)) (.tail _ (.tail _ h4)) (.tail _ (.head _)) (.tail _ (.tail _ h7)) (hw.mono fun q hq => .tail _ (.tail _ hq)) rfl (by simp; omega) .nil (fun rs v T hT => ?_)
  rw [List.nil_append] at hT
  have hkt : ∀ (k : Str), k ∉ chH → (∀ p ∈ lns sc sd nmA tx lx en st [], (k == p.1) = false) → ∀ p ∈ lns sc sd nmA tx lx en st x, (k == p.1) = false := by
    intro k hk0 hl p hp
    have e : lns sc sd nmA tx lx en st x = lns sc sd nmA tx lx en st [] ++ x := rfl
    rw [e] at hp
    rcases List.mem_append.mp hp with hp | hp
    · exact hl p hp
    · have := hk p hp
      rw [beq_eq_false_iff_ne]
      intro e
      rw [e] at hk0
      exact hk0 this
  have hb7 : ∀ (k : Str), k ∉ (["script", "seeds", "names", "text", "lexer", "ends", "steps"] : List Str) → ∀ p ∈ lns sc sd nmA tx lx en st [], (k == p.1) = false := by
    intro k hk0 p hp
    rw [beq_eq_false_iff_ne]
    intro e
    apply hk0
    rw [e]
    have : (lns sc sd nmA tx lx en st []).map (·.1) = (["script", "seeds", "names", "text", "lexer", "ends", "steps"] : List Str) := rfl
    rw [← this]
    exact List.mem_map_of_mem hp
  have kT := hkt "table" (by decide) (hb7 _ (by decide))
  have kD := hkt "due" (by decide) (hb7 _ (by decide))
  have kS := hkt "step" (by decide) (hb7 _ (by decide))
  refine STO.local he (by walk_at "lk") (m' := lns sc sd nmA tx lx en st x ++ ([("table", .ref ta)] : List (Str × V))) (put_end kT _) (N' := (ch, .cell v) :: (L2, .ns []) :: (ta, .list rs) :: (T ++ ((L, .ns (lns sc sd nmA tx lx en st x ++ ([("table", .ref ta)] : List (Str × V)))) :: (c4, .cell (some (.int toll))) :: N))) (.tail (.tail (.tail (Upd.pre .head T)))) ⟨_, _, .tail .head, ?_⟩
  refine W.weak (N' := (ta, .list rs) :: (T ++ ((L, .ns (lns sc sd nmA tx lx en st x ++ ([("table", .ref ta)] : List (Str × V)))) :: (c4, .cell (some (.int toll))) :: N))) ?_ (List.sublist_cons_self ..)
  refine W.perm (N' := (L, .ns (lns sc sd nmA tx lx en st (x ++ ([("table", .ref ta)] : List (Str × V))))) :: ((ta, .list rs) :: (T ++ ((c4, .cell (some (.int toll))) :: N)))) ?_ (List.perm_middle (l₁ := (ta, Cell.list rs) :: T)).symm
  show ST C A env ((bodyOf fd219).drop 11) (End Q) _
  have g1 : (st, Cell.list (steps.map .int)) ∈ (ta, Cell.list rs) :: (T ++ ((c4, Cell.cell (some (.int toll))) :: N)) := .tail _ (List.mem_append_right _ (.tail _ h1))
  have g4 : (c4, Cell.cell (some (.int toll))) ∈ (ta, Cell.list rs) :: (T ++ ((c4, Cell.cell (some (.int toll))) :: N)) := .tail _ (List.mem_append_right _ (.head _))
  have lx4 : steps.length < 2 ^ 62 := by omega
  -- due
  have bn : (Builtin.Int.intBits (-1) : Int) * (steps.length : Int) ≤ 2 ^ 27 := by
    have : Builtin.Int.intBits (-1) = 1 := by decide
    rw [this]; omega
  have b2 : (Builtin.Int.intBits 2 : Int) * ((steps.length : Int) - 1) ≤ 2 ^ 27 := by
    have : Builtin.Int.intBits 2 = 2 := by decide
    rw [this]; omega
  have p1 : intBits ((-1 : Int) ^ steps.length) ≤ 20 := Nat.le_trans (intBits_pow_le (m := 1) (by decide) steps.length) (by omega)
  have p2 : intBits ((2 : Int) ^ (steps.length - 1)) ≤ 20 := Nat.le_trans (intBits_pow_le (m := 2) (by decide) (steps.length - 1)) (by omega)
  have p3 := sum_bits steps 900 O.bs
  have p4 : intBits (2 * toll) ≤ 2 + 900 := intBits_mul_le (by decide) O.bt
  have p5 := intBits_add_le p3 p4
  have p6 := intBits_mul_le p1 p2
  have p7 := intBits_mul_le p6 p5
  refine ST.cons (SX.assign (EV.bin (EV.bin (EV.bin (EV.una (EV.cint (UNA.neg (EV.call (EV.name (LD.blt he (by walk_at "lk") B.b_len (EVS.cons ?_)))))))))))
  refine EV.name (LD.local he (by walk_at "lk") (.head _) (by walk_at "lk") ?_)
  refine EVS.nil ⟨KEEP.bi, CALL.lenList (LstAt.mem (.tail _ g1)) (by rw [List.length_map]; exact lx4) ?_⟩
  rw [List.length_map]
  refine BIN.pow (by omega) bn (EV.bin (EV.cint (EV.bin (EV.call (EV.name (LD.blt he (by walk_at "lk") B.b_len (EVS.cons ?_)))))))
  refine EV.name (LD.local he (by walk_at "lk") (.head _) (by walk_at "lk") ?_)
  refine EVS.nil ⟨KEEP.bi, CALL.lenList (LstAt.mem (.tail _ g1)) (by rw [List.length_map]; exact lx4) ?_⟩
  rw [List.length_map]
  refine EV.cint (BIN.sub (BIN.pow (by omega) b2 ?_))
  rw [show ((steps.length : Int)).toNat = steps.length by omega, show ((steps.length : Int) - 1).toNat = steps.length - 1 by omega]
  refine BIN.mul (IntMulOk.of_le p1 p2 (by omega)) (EV.bin (EV.call (EV.name (LD.blt he (by walk_at "lk") B.b_sum (EVS.cons ?_)))))
  refine EV.name (LD.local he (by walk_at "lk") (.head _) (by walk_at "lk") ?_)
  refine EVS.nil ⟨KEEP.bi, CALL.sum hr (LstAt.mem (.tail _ g1)) (EV.bin (EV.cint ?_))⟩
  refine EV.name (LD.cell he (by walk_at "lk") (by walk_at "lk") (.tail _ g4) ?_)
  refine BIN.mul (IntMulOk.of_le (m := 2) (n := 900) (by decide) O.bt (by decide)) (BIN.add (BIN.mul (IntMulOk.of_le p6 p5 (by omega)) ?_))
  have kD2 : ∀ p ∈ lns sc sd nmA tx lx en st (x ++ ([("table", .ref ta)] : List (Str × V))), (("due" : Str) == p.1) = false := by
    intro p hp
    have e : lns sc sd nmA tx lx en st (x ++ ([("table", .ref ta)] : List (Str × V))) = lns sc sd nmA tx lx en st x ++ ([("table", .ref ta)] : List (Str × V)) := rfl
    rw [e] at hp
    rcases List.mem_append.mp hp with hp | hp
    · exact kD p hp
    · rw [List.mem_singleton] at hp
      subst hp
      show (("due" : Str) == ("table" : Str)) = false
      decide
  have kS2 : ∀ p ∈ lns sc sd nmA tx lx en st (x ++ ([("table", .ref ta)] : List (Str × V))), (("step" : Str) == p.1) = false := by
    intro p hp
    have e : lns sc sd nmA tx lx en st (x ++ ([("table", .ref ta)] : List (Str × V))) = lns sc sd nmA tx lx en st x ++ ([("table", .ref ta)] : List (Str × V)) := rfl
    rw [e] at hp
    rcases List.mem_append.mp hp with hp | hp
    · exact kS p hp
    · rw [List.mem_singleton] at hp
      subst hp
      show (("step" : Str) == ("table" : Str)) = false
      decide
  refine STO.local he (by walk_at "lk") (m' := lns sc sd nmA tx lx en st (x ++ ([("table", .ref ta)] : List (Str × V)) ++ duL (.int ((-1) ^ steps.length * 2 ^ (steps.length - 1) * (steps.sum + 2 * toll))) [])) (put_end kD2 _) .head ?_
  refine ST.cons (SX.for_ ?_)
  refine EV.name (LD.local he (by walk_at "lk") (.head _) (by walk_at "lk") ?_)
  refine ITR.list (LstAt.mem (.tail _ g1)) (fun it3 => ?_)
  refine LOOP.re (N1 := (L, .ns (lns sc sd nmA tx lx en st (x ++ ([("table", .ref ta)] : List (Str × V))) ++ duL (.int ((-1) ^ steps.length * 2 ^ (steps.length - 1) * (steps.sum + 2 * toll))) [])) :: (it3, .flds "list_iterator" [.ref st, .int (0 : Nat) 0]) :: ((ta, .list rs) :: (T ++ ((c4, .cell (some (.int toll))) :: N)))) ?_ (List.Sublist.refl _) (.swap _ _ _)
  refine loop_du (n := n) (steps := steps) (m := lns sc sd nmA tx lx en st (x ++ ([("table", .ref ta)] : List (Str × V)))) B (hr.mono (by omega)) he g1 (fun s hs => Nat.le_trans (O.bs s hs) (by decide)) (fun k hk => ⟨kD2 k hk, kS2 k hk⟩) steps 0 _ 2000 [] rfl (Nat.le_trans p7 (by omega)) (by omega) (.inl rfl) (fun z => ?_)
  -- the end
  refine ST.cons (SX.ret (EV.cmp (EV.call (EV.name (LD.glob he (by walk_at "lk") B.g__law_determinant (EVS.cons ?_))))))
  have lkT : Lk (lns sc sd nmA tx lx en st (x ++ ([("table", .ref ta)] : List (Str × V))) ++ duL (.int (steps.foldl (· * ·) ((-1) ^ steps.length * 2 ^ (steps.length - 1) * (steps.sum + 2 * toll)))) z) "table" (.ref ta) := by
    have e : lns sc sd nmA tx lx en st (x ++ ([("table", .ref ta)] : List (Str × V))) ++ duL (.int (steps.foldl (· * ·) ((-1) ^ steps.length * 2 ^ (steps.length - 1) * (steps.sum + 2 * toll)))) z = lns sc sd nmA tx lx en st x ++ ((("table", .ref ta) : Str × V) :: duL (.int (steps.foldl (· * ·) ((-1) ^ steps.length * 2 ^ (steps.length - 1) * (steps.sum + 2 * toll)))) z) := by
      show lns sc sd nmA tx lx en st x ++ ([("table", .ref ta)] : List (Str × V)) ++ _ = _
      rw [List.append_assoc]; rfl
    rw [e]
    exact lk_end kT _
  refine EV.name (LD.local he (by walk_at "lk") (.head _) lkT ?_)
  have hrl : (fd.map fun h => fd.map fun t => toll + (wayOf wf h t).2).length = fd.length := List.length_map _
  refine EVS.nil ⟨KEEP.fn B.f214, CALL.fn (f214 (n := n + 4) (v := steps.foldl (· * ·) ((-1) ^ steps.length * 2 ^ (steps.length - 1) * (steps.sum + 2 * toll))) (m' := m') (rows := fd.map fun h => fd.map fun t => toll + (wayOf wf h t).2) B hr (.tail _ (.head _)) (rs := rs) ?_ (by rw [hrl]; omega) ?_ (by rw [hrl]; exact O.dp) (by rw [hrl]; exact O.dv) ?_)⟩
  · refine (hT.mono' fun t xs hq => ?_)
    simp only [List.mem_append, List.mem_cons, Prod.mk.injEq, reduceCtorEq, and_false, false_or] at hq ⊢
    rcases hq with hq | hq <;> simp [hq]
  · intro row hrow v hv
    obtain ⟨h', hh', rfl⟩ := List.mem_map.mp hrow
    obtain ⟨t', ht', rfl⟩ := List.mem_map.mp hv
    exact O.br h' hh' t' ht'
  refine EV.name (LD.local he (by walk_at "lk") (.head _) (lk_end kD2 _) (CMP.eqi ?_))
  rw [beq_self_eq_true]
  exact ⟨_, List.Sublist.refl _, h _⟩
theorem law_tail (B : Base C) (hpt : PySem.Flt.IsPattern C.h₀ 36 patR) (ht : tAdd ∈ C.tabs) (hb : C.h₀.BuiltinsAt C.mg 157) (hr : Room (n + 7) A) {c1 c2 c3 c4 en sd nmA ln : Addr} {sc : V} {lx : Addr} {eep lep : Nat} {ds : List Int} {items : List It} {f : Nat} {fd : List Str} {es : List (Str × Int)} {wf : List (Str × List (Str × (Int × Int)))} {steps : List Int} {m' : List (Int × Int)} {toll : Int}
    (he : EnvOk env L nmL (csL c1 c2 c3 c4)) (hz : ds.length = 4 ∨ ds.length = 5) (O : LawOk ds items f fd es wf steps m' toll) {Q : V → Led → Prop} (h : ∀ N', Q (.bool true) N') :
    ST C A env ((bodyOf fd219).drop 5) (End Q) ((L, .ns [("script", sc), ("seeds", .ref sd), ("names", .ref nmA), ("text", .str (textOf ds)), ("lexer", .ref lx), ("ends", .ref en)]) :: (fa, .list (fd.map .str)) :: (en, .dictS (mapG .int es) eep) :: (c4, .cell none) :: (c3, .cell none) :: (c2, .cell (some (.ref fa))) :: (c1, .cell (some (.ref ln))) :: (sd, .list (ds.map .int)) :: (nmA, .list ((treeOf ds).nm.map .str)) :: (ln, .dictS (mapG .int (treeOf ds).ln) lep) :: N) := by
  have hn4 := O.n4
  have hn0 := O.n0
  have hnl : (treeOf ds).nm.length = steps.length + 1 := by
    have h1 := congrArg List.length O.st
    rw [List.length_map, List.length_tail, List.length_map] at h1
    omega
  have hfl : fd.length = steps.length + 1 := by rw [O.pm.length_eq, hnl]
  -- steps
  refine ST.cons ?_
  refine SX.assignList (names := [(".0", .local), ("name", .local), ("lengths", .free)]) (cl := [("lengths", c1)]) he rfl rfl ?_ (swaps_loc he rfl rfl rfl)
  refine EV.listFrom ?_
  refine EV.name (LD.local he (by walk_at "lk") (.head _) (by walk_at "lk") ?_)
  refine EV.cint ⟨nmA, _, 1, rfl, LstAt.mem (.tail _ (.tail _ (.tail _ (.tail _ (.tail _ (.tail _ (.tail _ (.tail _ (.head _))))))))), by rw [List.length_map, sizeLine_eq]; omega, rfl, fun na => ?_⟩
  rw [show ((treeOf ds).nm.map V.str).drop 1 = ((treeOf ds).nm.tail).map V.str by rw [List.drop_one, List.map_tail]]
  refine ITR.list (LstAt.mem (.head _)) (fun it => fun st L' cenv he' => ⟨SELF.list (.tail _ (.tail _ (.head _))), ?_⟩)
  refine CLOOP.re (N1 := (L', .ns []) :: (it, .flds "list_iterator" [.ref na, .int (0 : Nat) 0]) :: (st, .list (([] : List Int).map .int)) :: (na, .list (((treeOf ds).nm.tail).map .str)) :: (L, .ns [("script", sc), ("seeds", .ref sd), ("names", .ref nmA), ("text", .str (textOf ds)), ("lexer", .ref lx), ("ends", .ref en)]) :: (fa, .list (fd.map .str)) :: (en, .dictS (mapG .int es) eep) :: (c4, .cell none) :: (c3, .cell none) :: (c2, .cell (some (.ref fa))) :: (c1, .cell (some (.ref ln))) :: (sd, .list (ds.map .int)) :: (nmA, .list ((treeOf ds).nm.map .str)) :: (ln, .dictS (mapG .int (treeOf ds).ln) lep) :: N) ?_ (List.Sublist.refl _) (.cons _ (.swap _ _ _))
  refine comp_st (c1 := c1) (ln := ln) (n := n) (ls := (treeOf ds).ln) (lp := lep) B (hr.mono (by omega)) he' (.head _) (.tail _ (.tail _ (.tail _ (.tail _ (.tail _ (.tail _ (.tail _ (.head _)))))))) (.tail _ (.tail _ (.tail _ (.tail _ (.tail _ (.tail _ (.tail _ (.tail _ (.tail _ (.tail _ (.head _))))))))))) (treeOf ds).nm.tail 0 [] steps [] rfl (by rw [List.length_tail]; simp; omega) O.st (.inl rfl) (fun x => ?_)
  rw [List.nil_append]
  refine STO.local he (by walk_at "lk") (m' := lns sc sd nmA (textOf ds) lx en st []) (.tail (by decide) (.tail (by decide) (.tail (by decide) (.tail (by decide) (.tail (by decide) (.tail (by decide) .nil)))))) (.tail (.tail (.tail .head))) ⟨_, _, .head, ?_⟩
  refine W.weak (N' := (st, .list (steps.map .int)) :: (L, .ns (lns sc sd nmA (textOf ds) lx en st [])) :: (fa, .list (fd.map .str)) :: (en, .dictS (mapG .int es) eep) :: (c4, .cell none) :: (c3, .cell none) :: (c2, .cell (some (.ref fa))) :: (c1, .cell (some (.ref ln))) :: (sd, .list (ds.map .int)) :: (nmA, .list ((treeOf ds).nm.map .str)) :: (ln, .dictS (mapG .int (treeOf ds).ln) lep) :: N) ?_ (.cons_cons _ (List.sublist_cons_self ..))
  refine W.perm (N' := (L, .ns (lns sc sd nmA (textOf ds) lx en st [])) :: (st, .list (steps.map .int)) :: (fa, .list (fd.map .str)) :: (en, .dictS (mapG .int es) eep) :: (c4, .cell none) :: (c3, .cell none) :: (c2, .cell (some (.ref fa))) :: (c1, .cell (some (.ref ln))) :: (sd, .list (ds.map .int)) :: (nmA, .list ((treeOf ds).nm.map .str)) :: (ln, .dictS (mapG .int (treeOf ds).ln) lep) :: N) ?_ (.swap _ _ _)
  show ST C A env ((bodyOf fd219).drop 6) (End Q) _
  -- count_calls
  refine ST.cons (SX.ifs (IST.cmp (EV.call (EV.name (LD.glob he (by walk_at "lk") B.g_count_calls (EVS.cons ?_))))))
  refine EV.name (LD.local he (by walk_at "lk") (.head _) (by walk_at "lk") ?_)
  refine EVS.nil ⟨KEEP.fn B.f169, CALL.fn (f169 (n := n) B (hr.mono (by omega)) (k1 := es) (.tail _ (.tail _ (.tail _ (.head _)))) ?_)⟩
  refine EV.bin (EV.cint (EV.call (EV.name (LD.blt he (by walk_at "lk") B.b_len (EVS.cons ?_)))))
  refine EV.name (LD.local he (by walk_at "lk") (.head _) (by walk_at "lk") ?_)
  refine EVS.nil ⟨KEEP.bi, CALL.lenList (LstAt.mem (.tail _ (.head _))) (by rw [List.length_map]; omega) ?_⟩
  rw [List.length_map]
  have b4 : intBits (steps.length : Int) ≤ 64 := intBits_cast_le (by rw [sizeLine_eq]; omega)
  refine BIN.mul (IntMulOk.of_le (m := 2) (n := 64) (by decide) b4 (by decide)) (CMP.nei (TRU.bool ?_))
  rw [O.cc, bne_self_eq_false]
  rw [if_neg Bool.false_ne_true]
  -- ways
  refine ST.nil (ST.cons (SX.assign (EV.call (EV.name (LD.glob he (by walk_at "lk") B.g__law_ways (EVS.cons ?_))))))
  refine EV.name (LD.cell he (by walk_at "lk") (by walk_at "lk") (.tail _ (.tail _ (.tail _ (.tail _ (.tail _ (.tail _ (.head _))))))) (EVS.cons (EV.sub ?_)))
  refine EV.name (LD.local he (by walk_at "lk") (.head _) (by walk_at "lk") (EV.cint ?_))
  have hnm : (nmA, Cell.list ((treeOf ds).nm.map .str)) ∈ (L, Cell.ns (lns sc sd nmA (textOf ds) lx en st [])) :: (st, Cell.list (steps.map .int)) :: (fa, Cell.list (fd.map .str)) :: (en, Cell.dictS (mapG .int es) eep) :: (c4, Cell.cell none) :: (c3, Cell.cell none) :: (c2, Cell.cell (some (.ref fa))) :: (c1, Cell.cell (some (.ref ln))) :: (sd, Cell.list (ds.map .int)) :: (nmA, Cell.list ((treeOf ds).nm.map .str)) :: (ln, Cell.dictS (mapG .int (treeOf ds).ln) lep) :: N := .tail _ (.tail _ (.tail _ (.tail _ (.tail _ (.tail _ (.tail _ (.tail _ (.tail _ (.head _)))))))))
  have h00 : ((treeOf ds).nm.map V.str)[(0 : Int).toNat]? = some (.str ((treeOf ds).nm.getD 0 "")) := by
    show ((treeOf ds).nm.map V.str)[0]? = _
    rw [List.getElem?_map, List.getD_eq_getElem?_getD, List.getElem?_eq_getElem (by omega)]; rfl
  refine SUB.list (LstAt.mem hnm) (GIT.list (LstAt.mem hnm) (by decide) (by decide) h00 (EVS.cons ?_))
  refine EV.name (LD.cell he (by walk_at "lk") (by walk_at "lk") (.tail _ (.tail _ (.tail _ (.tail _ (.tail _ (.tail _ (.tail _ (.head _)))))))) ?_)
  refine EVS.nil ⟨KEEP.fn B.f207, CALL.fn (f207 (n := n) B hpt ht hb (hr.mono (by omega)) (by omega) O.wc (.tail _ (.tail _ (.head _))) (.tail _ (.tail _ (.tail _ (.tail _ (.tail _ (.tail _ (.tail _ (.tail _ (.tail _ (.tail _ (.head _))))))))))) O.wg (fun wd we wep T hT => ?_))⟩
  refine STO.cell he (by walk_at "lk") (by walk_at "lk") (.tail (Upd.pre (.tail (.tail (.tail (.tail (.tail .head))))) _)) ?_
  show ST C A env ((bodyOf fd219).drop 8) (End Q) _
  refine W.perm (N' := (L, .ns (lns sc sd nmA (textOf ds) lx en st [])) :: (c4, .cell none) :: ((wd, .dictS we wep) :: (T ++ ((st, .list (steps.map .int)) :: (fa, .list (fd.map .str)) :: (en, .dictS (mapG .int es) eep) :: (c3, .cell (some (.ref wd))) :: (c2, .cell (some (.ref fa))) :: (c1, .cell (some (.ref ln))) :: (sd, .list (ds.map .int)) :: (nmA, .list ((treeOf ds).nm.map .str)) :: (ln, .dictS (mapG .int (treeOf ds).ln) lep) :: N)))) ?_ ?_
  rotate_left
  · exact List.Perm.trans (List.perm_append_comm_assoc [_, _] ((wd, Cell.dictS we wep) :: T) _) (List.Perm.append_left ((wd, Cell.dictS we wep) :: T) (.cons _ (List.perm_middle (l₁ := [_, _, _])).symm))
  refine law_tail2 (n := n) (items := items) (f := f) (m' := m') (wf := wf) (we := we) (wep := wep) (wd := wd) B hr he hz O hfl h (.tail _ (List.mem_append_right _ (.head _))) (.tail _ (List.mem_append_right _ (.tail _ (.head _)))) (.tail _ (List.mem_append_right _ (.tail _ (.tail _ (.head _))))) (.tail _ (List.mem_append_right _ (.tail _ (.tail _ (.tail _ (.head _)))))) (.tail _ (List.mem_append_right _ (.tail _ (.tail _ (.tail _ (.tail _ (.head _))))))) (.tail _ (List.mem_append_right _ (.tail _ (.tail _ (.tail _ (.tail _ (.tail _ (.tail _ (.head _))))))))) (.head _) ?_
  refine hT.monoT (fun t xs hq => ?_) (fun t kv kp hq => ?_)
  · simp only [List.mem_append, List.mem_cons, Prod.mk.injEq, reduceCtorEq, and_false, false_or] at hq ⊢
    exact hq
  · simp only [List.mem_append, List.mem_cons, Prod.mk.injEq, reduceCtorEq, and_false, false_or] at hq ⊢
    rcases hq with hq | hq | hq | hq <;> simp [hq]
theorem f219 (B : Base C) (K1 : ClsOk C K) (hpt : PySem.Flt.IsPattern C.h₀ 36 patR) (ht : tAdd ∈ C.tabs) (hb : C.h₀.BuiltinsAt C.mg 157) (htl : tLex ∈ C.tabs) (hbl : C.h₀.BuiltinsAt C.mg 190) (hr : Room (n + 8) A) {sl : Addr} {ns : List Int} (hsl : LstAt C N sl (ns.map .int)) (hnz : ns.length ≤ 100)
    (all : ∀ ds : List Int, (ds.length = 4 ∨ ds.length = 5) → (∀ d ∈ ds, -(10 ^ 12) < d ∧ d < 10 ^ 12) → ∃ items f fd es wf steps m' toll, LawOk ds items f fd es wf steps m' toll) {Q : V → Led → Prop} (h : ∀ N', Q (.bool true) N') : FN C A 219 [.ref sl] Q N := by
  refine FN.enterC (fd := fd219) (ps := ["script"]) (nm := nmL) (n := n + 7) hr (fun R s hs => B.f219.at_ hs) rfl rfl (hb1 fun v => rfl) (fun L c1 c2 c3 c4 env he _ _ => ?_)
  replace he : EnvOk env L nmL (csL c1 c2 c3 c4) := he
  show STO _ _ _ _ _ _ _
  refine STO.local he (by walk_at "lk") (m' := [("script", .ref sl)]) .nil (.tail (.tail (.tail (.tail .head)))) ?_
  intro hr
  refine W.perm (N' := (L, .ns [("script", .ref sl)]) :: (c4, .cell none) :: (c3, .cell none) :: (c2, .cell none) :: (c1, .cell none) :: N) ?_ (List.perm_middle (l₁ := [_, _, _, _]) (l₂ := N)).symm
  show ST C (A.deeper env) env (bodyOf fd219) (End Q) _
  -- seeds
  refine ST.cons (SX.assign (EV.call (EV.name (LD.glob he (by walk_at "lk") B.g__law_seeds (EVS.cons ?_)))))
  refine EV.name (LD.local he (by walk_at "lk") (.head _) (by walk_at "lk") ?_)
  refine EVS.nil ⟨KEEP.fn B.f174, CALL.fn (f174 (n := n) B (hr.mono (by omega)) hsl.cons.cons.cons.cons.cons hnz (fun sd ds hz hds => ?_))⟩
  obtain ⟨items, f, fd, es, wf, steps, m', toll, O⟩ := all ds hz hds
  refine STO.local he (by walk_at "lk") (m' := [("script", .ref sl), ("seeds", .ref sd)]) (.tail (by decide) .nil) (.tail .head) ?_
  -- tree
  refine ST.cons (SX.assignTup (EV.call (EV.name (LD.glob he (by walk_at "lk") B.g__law_tree (EVS.cons ?_)))))
  refine EV.name (LD.local he (by walk_at "lk") (.tail _ (.head _)) (by walk_at "lk") ?_)
  refine EVS.nil ⟨KEEP.fn B.f188, CALL.fn (f188 (n := n) B (hr.mono (by omega)) (LstAt.mem (.head _)) hz (fun t nmA lnA' ep => ?_))⟩
  refine ASN.tup3 hr (TupAt.mem (.head _)) (ASN.name ?_)
  refine STO.local he (by walk_at "lk") (m' := [("script", .ref sl), ("seeds", .ref sd), ("names", .ref nmA)]) (.tail (by decide) (.tail (by decide) .nil)) (.tail (.tail (.tail (.tail .head)))) (ASN.name ?_)
  refine STO.cell he (by walk_at "lk") (by walk_at "lk") (.tail (.tail (.tail (.tail (.tail (.tail (.tail (.tail .head)))))))) (ASN.name ?_)
  refine STO.local he (by walk_at "lk") (m' := [("script", .ref sl), ("seeds", .ref sd), ("names", .ref nmA), ("text", .str (textOf ds))]) (.tail (by decide) (.tail (by decide) (.tail (by decide) .nil))) (.tail (.tail (.tail (.tail .head)))) ?_
  -- lexer
  refine ST.cons (SX.assign (EV.call (EV.name (LD.glob he (by walk_at "lk") B.g__law_lexer (EVS.cons ?_)))))
  refine EV.name (LD.local he (by walk_at "lk") (.tail _ (.tail _ (.tail _ (.tail _ (.head _))))) (by walk_at "lk") ?_)
  have htz : (textOf ds).length < 600 := by
    have h1 := O.sz
    rw [← O.tx, Array.length_toList] at h1
    exact h1
  refine EVS.nil ⟨KEEP.fn B.f195, CALL.fn (f195 (n := n) B K1 htl hbl (hr.mono (by omega)) (by omega) (fun a => ?_))⟩
  rw [O.tx]
  refine STO.local he (by walk_at "lk") (m' := [("script", .ref sl), ("seeds", .ref sd), ("names", .ref nmA), ("text", .str (textOf ds)), ("lexer", .ref a.x)]) (.tail (by decide) (.tail (by decide) (.tail (by decide) (.tail (by decide) .nil)))) (Upd.pre (.tail (.tail (.tail (.tail .head)))) _) ?_
  -- found, ends
  refine ST.cons (SX.assignTup (EV.call (EV.name (LD.glob he (by walk_at "lk") B.g__law_climbed (EVS.cons ?_)))))
  refine EV.name (LD.local he (by walk_at "lk") (List.mem_append_right _ (.tail _ (.tail _ (.tail _ (.tail _ (.head _)))))) (by walk_at "lk") ?_)
  refine EVS.nil ⟨KEEP.fn B.f202, CALL.fn (f202 (n := n) B K1 hpt (hr.mono (by omega)) O.ok O.ne O.sz O.cl (fun tt fa en eep => ?_))⟩
  refine ASN.tup2 hr (TupAt.mem (.head _)) (ASN.name ?_)
  refine STO.cell he (by walk_at "lk") (by walk_at "lk") (.tail (Upd.pre (.tail (.tail (.tail (.tail (.tail (.tail (.tail (.tail (.tail .head))))))))) _)) (ASN.name ?_)
  refine STO.local he (by walk_at "lk") (m' := [("script", .ref sl), ("seeds", .ref sd), ("names", .ref nmA), ("text", .str (textOf ds)), ("lexer", .ref a.x), ("ends", .ref en)]) (.tail (by decide) (.tail (by decide) (.tail (by decide) (.tail (by decide) (.tail (by decide) .nil))))) (.tail (Upd.pre (.tail (.tail (.tail (.tail (.tail (.tail .head)))))) _)) ?_
  -- sorted, lineno
  refine ST.cons (SX.ifs (IST.bool (ALLT.orCons (IST.cmp (EV.call (EV.name (LD.blt he (by walk_at "lk") B.b_sorted (EVS.cons ?_))))))))
  have hn4 := O.n4
  have hnl : (treeOf ds).nm.length = steps.length + 1 := by
    have h1 := congrArg List.length O.st
    rw [List.length_map, List.length_tail, List.length_map] at h1
    have := O.n0
    omega
  have hfl : fd.length = steps.length + 1 := by rw [O.pm.length_eq, hnl]
  have hfa : ∀ Y : Led, (fa, Cell.list (fd.map .str)) ∈ (tt, Cell.tup [.ref fa, .ref en]) :: (lexL a (lnA 1 (items.map (·.d))) [] [] ++ ((fa, Cell.list (fd.map .str)) :: Y)) := fun Y => .tail _ (List.mem_append_right _ (.head _))
  refine EV.name (LD.cell he (by walk_at "lk") (by walk_at "lk") (.tail _ (List.mem_append_right _ (.tail _ (.tail _ (.tail _ (.tail _ (.tail _ (.tail _ (.tail _ (.tail _ (.tail _ (.head _)))))))))))) ?_)
  refine EVS.nil ⟨KEEP.bi, CALL.sorted (LstAt.mem (hfa _)) (by omega) (fun l1 s1 p1 o1 => ?_)⟩
  refine EV.call (EV.name (LD.blt he (by walk_at "lk") B.b_sorted (EVS.cons ?_)))
  refine EV.name (LD.local he (by walk_at "lk") (.tail _ (.tail _ (List.mem_append_right _ (.tail _ (.tail _ (.tail _ (.tail _ (.tail _ (.tail _ (.head _)))))))))) (by walk_at "lk") ?_)
  refine EVS.nil ⟨KEEP.bi, CALL.sorted (ss := (treeOf ds).nm) (LstAt.mem (.tail _ (.tail _ (List.mem_append_right _ (.tail _ (.tail _ (.tail _ (.head _)))))))) (by omega) (fun l2 s2 p2 o2 => ?_)⟩
  have es : s1 = s2 := sorted_unique (p1.trans (O.pm.trans p2.symm)) o1 o2
  subst es
  refine CMP.neListSame hr (LstAt.mem (.tail _ (.head _))) (LstAt.mem (.head _)) (TRU.bool ?_)
  rw [if_neg Bool.false_ne_true]
  refine ALLT.orCons (IST.cmp (EV.attr ?_))
  refine EV.name (LD.local he (by walk_at "lk") (.tail _ (.tail _ (.tail _ (List.mem_append_right _ (.tail _ (.tail _ (.tail _ (.tail _ (.tail _ (.tail _ (.head _))))))))))) (by walk_at "lk") ?_)
  refine GAT.inst K1 (.tail _ (.tail _ (.tail _ (List.mem_append_left _ (.head _))))) (.tail _ (.tail _ (.tail _ (List.mem_append_left _ (.tail _ (.head _)))))) (by decide) .head (by intro _ h; cases h) ?_
  refine EV.bin (EV.cint (EV.meth (pl := ?_) ?_))
  rotate_left
  refine EV.name (LD.local he (by walk_at "lk") (.tail _ (.tail _ (.tail _ (List.mem_append_right _ (.tail _ (.tail _ (.tail _ (.tail _ (.tail _ (.tail _ (.head _))))))))))) (by walk_at "lk") ?_)
  refine gm_str PySem.F.slot_str_count PySem.F.type_str_count (EVS.cons (EV.cstr (EVS.nil ⟨KEEP.bi, CALL.scount (BIN.add ?_)⟩)))
  rw [O.ln]
  refine CMP.nei (TRU.bool ?_)
  rw [bne_self_eq_false]
  rw [if_neg Bool.false_ne_true]
  refine ALLT.orNil ?_
  rw [if_neg Bool.false_ne_true]
  refine ST.nil ?_
  show ST C (A.deeper env) env ((bodyOf fd219).drop 5) (End Q) _
  refine W.weak (N' := (fa, .list (fd.map .str)) :: (en, .dictS (mapG .int es) eep) :: (nmA, .list ((treeOf ds).nm.map .str)) :: (lnA', .dictS (mapG .int (treeOf ds).ln) ep) :: (sd, .list (ds.map .int)) :: (L, .ns [("script", .ref sl), ("seeds", .ref sd), ("names", .ref nmA), ("text", .str (textOf ds)), ("lexer", .ref a.x), ("ends", .ref en)]) :: (c4, .cell none) :: (c3, .cell none) :: (c2, .cell (some (.ref fa))) :: (c1, .cell (some (.ref lnA'))) :: N) ?_ (.cons _ (.cons _ (.cons _ (List.Sublist.trans (.cons_cons _ (.cons_cons _ (.cons _ (List.Sublist.refl _)))) (List.sublist_append_right _ _)))))
  refine W.perm (N' := (L, .ns [("script", .ref sl), ("seeds", .ref sd), ("names", .ref nmA), ("text", .str (textOf ds)), ("lexer", .ref a.x), ("ends", .ref en)]) :: (fa, .list (fd.map .str)) :: (en, .dictS (mapG .int es) eep) :: (c4, .cell none) :: (c3, .cell none) :: (c2, .cell (some (.ref fa))) :: (c1, .cell (some (.ref lnA'))) :: (sd, .list (ds.map .int)) :: (nmA, .list ((treeOf ds).nm.map .str)) :: (lnA', .dictS (mapG .int (treeOf ds).ln) ep) :: N) ?_ ?_
  · exact law_tail (n := n) (items := items) (f := f) (wf := wf) (m' := m') (toll := toll) B hpt ht hb hr he hz O h
  · refine List.Perm.trans (.cons _ (.cons _ (.cons _ (List.Perm.trans (List.perm_append_comm_assoc [_, _, _, _] [_, _, _] N) (List.perm_middle (l₁ := [_, _]) (l₂ := _ :: _ :: _ :: _ :: N)).symm)))) ?_
    exact (List.perm_middle (l₁ := [_, _, _, _, _]) (l₂ := _ :: _ :: _ :: _ :: N)).symm
end

end
section
noncomputable def mapV {β γ : Type} (f : β → γ) (kvs : List (Str × β)) : List (Str × γ) := kvs.map fun p => (p.1, f p.2)
section
variable {β γ : Type} (f : β → γ)
theorem mapV_len (kvs : List (Str × β)) : (mapV f kvs).length = kvs.length := List.length_map _
theorem putG_mapV (kvs : List (Str × β)) (k : Str) (v : β) : putG (mapV f kvs) k (f v) = mapV f (putG kvs k v) := by
  unfold putG mapV
  rw [List.any_map]
  show (if (kvs.any fun kv => decide (kv.1 = k)) = true then _ else _) = _
  split
  · rw [List.map_map, List.map_map]
    congr 1
    funext p
    by_cases h : p.1 = k
    · simp [h]
    · simp [h]
  · simp
theorem getG_mapV (kvs : List (Str × β)) (k : Str) : getG (mapV f kvs) k = (getG kvs k).map f := by
  unfold getG mapV
  induction kvs with
  | nil => rfl
  | cons p r ih =>
    rw [List.map_cons, List.find?_cons, List.find?_cons]
    by_cases h : p.1 = k
    · simp [h]
    · have h1 : decide (p.1 = k) = false := decide_eq_false h
      rw [h1]
      exact ih
theorem cpyG_fold (kvs acc : List (Str × β)) : (mapV f kvs).foldl (fun acc p => putG acc p.1 p.2) (mapV f acc) = mapV f (kvs.foldl (fun acc p => putG acc p.1 p.2) acc) := by
  induction kvs generalizing acc with
  | nil => rfl
  | cons p r ih =>
    show (mapV f r).foldl _ (putG (mapV f acc) p.1 (f p.2)) = _
    rw [putG_mapV]
    exact ih _
theorem cpyG_mapV (kvs : List (Str × β)) : cpyG (mapV f kvs) = mapV f (cpyG kvs) := cpyG_fold f kvs []
theorem bldG_mapV (u : β) (ts : List Str) (acc : List (Str × β)) : bldG (f u) ts (mapV f acc) = mapV f (bldG u ts acc) := by
  induction ts generalizing acc with
  | nil => rfl
  | cons t r ih =>
    show bldG (f u) r (putG (mapV f acc) t (f u)) = _
    rw [putG_mapV]
    exact ih _
variable {ad : β → β → β} {ad' : γ → γ → γ}
theorem addGen_mapV (hf : ∀ x y, f (ad x y) = ad' (f x) (f y)) (acc src : List (Str × β)) : addGen ad' (mapV f acc) (mapV f src) = mapV f (addGen ad acc src) := by
  induction src generalizing acc with
  | nil => rfl
  | cons p r ih =>
    have e : (match getG (mapV f acc) p.1 with | some o => putG (mapV f acc) p.1 (ad' (f p.2) o) | none => putG (mapV f acc) p.1 (f p.2)) = mapV f (match getG acc p.1 with | some o => putG acc p.1 (ad p.2 o) | none => putG acc p.1 p.2) := by
      rw [getG_mapV]
      cases getG acc p.1 with
      | none => exact putG_mapV f _ _ _
      | some o =>
        show putG (mapV f acc) p.1 (ad' (f p.2) (f o)) = _
        rw [← hf]
        exact putG_mapV f _ _ _
    show addGen ad' (match getG (mapV f acc) p.1 with | some o => putG (mapV f acc) p.1 (ad' (f p.2) o) | none => putG (mapV f acc) p.1 (f p.2)) (mapV f r) = _
    rw [e]
    exact ih _
theorem wHeres_mapV (hf : ∀ x y, f (ad x y) = ad' (f x) (f y)) (u : β) (fd : List Str) (g : Str) : ∀ (r : List Str) (w : List (Str × List (Str × β))), wHeres ad' (f u) fd g r (mapV (mapV f) w) = (wHeres ad u fd g r w).map (mapV (mapV f))
  | [], w => rfl
  | h :: r, w => by
    unfold wHeres
    rw [getG_mapV]
    cases getG w h with
    | none => rfl
    | some p =>
      show (if (mapV f p).length ≤ 50 then _ else none) = _
      rw [mapV_len]
      have e1 : bldG (f u) (farW fd g h) [] = mapV f (bldG u (farW fd g h) []) := bldG_mapV f u _ []
      rw [cpyG_mapV, e1, addGen_mapV f hf, putG_mapV (mapV f)]
      dsimp only
      split
      · exact wHeres_mapV hf u fd g r _
      · rfl
theorem wGates_mapV (hf : ∀ x y, f (ad x y) = ad' (f x) (f y)) (u : Str → Option β) (fd : List Str) (top : Str) : ∀ (r : List Str) (w : List (Str × List (Str × β))), wGates ad' (fun g => (u g).map f) fd top r (mapV (mapV f) w) = (wGates ad u fd top r w).map (mapV (mapV f))
  | [], w => rfl
  | g :: r, w => by
    unfold wGates
    split
    · exact wGates_mapV hf u fd top r w
    · cases u g with
      | none => rfl
      | some v =>
        show (match wHeres ad' (f v) fd g fd (mapV (mapV f) w) with | some w' => wGates ad' (fun g => (u g).map f) fd top r w' | none => none) = Option.map (mapV (mapV f)) (match wHeres ad v fd g fd w with | some w' => wGates ad u fd top r w' | none => none)
        rw [wHeres_mapV f hf]
        cases wHeres ad v fd g fd w with
        | none => rfl
        | some w' => exact wGates_mapV hf u fd top r w'
theorem w0_mapV : ∀ (fd : List Str) (acc : List (Str × List (Str × β))), w0 fd (mapV (mapV f) acc) = mapV (mapV f) (w0 fd acc)
  | [], acc => rfl
  | h :: r, acc => by
    show w0 r (putG (mapV (mapV f) acc) h (mapV f [])) = _
    rw [putG_mapV (mapV f)]
    exact w0_mapV r _
end
/-- the tree's names by the shape -/
noncomputable def pars : List Int → Nat → List Nat
  | [], _ => []
  | d :: r, k => (d.fmod ((k + 1 : Nat) : Int)).toNat :: pars r (k + 1)
structure TN where
  nm : List Str
  ab : List Str
  ln : List (Str × Nat)
noncomputable def tnStep (s : TN) (k p : Nat) : TN := ⟨s.nm ++ [lab.getD k "" ++ "." ++ s.nm.getD p ""], s.ab ++ [s.nm.getD p ""], putG s.ln (lab.getD k "" ++ "." ++ s.nm.getD p "") k⟩
noncomputable def tnRun : List Nat → Nat → TN → TN
  | [], _, s => s
  | p :: r, k, s => tnRun r (k + 1) (tnStep s k p)
theorem tn_run (l : Nat → Int) : ∀ (r : List Int) (k : Nat) (s : TS) (t : TN), s.nm = t.nm → s.ab = t.ab → s.ln = mapV l t.ln → s.nm.length = k + 1 → (∀ i, (h : i < r.length) → l (k + i) = r[i].fdiv 96) →
    (trun r k s).nm = (tnRun (pars r k) k t).nm ∧ (trun r k s).ab = (tnRun (pars r k) k t).ab ∧ (trun r k s).ln = mapV l (tnRun (pars r k) k t).ln
  | [], k, s, t, h1, h2, h3, _, _ => ⟨h1, h2, h3⟩
  | d :: r, k, s, t, h1, h2, h3, h4, hl => by
    have e0 : l k = d.fdiv 96 := hl 0 (by simp)
    refine tn_run l r (k + 1) (tstep s k d) (tnStep t k (d.fmod ((k + 1 : Nat) : Int)).toNat) ?_ ?_ ?_ ?_ (fun i hi => ?_)
    · show s.nm ++ _ = t.nm ++ _
      rw [h4, h1]
    · show s.ab ++ _ = t.ab ++ _
      rw [h4, h2, h1]
    · show putG s.ln _ _ = mapV l (putG t.ln _ k)
      rw [← putG_mapV, h3, h4, h1, e0]
    · show (s.nm ++ _).length = _
      rw [List.length_append, h4]; rfl
    · have := hl (i + 1) (by simp; omega)
      rw [show k + 1 + i = k + (i + 1) by omega, this]
      rfl

end
section
noncomputable abbrev Fn := (Nat → Int) → Int
/-- polynomials in x 0 .. x (n-1): sum of the coefficients' sizes ≤ B, total degree ≤ d -/
inductive Pol : Nat → Nat → Nat → Fn → Prop
  | const {B d : Nat} {c : Int} {f : Fn} : (∀ x, f x = c) → c.natAbs ≤ B → Pol 0 B d f
  | low {n B d : Nat} {f : Fn} : Pol n B d f → Pol (n + 1) B d f
  | horner {n B1 B2 d : Nat} {f g h : Fn} : Pol n B1 (d + 1) f → Pol (n + 1) B2 d g → (∀ x, h x = f x + x n * g x) → Pol (n + 1) (B1 + B2) (d + 1) h
theorem Pol.mono {n B d : Nat} {f : Fn} (h : Pol n B d f) : ∀ {B' d' : Nat}, B ≤ B' → d ≤ d' → Pol n B' d' f := by
  induction h with
  | const e hc => intro B' d' hB hd; exact .const e (Nat.le_trans hc hB)
  | low _ ih => intro B' d' hB hd; exact .low (ih hB hd)
  | @horner n B1 B2 d f g h _ _ e ih1 ih2 =>
    intro B' d' hB hd
    obtain ⟨d'', rfl⟩ : ∃ d'', d' = d'' + 1 := ⟨d' - 1, by omega⟩
    have := Pol.horner (ih1 (B' := B' - B2) (d' := d'' + 1) (by omega) (by omega)) (ih2 (B' := B2) (d' := d'') (Nat.le_refl _) (by omega)) e
    rwa [show B' - B2 + B2 = B' by omega] at this
theorem Pol.zero : ∀ {n B d : Nat} {f : Fn}, (∀ x, f x = 0) → Pol n B d f
  | 0, _, _, _, h => .const h (Nat.zero_le _)
  | n + 1, _, _, _, h => .low (Pol.zero h)
theorem Pol.con : ∀ {n B d : Nat} {f : Fn} {c : Int}, (∀ x, f x = c) → c.natAbs ≤ B → Pol n B d f
  | 0, _, _, _, _, h, hc => .const h hc
  | n + 1, _, _, _, _, h, hc => .low (Pol.con h hc)
theorem Pol.ext {n B d : Nat} {f : Fn} (h : Pol n B d f) : ∀ {f' : Fn}, (∀ x, f' x = f x) → Pol n B d f' := by
  induction h with
  | const e hc => intro f' e'; exact .const (fun x => (e' x).trans (e x)) hc
  | low _ ih => intro f' e'; exact .low (ih e')
  | horner h1 h2 e _ _ => intro f' e'; exact .horner h1 h2 fun x => (e' x).trans (e x)
theorem Pol.var : ∀ {n d i : Nat}, i < n → Pol n 1 (d + 1) (fun x => x i)
  | n + 1, d, i, h => by
    by_cases hi : i = n
    · subst hi
      exact Pol.horner (B1 := 0) (B2 := 1) (Pol.zero (f := fun _ => 0) fun _ => rfl) (Pol.con (f := fun _ => 1) (c := 1) (fun _ => rfl) (Nat.le_refl _)) fun x => by simp
    · exact .low (Pol.var (by omega))
theorem Pol.add {n B1 d : Nat} {f : Fn} (h : Pol n B1 d f) : ∀ {B2 : Nat} {g : Fn}, Pol n B2 d g → Pol n (B1 + B2) d (fun x => f x + g x) := by
  induction h with
  | @const B d c f e hc =>
    intro B2 g hg
    cases hg with
    | const e' hc' => exact .const (fun x => by rw [e, e']) (Nat.le_trans (Int.natAbs_add_le _ _) (Nat.add_le_add hc hc'))
  | @low n B d f hf ih =>
    intro B2 g hg
    cases hg with
    | low hg => exact .low (ih hg)
    | @horner _ b1 b2 d f' g' _ h1 h2 e =>
      have := Pol.horner (ih h1) h2 (h := fun x => f x + g x) (fun x => by rw [e x, Int.add_assoc])
      exact this.mono (by omega) (Nat.le_refl _)
  | @horner n b1 b2 d f1 f2 f h1 h2 e ih1 ih2 =>
    intro B2 g hg
    cases hg with
    | low hg =>
      have := Pol.horner (ih1 hg) h2 (h := fun x => f x + g x) (fun x => by rw [e x]; omega)
      exact this.mono (by omega) (Nat.le_refl _)
    | @horner _ c1 c2 _ g1 g2 _ k1 k2 e' =>
      have := Pol.horner (ih1 k1) (ih2 k2) (h := fun x => f x + g x) (fun x => by rw [e x, e' x, Int.mul_add]; omega)
      exact this.mono (by omega) (Nat.le_refl _)
theorem Pol.neg {n B d : Nat} {f : Fn} (h : Pol n B d f) : Pol n B d (fun x => - f x) := by
  induction h with
  | @const B d c f e hc => exact .const (c := -c) (fun x => by rw [e]) (by rw [Int.natAbs_neg]; exact hc)
  | low _ ih => exact .low ih
  | horner _ _ e ih1 ih2 => exact .horner ih1 ih2 fun x => by rw [e x, Int.neg_add, Int.mul_neg]
theorem Pol.mul : ∀ {n B1 d1 : Nat} {f : Fn}, Pol n B1 d1 f → ∀ {B2 d2 : Nat} {g : Fn}, Pol n B2 d2 g → Pol n (B1 * B2) (d1 + d2) (fun x => f x * g x) := by
  intro n
  induction n with
  | zero =>
    intro B1 d1 f h B2 d2 g hg
    cases h with
    | const e hc =>
      cases hg with
      | const e' hc' => exact .const (fun x => by rw [e, e']) (by rw [Int.natAbs_mul]; exact Nat.mul_le_mul hc hc')
  | succ n IH =>
    have low : ∀ {B1 d1 : Nat} {f : Fn}, Pol n B1 d1 f → ∀ {m B2 d2 : Nat} {g : Fn}, Pol m B2 d2 g → m = n + 1 → Pol (n + 1) (B1 * B2) (d1 + d2) (fun x => f x * g x) := by
      intro B1 d1 f hf m B2 d2 g hg
      induction hg with
      | const => intro hm; cases hm
      | low hg _ => intro hm; cases hm; exact .low (IH hf hg)
      | @horner _ b1 b2 d g1 g2 g k1 k2 e _ ih =>
        intro hm
        cases hm
        have := Pol.horner (d := d1 + d) (IH hf k1) (ih rfl) (h := fun x => f x * g x) (fun x => by rw [e x, Int.mul_add, Int.mul_left_comm])
        rw [Nat.mul_add]
        exact this
    have all : ∀ {m B1 d1 : Nat} {f : Fn}, Pol m B1 d1 f → m = n + 1 → ∀ {B2 d2 : Nat} {g : Fn}, Pol (n + 1) B2 d2 g → Pol (n + 1) (B1 * B2) (d1 + d2) (fun x => f x * g x) := by
      intro m B1 d1 f hf
      induction hf with
      | const => intro hm; cases hm
      | low hf _ => intro hm B2 d2 g hg; cases hm; exact low hf hg rfl
      | @horner _ b1 b2 d f1 f2 f k1 k2 e _ ih =>
        intro hm B2 d2 g hg
        cases hm
        have h1 := low k1 hg rfl
        have h2 := ih rfl hg
        have h3 : Pol (n + 1) (0 + b2 * B2) (d + d2 + 1) (fun x => x n * (f2 x * g x)) := Pol.horner (B1 := 0) (Pol.zero (f := fun _ => 0) fun _ => rfl) h2 (fun x => by simp)
        have h4 := h1.add (h3.mono (Nat.le_refl _) (show d + d2 + 1 ≤ d + 1 + d2 by omega))
        have h5 := h4.ext (f' := fun x => f x * g x) (fun x => by rw [e x, Int.add_mul, Int.mul_assoc])
        exact h5.mono (by rw [Nat.add_mul]; omega) (Nat.le_refl _)
    intro B1 d1 f hf B2 d2 g hg
    exact all hf rfl hg
theorem Pol.bound {K : Nat → Int} {n B d : Nat} {f : Fn} (h : Pol n B d f) {m : Nat} (hm : 1 ≤ m) : (∀ i < n, (K i).natAbs ≤ m) → (f K).natAbs ≤ B * m ^ d := by
  induction h with
  | @const B d c f e hc =>
    intro _
    rw [e]
    exact Nat.le_trans hc (Nat.le_mul_of_pos_right _ (Nat.pow_pos hm))
  | low _ ih => intro hK; exact ih fun i hi => hK i (Nat.lt_succ_of_lt hi)
  | @horner n b1 b2 d f1 f2 f k1 k2 e ih1 ih2 =>
    intro hK
    have h1 := ih1 fun i hi => hK i (Nat.lt_succ_of_lt hi)
    have h2 := ih2 hK
    rw [e]
    refine Nat.le_trans (Int.natAbs_add_le _ _) ?_
    rw [Int.natAbs_mul, Nat.add_mul]
    refine Nat.add_le_add h1 ?_
    rw [Nat.pow_succ, Nat.mul_comm (m ^ d) m, ← Nat.mul_assoc, Nat.mul_comm b2 m, Nat.mul_assoc]
    exact Nat.mul_le_mul (hK n (Nat.lt_succ_self n)) h2
/-- one point far enough out tells -/
theorem Pol.unique {K : Nat → Int} {B d : Nat} {n B' d' : Nat} {f : Fn} (h : Pol n B' d' f) : B' ≤ B → d' ≤ d → (∀ j < n, ∃ m : Nat, 1 ≤ m ∧ (∀ i < j, (K i).natAbs ≤ m) ∧ B * m ^ d < (K j).natAbs) → f K = 0 → ∀ x, f x = 0 := by
  induction h with
  | const e hc => intro _ _ _ h0 x; rw [e] at h0 ⊢; exact h0
  | low _ ih => intro hB hd hK h0; exact ih hB hd (fun j hj => hK j (Nat.lt_succ_of_lt hj)) h0
  | @horner n b1 b2 dd f1 f2 f k1 k2 e ih1 ih2 =>
    intro hB hd hK h0
    obtain ⟨m, hm1, hmi, hmK⟩ := hK n (Nat.lt_succ_self n)
    have hb := k1.bound hm1 hmi
    have hlt : (f1 K).natAbs < (K n).natAbs := by
      refine Nat.lt_of_le_of_lt hb (Nat.lt_of_le_of_lt ?_ hmK)
      exact Nat.mul_le_mul (by omega) (Nat.pow_le_pow_right hm1 hd)
    rw [e] at h0
    have hg : f2 K = 0 := by
      by_cases h : f2 K = 0
      · exact h
      · exfalso
        have e1 : (f1 K).natAbs = (K n).natAbs * (f2 K).natAbs := by
          rw [← Int.natAbs_mul]
          omega
        have : 1 ≤ (f2 K).natAbs := by omega
        have := Nat.mul_le_mul_left (K n).natAbs this
        omega
    have hf : f1 K = 0 := by rw [hg] at h0; simpa using h0
    have r1 := ih1 (by omega) hd (fun j hj => hK j (Nat.lt_succ_of_lt hj)) hf
    have r2 := ih2 (by omega) (by omega) hK hg
    intro x
    rw [e, r1, r2]; simp

end
section
section
variable {β γ : Type} (f : β → γ)
theorem mapH_len (kvs : List (Int × β)) : (mapH f kvs).length = kvs.length := List.length_map _
theorem putH_mapH (kvs : List (Int × β)) (k : Int) (v : β) : putH (mapH f kvs) k (f v) = mapH f (putH kvs k v) := by
  unfold putH mapH
  rw [List.any_map]
  show (if (kvs.any fun kv => decide (kv.1 = k)) = true then _ else _) = _
  split
  · rw [List.map_map, List.map_map]
    congr 1
    funext p
    by_cases h : p.1 = k
    · simp [h]
    · simp [h]
  · simp
theorem getH_mapH (kvs : List (Int × β)) (k : Int) : getH (mapH f kvs) k = (getH kvs k).map f := by
  unfold getH mapH
  induction kvs with
  | nil => rfl
  | cons p r ih =>
    rw [List.map_cons, List.find?_cons, List.find?_cons]
    by_cases h : p.1 = k
    · simp [h]
    · have h1 : decide (p.1 = k) = false := decide_eq_false h
      rw [h1]
      exact ih
variable {z : β} {z' : γ} {ad mu : β → β → β} {ad' mu' : γ → γ → γ} {ne : β → β} {ne' : γ → γ} (hz : f z = z') (ha : ∀ x y, f (ad x y) = ad' (f x) (f y)) (hm : ∀ x y, f (mu x y) = mu' (f x) (f y)) (hn : ∀ x, f (ne x) = ne' (f x))
include hz ha hm hn
theorem dpCols_map (row : List β) (u : Int) : ∀ (r c : Nat) (p : β) (w : List (Int × β)), dpCols z' ad' mu' ne' (row.map f) u r c (f p) (mapH f w) = (dpCols z ad mu ne row u r c p w).map (mapH f)
  | 0, c, p, w => rfl
  | r + 1, c, p, w => by
    unfold dpCols
    split
    · rw [List.getElem?_map]
      cases row[c]? with
      | none => rfl
      | some x =>
        show dpCols z' ad' mu' ne' (row.map f) u r (c + 1) (ne' (f p)) (putH (mapH f w) (Builtin.bitOr u (2 ^ c)) (ad' ((getH (mapH f w) (Builtin.bitOr u (2 ^ c))).getD z') (mu' (f p) (f x)))) = Option.map (mapH f) (dpCols z ad mu ne row u r (c + 1) (ne p) (putH w (Builtin.bitOr u (2 ^ c)) (ad ((getH w (Builtin.bitOr u (2 ^ c))).getD z) (mu p x))))
        have e1 : (getH (mapH f w) (Builtin.bitOr u (2 ^ c))).getD z' = f ((getH w (Builtin.bitOr u (2 ^ c))).getD z) := by
          rw [getH_mapH]
          cases getH w (Builtin.bitOr u (2 ^ c)) with
          | none => exact hz.symm
          | some _ => rfl
        rw [e1, ← hm, ← ha, putH_mapH, ← hn]
        exact dpCols_map row u r (c + 1) _ _
    · exact dpCols_map row u r (c + 1) p w
theorem dpUsed_map (row : List β) (size : Nat) (m : List (Int × β)) : ∀ (r w : List (Int × β)), dpUsed z' ad' mu' ne' (row.map f) size (mapH f m) (mapH f r) (mapH f w) = (dpUsed z ad mu ne row size m r w).map (mapH f)
  | [], w => rfl
  | (k, q) :: r, w => by
    show (match getH (mapH f m) k with
      | some p => match dpCols z' ad' mu' ne' (row.map f) k size 0 p (mapH f w) with
        | some w' => if w'.length ≤ 100 then dpUsed z' ad' mu' ne' (row.map f) size (mapH f m) (mapH f r) w' else none
        | none => none
      | none => none) = Option.map (mapH f) (match getH m k with
      | some p => match dpCols z ad mu ne row k size 0 p w with
        | some w' => if w'.length ≤ 100 then dpUsed z ad mu ne row size m r w' else none
        | none => none
      | none => none)
    rw [getH_mapH]
    cases getH m k with
    | none => rfl
    | some p =>
      dsimp only [Option.map_some]
      rw [dpCols_map f hz ha hm hn]
      cases dpCols z ad mu ne row k size 0 p w with
      | none => rfl
      | some w' =>
        dsimp only [Option.map_some]
        rw [mapH_len]
        split
        · exact dpUsed_map row size m r w'
        · rfl
theorem dpRows_map (size : Nat) : ∀ (rows : List (List β)) (m : List (Int × β)), dpRows z' ad' mu' ne' size (rows.map (·.map f)) (mapH f m) = (dpRows z ad mu ne size rows m).map (mapH f)
  | [], m => rfl
  | row :: r, m => by
    show (match dpUsed z' ad' mu' ne' (row.map f) size (mapH f m) (mapH f m) (mapH f []) with
      | some w => dpRows z' ad' mu' ne' size (r.map (·.map f)) w
      | none => none) = Option.map (mapH f) (match dpUsed z ad mu ne row size m m [] with
      | some w => dpRows z ad mu ne size r w
      | none => none)
    rw [dpUsed_map f hz ha hm hn]
    cases dpUsed z ad mu ne row size m m [] with
    | none => rfl
    | some w => exact dpRows_map size r w
end
/-- over the polynomials -/
noncomputable abbrev dpColsF := dpCols (fun _ => 0 : Fn) (fun a b x => a x + b x) (fun a b x => a x * b x) (fun a x => - a x)
noncomputable abbrev dpUsedF := dpUsed (fun _ => 0 : Fn) (fun a b x => a x + b x) (fun a b x => a x * b x) (fun a x => - a x)
noncomputable abbrev dpRowsF := dpRows (fun _ => 0 : Fn) (fun a b x => a x + b x) (fun a b x => a x * b x) (fun a x => - a x)
theorem dpRowsF_at (x : Nat → Int) (size : Nat) (rows : List (List Fn)) (m : List (Int × Fn)) : dpRowsI size (rows.map (·.map (fun f : Fn => f x))) (mapH (fun f : Fn => f x) m) = (dpRowsF size rows m).map (mapH (fun f : Fn => f x)) :=
  dpRows_map (β := Fn) (γ := Int) (fun f : Fn => f x) (z := fun _ => 0) (z' := 0) (ad := fun a b x => a x + b x) (ad' := (· + ·)) (mu := fun a b x => a x * b x) (mu' := (· * ·)) (ne := fun a x => - a x) (ne' := (- ·)) rfl (fun _ _ => rfl) (fun _ _ => rfl) (fun _ => rfl) size rows m
noncomputable def PolH (N : Nat) (m : List (Int × Fn)) (B d : Nat) : Prop := ∀ p ∈ m, Pol N B d p.2
theorem PolH.mono {N B d B' d' : Nat} {m : List (Int × Fn)} (h : PolH N m B d) (h1 : B ≤ B') (h2 : d ≤ d') : PolH N m B' d' := fun p hp => (h p hp).mono h1 h2
theorem dpColsF_pol {N e B d : Nat} {row : List Fn} {u : Int} (he : ∀ f ∈ row, Pol N e 1 f) : ∀ (r c : Nat) (p : Fn) (w w' : List (Int × Fn)) (B' : Nat), Pol N B d p → PolH N w B' (d + 1) → dpColsF row u r c p w = some w' → PolH N w' (B' + r * (B * e)) (d + 1)
  | 0, c, p, w, w', B', hp, hw, h => by cases h; exact hw.mono (by omega) (Nat.le_refl _)
  | r + 1, c, p, w, w', B', hp, hw, h => by
    unfold dpColsF dpCols at h
    split at h
    · cases hrc : row[c]? with
      | none => rw [hrc] at h; cases h
      | some x =>
        rw [hrc] at h
        dsimp only at h
        have hx := he x (List.mem_of_getElem? hrc)
        have hpx := hp.mul hx
        have hnew : PolH N (putH w (Builtin.bitOr u (2 ^ c)) (fun y => ((getH w (Builtin.bitOr u (2 ^ c))).getD (fun _ => 0)) y + p y * x y)) (B' + B * e) (d + 1) := by
          intro q hq
          rcases putH_mem hq with e1 | hq
          · rw [e1]
            refine Pol.add ?_ hpx
            cases hg : getH w (Builtin.bitOr u (2 ^ c)) with
            | none => exact Pol.zero fun _ => rfl
            | some v => exact hw _ (getH_mem hg)
          · exact (hw q hq).mono (by omega) (Nat.le_refl _)
        have := dpColsF_pol he r (c + 1) _ _ w' (B' + B * e) hp.neg hnew h
        refine this.mono ?_ (Nat.le_refl _)
        rw [Nat.add_mul, Nat.one_mul]; omega
    · have := dpColsF_pol he r (c + 1) p w w' B' hp hw h
      refine this.mono ?_ (Nat.le_refl _)
      rw [Nat.add_mul, Nat.one_mul]; omega
theorem dpUsedF_pol {N e B d : Nat} {row : List Fn} {size : Nat} {m : List (Int × Fn)} (he : ∀ f ∈ row, Pol N e 1 f) (hm : PolH N m B d) : ∀ (r w w' : List (Int × Fn)) (B' : Nat), PolH N w B' (d + 1) → w.length ≤ 100 → dpUsedF row size m r w = some w' → PolH N w' (B' + r.length * (size * (B * e))) (d + 1) ∧ w'.length ≤ 100
  | [], w, w', B', hw, hl, h => by cases h; exact ⟨hw.mono (by simp) (Nat.le_refl _), hl⟩
  | (k, q) :: r, w, w', B', hw, hl, h => by
    unfold dpUsedF dpUsed at h
    cases hg : getH m k with
    | none => rw [hg] at h; cases h
    | some p =>
      rw [hg] at h
      dsimp only at h
      cases hc : dpColsF row k size 0 p w with
      | none => unfold dpColsF at hc; rw [hc] at h; cases h
      | some w1 =>
        have h1 := dpColsF_pol he size 0 p w w1 B' (hm _ (getH_mem hg)) hw hc
        unfold dpColsF at hc
        rw [hc] at h
        dsimp only at h
        by_cases hl1 : w1.length ≤ 100
        · rw [if_pos hl1] at h
          obtain ⟨h2, h3⟩ := dpUsedF_pol he hm r w1 w' _ h1 hl1 h
          refine ⟨h2.mono ?_ (Nat.le_refl _), h3⟩
          rw [List.length_cons, Nat.add_mul, Nat.one_mul]; omega
        · rw [if_neg hl1] at h; cases h
theorem dpRowsF_pol {N e : Nat} {size : Nat} : ∀ (rows : List (List Fn)) (m m' : List (Int × Fn)) (B d : Nat), (∀ row ∈ rows, ∀ f ∈ row, Pol N e 1 f) → PolH N m B d → m.length ≤ 100 → dpRowsF size rows m = some m' → PolH N m' (B * (100 * (size * e)) ^ rows.length) (d + rows.length)
  | [], m, m', B, d, he, hm, hl, h => by cases h; exact hm.mono (by simp) (Nat.le_refl _)
  | row :: r, m, m', B, d, he, hm, hl, h => by
    unfold dpRowsF dpRows at h
    cases hu : dpUsedF row size m m [] with
    | none => unfold dpUsedF at hu; rw [hu] at h; cases h
    | some w =>
      obtain ⟨h1, h2⟩ := dpUsedF_pol (he row List.mem_cons_self) hm m [] w 0 (fun p hp => by cases hp) (by simp) hu
      unfold dpUsedF at hu
      rw [hu] at h
      dsimp only at h
      have h3 : PolH N w (B * (100 * (size * e))) (d + 1) := by
        refine h1.mono ?_ (Nat.le_refl _)
        rw [Nat.zero_add, show B * (100 * (size * e)) = 100 * (size * (B * e)) by
          rw [Nat.mul_left_comm B 100, Nat.mul_left_comm B size]]
        exact Nat.mul_le_mul_right _ hl
      have := dpRowsF_pol r w m' _ (d + 1) (fun row hrow => he row (List.mem_cons_of_mem _ hrow)) h3 h2 h
      refine this.mono ?_ (by rw [List.length_cons]; omega)
      rw [List.length_cons, Nat.pow_succ, Nat.mul_assoc, Nat.mul_comm ((100 * (size * e)) ^ r.length)]
      exact Nat.le_refl _

end
section
open Builtin.Str StrLaws in
theorem occ_count (x : Str) (c : Nat) : ∀ (k a : Nat) (st : Array Nat × Nat), st.fst.size ≤ a → st.snd ≤ a → a + k ≤ x.length + 1 →
    (forIn (List.range' a k) st (occBody x ⟨#[c]⟩ x.length (x.length + 1))).run.fst.size = st.fst.size + ((x.cps.toList.drop a).take k).count c
  | 0, a, st, _, _, _ => by simp
  | k + 1, a, st, h1, h2, h3 => by
    rw [List.range'_succ, List.forIn_cons]
    unfold occBody
    have hsub := subAt_one x c a
    by_cases hx : x.cps.toList[a]? = some c
    · obtain ⟨s1, s2⟩ := hsub.mpr hx
      rw [if_pos ⟨⟨⟨by omega, h2⟩, s1⟩, s2⟩]
      have ih := occ_count x c k (a + 1) (st.fst.push a, a + (⟨#[c]⟩ : Str).length) (by rw [Array.size_push]; omega) (Nat.le_refl _) (by omega)
      rw [Array.size_push] at ih
      have e : (x.cps.toList.drop a).take (k + 1) = c :: (x.cps.toList.drop (a + 1)).take k := by
        obtain ⟨hlt, he⟩ := List.getElem?_eq_some_iff.mp hx
        rw [List.drop_eq_getElem_cons hlt, List.take_succ_cons, he]
      rw [e, List.count_cons_self]
      refine Eq.trans ih ?_
      omega
    · rw [if_neg (fun h => hx (hsub.mp ⟨h.1.2, h.2⟩))]
      have ih := occ_count x c k (a + 1) (st.fst, st.snd) (by show st.fst.size ≤ _; omega) (by show st.snd ≤ _; omega) (by omega)
      refine Eq.trans ih ?_
      congr 1
      cases hd : x.cps.toList[a]? with
      | none =>
        have := List.getElem?_eq_none_iff.mp hd
        rw [List.drop_eq_nil_of_le this, List.drop_eq_nil_of_le (by omega)]; simp
      | some d =>
        obtain ⟨hlt, he⟩ := List.getElem?_eq_some_iff.mp hd
        rw [List.drop_eq_getElem_cons hlt, List.take_succ_cons, he, List.count_cons_of_ne]
        intro e
        rw [hd, e] at hx
        exact hx rfl
theorem count_one (x : Str) (c : Nat) : (Txt.count x ⟨#[c]⟩ : Int) = (x.cps.toList.count c : Nat) := by
  show ((Builtin.Str.occurrences x ⟨#[c]⟩ 0 x.length (x.length + 1)).length : Int) = _
  rw [StrLaws.occ_eq, Array.length_toList, occ_count x c (x.length + 1 - 0) 0 (#[], 0) (Nat.le_refl _) (Nat.le_refl _) (by omega)]
  have : x.cps.toList.length ≤ x.length + 1 - 0 := by
    show _ ≤ x.cps.size + 1 - 0
    rw [Array.length_toList]; omega
  rw [List.drop_zero, List.take_of_length_le this]
  simp

/-- the names that the text holds, in order -/
noncomputable def wsc (d : Int) : Nat := ((wsi d).cps.toList).headD 0
noncomputable def itemsOf (nm ab : List Str) : List Int → Nat → List It
  | [], _ => []
  | d :: r, k => if ab.any (· == nm.getD (k + 1) "") then itemsOf nm ab r (k + 1) else ⟨nm.getD (k + 1) "", (d.fdiv 12).fmod 2 == 0, wsc d⟩ :: itemsOf nm ab r (k + 1)
noncomputable def leaves (nm ab : List Str) : Nat → Nat → List Str
  | 0, _ => []
  | r + 1, k => if ab.any (· == nm.getD (k + 1) "") then leaves nm ab r (k + 1) else nm.getD (k + 1) "" :: leaves nm ab r (k + 1)
theorem items_leaves (nm ab : List Str) : ∀ (r : List Int) (k : Nat), (itemsOf nm ab r k).map (·.w) = leaves nm ab r.length k
  | [], k => rfl
  | d :: r, k => by
    unfold itemsOf
    rw [List.length_cons]
    unfold leaves
    split
    · exact items_leaves nm ab r (k + 1)
    · rw [List.map_cons, items_leaves nm ab r (k + 1)]
theorem wsi_ok (d : Int) : (wsi d).cps.toList = [wsc d] ∧ inWs (wsc d) = true := by
  have h0 : 0 ≤ (d.fdiv 24).fmod 4 := Int.fmod_nonneg_of_pos _ (by decide)
  have h1 : (d.fdiv 24).fmod 4 < 4 := Int.fmod_lt_of_pos _ (by decide)
  unfold wsc wsi
  generalize (d.fdiv 24).fmod 4 = m at h0 h1
  have : m = 0 ∨ m = 1 ∨ m = 2 ∨ m = 3 := by omega
  rcases this with rfl | rfl | rfl | rfl <;> decide +kernel
theorem cps_app (x y : Str) : (x ++ y).cps.toList = x.cps.toList ++ y.cps.toList := by
  show (x.cps ++ y.cps).toList = _
  simp
theorem wrt_cps (x : Str) (q : Bool) : (wrt x q).cps.toList = if q then 34 :: (esc x.cps.toList ++ [34]) else esc x.cps.toList := by
  unfold wrt
  cases q
  · show (ofL (esc x.cps.toList)).cps.toList = _
    show (esc x.cps.toList).toArray.toList = _
    simp
  · show (("\"" : Str) ++ ofL (esc x.cps.toList) ++ ("\"" : Str)).cps.toList = _
    rw [cps_app, cps_app]
    show [34] ++ (esc x.cps.toList).toArray.toList ++ [34] = _
    simp
theorem itemsOf_cons (nm ab : List Str) (d : Int) (r : List Int) (k : Nat) : itemsOf nm ab (d :: r) k = if ab.any (· == nm.getD (k + 1) "") then itemsOf nm ab r (k + 1) else ⟨nm.getD (k + 1) "", (d.fdiv 12).fmod 2 == 0, wsc d⟩ :: itemsOf nm ab r (k + 1) := rfl
theorem itText_cons (i : It) (r : List It) : itText (i :: r) = if i.q then 34 :: (esc i.w.cps.toList ++ 34 :: (i.d :: itText r)) else esc i.w.cps.toList ++ i.d :: itText r := rfl
theorem tx_items (s : TS) : ∀ (r : List Int) (k : Nat) (t : Str), (tx s r k t).cps.toList = t.cps.toList ++ itText (itemsOf s.nm s.ab r k)
  | [], k, t => by show t.cps.toList = _; simp [itemsOf, itText]
  | d :: r, k, t => by
    show (tx s r (k + 1) (if s.ab.any (· == s.nm.getD (k + 1) "") then t else t ++ wrt (s.nm.getD (k + 1) "") ((d.fdiv 12).fmod 2 == 0) ++ wsi d)).cps.toList = _
    rw [tx_items s r (k + 1), itemsOf_cons]
    split
    · rfl
    · rw [cps_app, cps_app, wrt_cps, (wsi_ok d).1, itText_cons]
      dsimp only
      cases (d.fdiv 12).fmod 2 == 0 <;> simp
theorem esc_count (w : List Nat) (h : ∀ c ∈ w, c ≠ 10) : (esc w).count 10 = 0 := by
  induction w with
  | nil => rfl
  | cons c w ih =>
    have h1 := h c List.mem_cons_self
    have h2 := ih fun d hd => h d (List.mem_cons_of_mem _ hd)
    unfold esc
    split
    · rw [List.count_cons_of_ne (by decide), List.count_cons_of_ne h1, h2]
    · rw [List.count_cons_of_ne h1, h2]
theorem it_count : ∀ (l : List It), (∀ i ∈ l, i.Ok) → (itText l).count 10 = (l.map (·.d)).count 10
  | [], _ => rfl
  | i :: r, h => by
    have ih := it_count r fun j hj => h j (List.mem_cons_of_mem _ hj)
    have hw := (h i List.mem_cons_self).1
    have he := esc_count i.w.cps.toList (fun c hc e => by have := hw c hc; rw [e] at this; revert this; decide)
    unfold itText
    rw [List.map_cons]
    split
    · rw [List.count_cons_of_ne (by decide), List.count_append, he, List.count_cons_of_ne (by decide), Nat.zero_add, List.count_cons, ih, List.count_cons]
    · rw [List.count_append, he, Nat.zero_add, List.count_cons, ih, List.count_cons]
theorem lnA_count : ∀ (l : List Nat) (k : Int), lnA k l = k + (l.count 10 : Nat)
  | [], k => by show k = _; simp
  | d :: r, k => by
    unfold lnA
    rw [lnA_count r, List.count_cons]
    by_cases h : d = 10
    · simp [h]; omega
    · simp [h]
theorem it_len (M : Nat) (nm ab : List Str) (hM : ∀ x ∈ nm, x.length ≤ M) : ∀ (r : List Int) (k : Nat), (itText (itemsOf nm ab r k)).length ≤ r.length * (2 * M + 3)
  | [], k => by simp [itemsOf, itText]
  | d :: r, k => by
    have ih := it_len M nm ab hM r (k + 1)
    unfold itemsOf
    rw [List.length_cons, Nat.add_mul, Nat.one_mul]
    split
    · omega
    · have hl : (nm.getD (k + 1) "").cps.toList.length ≤ M := by
        by_cases hk : k + 1 < nm.length
        · exact Array.length_toList ▸ hM _ (getD_mem hk)
        · rw [List.getD_eq_getElem?_getD, List.getElem?_eq_none (by omega)]
          exact Nat.zero_le _
      have he := esc_le (nm.getD (k + 1) "").cps.toList
      unfold itText
      dsimp only
      split
      · simp only [List.length_cons, List.length_append]; omega
      · simp only [List.length_cons, List.length_append]; omega

end
section
noncomputable def lsum (x : Nat → Int) (l : List Nat) : Int := (l.map x).sum
noncomputable def wyS (ws : List (Str × List (Str × List Nat))) (h t : Str) : List Nat := (getG ((getG ws h).getD []) t).getD []
noncomputable def phi (x : Nat → Int) (l : List Nat) : Int × Int := ((l.length : Int), lsum x l)
noncomputable def wfX (x : Nat → Int) (ws : List (Str × List (Str × List Nat))) : List (Str × List (Str × (Int × Int))) := mapV (mapV (phi x)) ws
noncomputable def topB (b : Bool) : Str := if b then "local" else "c7.net"
noncomputable def tnOf (ps : List Nat) (top : Bool) : TN := tnRun ps 0 ⟨[topB top], [], []⟩
noncomputable def stepsX (x : Nat → Int) (n : Nat) : List Int := (List.range n).map x
noncomputable def dueX (x : Nat → Int) (n : Nat) : Int := (stepsX x n).foldl (· * ·) ((-1) ^ (stepsX x n).length * 2 ^ ((stepsX x n).length - 1) * ((stepsX x n).sum + 2 * x n))
noncomputable def rowsX (x : Nat → Int) (n : Nat) (fd : List Str) (ws : List (Str × List (Str × List Nat))) : List (List Int) := fd.map fun h => fd.map fun t => x n + lsum x (wyS ws h t)
noncomputable def Kp : Nat → Int
  | 0 => ((2 ^ 70 : Nat) : Int)
  | 1 => ((2 ^ 420 : Nat) : Int)
  | 2 => ((2 ^ 2170 : Nat) : Int)
  | 3 => ((2 ^ 10920 : Nat) : Int)
  | _ => ((2 ^ 54670 : Nat) : Int)
noncomputable def farS (x : Nat → Int) (es : List (Str × Int)) (ws : List (Str × List (Str × List Nat))) (h : Str) : List Str → Int → Int
  | [], a => a
  | t :: r, a => farS x es ws h r (a + shareOf es t * lsum x (wyS ws h t))
noncomputable def hopsS (es : List (Str × Int)) (ws : List (Str × List (Str × List Nat))) (h : Str) : List Str → Int → Int
  | [], a => a
  | t :: r, a => hopsS es ws h r (a + shareOf es t * ((wyS ws h t).length : Int))
noncomputable def wct (t : Str) : Bool := srch (Txt.lower ("w." ++ t)) && !(Builtin.Str.tooLong (Txt.lower ("w." ++ t)).length) && decide (("w." : Str).length + t.length ≤ sizeLine)
noncomputable def wcg (g : Str) : Bool := srch (Txt.slice (Txt.lower ("." ++ Txt.upper g)) (some 1) none) && !(Builtin.Str.tooLong (Txt.lower ("." ++ Txt.upper g)).length) && decide ((Txt.lower ("." ++ Txt.upper g)).length ≤ sizeLine) && decide (("." : Str).length + (Txt.upper g).length ≤ sizeLine) && !(Builtin.Str.tooLong (Txt.upper g).length)
theorem WC.of {t g : Str} (h1 : wct t = true) (h2 : wcg g = true) : WC t g := by
  unfold wct at h1
  unfold wcg at h2
  simp only [Bool.and_eq_true, Bool.not_eq_true', decide_eq_true_eq] at h1 h2
  exact ⟨h1.1.1, h2.1.1.1.1, h1.1.2, h2.1.1.1.2, h2.1.1.2, h1.2, h2.1.2, h2.2⟩
noncomputable def nmAll : List Str → Nat → Nat → List Str
  | l, _, 0 => l
  | l, k, r + 1 => nmAll (l ++ l.map fun y => lab.getD k "" ++ "." ++ y) (k + 1) r
noncomputable def names32 : List Str := nmAll ["local", "c7.net"] 0 4
noncomputable def chk1 (t : TN) (n : Nat) (fd : List Str) (es : List (Str × Int)) : Bool :=
  fd.isPerm t.nm && t.nm.all (fun y => !y.cps.toList.isEmpty) && decide (t.nm.tail.map (getG t.ln) = (List.range n).map some) && decide ((es.map (·.2)).sum = 2 * (n : Int)) && fd.all (fun t => (getG es t).isSome && decide ((shareOf es t).natAbs ≤ 10))
noncomputable def chkW (fd : List Str) : Bool := fd.all fun t => names32.any (· == t)
noncomputable def chk2 (n : Nat) (fd : List Str) (es : List (Str × Int)) (ws : List (Str × List (Str × List Nat))) : Bool :=
  fd.all fun h => (getG ws h).isSome && fd.all (fun t => decide ((wyS ws h t).length ≤ 10) && (wyS ws h t).all (fun k => decide (k < n))) && decide (hopsS es ws h fd 0 = n) && decide (farS Kp es ws h fd 0 = (stepsX Kp n).sum)
noncomputable def chk3 (n : Nat) (fd : List Str) (ws : List (Str × List (Str × List Nat))) : Bool :=
  match dpRowsI (n + 1) (rowsX Kp n fd ws) [(0, 1)] with
  | some m => match getH m (2 ^ (n + 1) - 1) with
    | some v => decide (v = dueX Kp n)
    | none => false
  | none => false
noncomputable def chk (ps : List Nat) (top : Bool) : Bool :=
  match climbAll 20 (leaves (tnOf ps top).nm (tnOf ps top).ab ps.length 0) [] [] with
  | none => false
  | some (fd, es) => match wGates (· ++ ·) (fun g => (getG (tnOf ps top).ln g).map fun k => [k]) fd ((tnOf ps top).nm.getD 0 "") fd (w0 fd []) with
    | none => false
    | some ws => !(leaves (tnOf ps top).nm (tnOf ps top).ab ps.length 0).isEmpty && chk1 (tnOf ps top) ps.length fd es && chk2 ps.length fd es ws && chk3 ps.length fd ws

noncomputable def gen : Nat → Nat → List (List Nat)
  | 0, _ => [[]]
  | r + 1, k => (List.range (k + 1)).flatMap fun p => (gen r (k + 1)).map (p :: ·)
theorem pars_gen : ∀ (r : List Int) (k : Nat), pars r k ∈ gen r.length k
  | [], k => List.mem_singleton.mpr rfl
  | d :: r, k => by
    show _ ∈ (List.range (k + 1)).flatMap _
    rw [List.mem_flatMap]
    have h0 : 0 ≤ d.fmod ((k + 1 : Nat) : Int) := Int.fmod_nonneg_of_pos _ (by omega)
    have h1 : d.fmod ((k + 1 : Nat) : Int) < ((k + 1 : Nat) : Int) := Int.fmod_lt_of_pos _ (by omega)
    exact ⟨_, List.mem_range.mpr (by omega), List.mem_map.mpr ⟨_, pars_gen r (k + 1), rfl⟩⟩
theorem pars_len : ∀ (r : List Int) (k : Nat), (pars r k).length = r.length
  | [], _ => rfl
  | _ :: r, k => by show (pars r (k + 1)).length + 1 = _; rw [pars_len r (k + 1)]; rfl

end
section
set_option maxRecDepth 4000
open Builtin.Int (intBits)
theorem lsum_cons (x : Nat → Int) (k : Nat) (l : List Nat) : lsum x (k :: l) = x k + lsum x l := by unfold lsum; rw [List.map_cons, List.sum_cons]
theorem lsum_app (x : Nat → Int) : ∀ (a b : List Nat), lsum x (a ++ b) = lsum x a + lsum x b
  | [], b => by show lsum x b = 0 + lsum x b; omega
  | k :: a, b => by
    rw [List.cons_append, lsum_cons, lsum_cons, lsum_app x a b]; omega
theorem phi_app (x : Nat → Int) (a b : List Nat) : phi x (a ++ b) = ad2 (phi x a) (phi x b) := by
  unfold phi ad2
  rw [lsum_app, List.length_append]
  simp
theorem phi_one (x : Nat → Int) (k : Nat) : phi x [k] = (1, x k) := by
  unfold phi lsum
  simp
theorem wayOf_X (x : Nat → Int) (ws : List (Str × List (Str × List Nat))) (h t : Str) : wayOf (wfX x ws) h t = phi x (wyS ws h t) := by
  unfold wayOf wfX wyS
  rw [getG_mapV]
  cases getG ws h with
  | none => rfl
  | some p =>
    show (getG (mapV (phi x) p) t).getD (0, 0) = phi x ((getG p t).getD [])
    rw [getG_mapV]
    cases getG p t <;> rfl
theorem hops_X (x : Nat → Int) (es : List (Str × Int)) (ws : List (Str × List (Str × List Nat))) (h : Str) : ∀ (r : List Str) (a : Int), hopsF es (wfX x ws) h r a = hopsS es ws h r a
  | [], a => rfl
  | t :: r, a => by
    unfold hopsF hopsS
    rw [wayOf_X, hops_X x es ws h r]; rfl
theorem far_X (x : Nat → Int) (es : List (Str × Int)) (ws : List (Str × List (Str × List Nat))) (h : Str) : ∀ (r : List Str) (a : Int), farF es (wfX x ws) h r a = farS x es ws h r a
  | [], a => rfl
  | t :: r, a => by
    unfold farF farS
    rw [wayOf_X, far_X x es ws h r]; rfl
theorem lsum_pol {N d : Nat} : ∀ (l : List Nat), (∀ k ∈ l, k < N) → Pol N l.length (d + 1) (fun x => lsum x l)
  | [], _ => Pol.zero fun _ => rfl
  | k :: l, h => by
    have h1 := lsum_pol (d := d) l fun j hj => h j (List.mem_cons_of_mem _ hj)
    have h2 := (Pol.var (n := N) (d := d) (h k List.mem_cons_self)).add h1
    refine (h2.ext (f' := fun x => lsum x (k :: l)) fun x => lsum_cons x k l).mono (by rw [List.length_cons]; omega) (Nat.le_refl _)
theorem far_pol {N : Nat} {es : List (Str × Int)} {ws : List (Str × List (Str × List Nat))} {h : Str} : ∀ (r : List Str) (B : Nat) (a : Fn), (∀ t ∈ r, (shareOf es t).natAbs ≤ 10 ∧ (wyS ws h t).length ≤ 10 ∧ ∀ k ∈ wyS ws h t, k < N) → Pol N B 1 a → Pol N (B + r.length * 100) 1 (fun x => farS x es ws h r (a x))
  | [], B, a, _, ha => ha.mono (by simp) (Nat.le_refl _)
  | t :: r, B, a, hr, ha => by
    obtain ⟨h1, h2, h3⟩ := hr t List.mem_cons_self
    have hs : Pol N 10 0 (fun _ => shareOf es t) := Pol.con (c := shareOf es t) (fun _ => rfl) h1
    have hl := (lsum_pol (d := 0) (wyS ws h t) h3).mono h2 (Nat.le_refl _)
    have hm := hs.mul hl
    have := far_pol r (B + 10 * 10) _ (fun u hu => hr u (List.mem_cons_of_mem _ hu)) (ha.add (hm.mono (Nat.le_refl _) (by omega)))
    refine this.mono ?_ (Nat.le_refl _)
    rw [List.length_cons]; omega
theorem steps_pol {N n : Nat} (h : n ≤ N) : Pol N n 1 (fun x => (stepsX x n).sum) := by
  have := lsum_pol (N := N) (d := 0) (List.range n) (fun k hk => Nat.lt_of_lt_of_le (List.mem_range.mp hk) h)
  rw [List.length_range] at this
  exact this
theorem prod_pol {N : Nat} : ∀ (l : List Nat) (B d : Nat) (f : Fn), (∀ k ∈ l, k < N) → Pol N B d f → Pol N B (d + l.length) (fun x => (l.map x).foldl (· * ·) (f x))
  | [], B, d, f, _, hf => hf
  | k :: l, B, d, f, h, hf => by
    have h1 := hf.mul (Pol.var (n := N) (d := 0) (h k List.mem_cons_self))
    have := prod_pol l (B * 1) (d + (0 + 1)) _ (fun j hj => h j (List.mem_cons_of_mem _ hj)) h1
    refine this.mono (by omega) (by rw [List.length_cons]; omega)
theorem due_pol {n : Nat} (h : n ≤ 4) : Pol (n + 1) 1000 (1 + n) (fun x => dueX x n) := by
  have e : ∀ x, (stepsX x n).length = n := fun x => by unfold stepsX; rw [List.length_map, List.length_range]
  have h0 : Pol (n + 1) 100 0 (fun _ => (-1 : Int) ^ n * 2 ^ (n - 1)) := Pol.con (c := (-1 : Int) ^ n * 2 ^ (n - 1)) (fun _ => rfl) (by
    have : n = 0 ∨ n = 1 ∨ n = 2 ∨ n = 3 ∨ n = 4 := by omega
    rcases this with rfl | rfl | rfl | rfl | rfl <;> decide)
  have h1 : Pol (n + 1) 2 1 (fun x => 2 * x n) := ((Pol.con (n := n + 1) (B := 2) (d := 0) (f := fun _ => 2) (c := 2) (fun _ => rfl) (by decide)).mul (Pol.var (n := n + 1) (d := 0) (Nat.lt_succ_self n))).mono (by omega) (by omega)
  have h2 := (steps_pol (N := n + 1) (n := n) (by omega)).add h1
  have h3 := h0.mul h2
  have h4 := prod_pol (List.range n) _ _ _ (fun k hk => Nat.lt_succ_of_lt (List.mem_range.mp hk)) h3
  refine (h4.ext (f' := fun x => dueX x n) fun x => ?_).mono (by omega) (by rw [List.length_range]; omega)
  unfold dueX
  rw [e]; rfl

end
section
set_option maxRecDepth 4000
open Builtin.Int (intBits)
theorem bits_small {v : Int} (h : v.natAbs ≤ 2 ^ 60) : intBits v ≤ 200 := intBits_le_iff.mpr (Nat.lt_of_le_of_lt h (by decide))
theorem lsum_abs {x : Nat → Int} {M : Nat} (hx : ∀ k, (x k).natAbs ≤ M) : ∀ (l : List Nat), (lsum x l).natAbs ≤ l.length * M
  | [] => by show (0 : Int).natAbs ≤ _; simp
  | k :: l => by
    rw [lsum_cons, List.length_cons, Nat.add_mul, Nat.one_mul]
    refine Nat.le_trans (Int.natAbs_add_le _ _) ?_
    have := lsum_abs hx l
    have := hx k
    omega
theorem items_ok {nm ab : List Str} (h : ∀ y ∈ nm, OkN y ∧ y.cps.toList ≠ []) : ∀ (r : List Int) (k : Nat), k + r.length + 1 ≤ nm.length → ∀ i ∈ itemsOf nm ab r k, i.Ok
  | [], k, _, i, hi => by cases hi
  | d :: r, k, hk, i, hi => by
    rw [List.length_cons] at hk
    rw [itemsOf_cons] at hi
    have rec_ := items_ok (ab := ab) h r (k + 1) (by omega)
    split at hi
    · exact rec_ i hi
    · rcases List.mem_cons.mp hi with rfl | hi
      · obtain ⟨o1, o2⟩ := h (nm.getD (k + 1) "") (getD_mem (by omega))
        exact ⟨fun c hc => chs_ok c (o1 c hc), o2, (wsi_ok d).2⟩
      · exact rec_ i hi
theorem Kp_far : ∀ j < 5, ∃ m : Nat, 1 ≤ m ∧ (∀ i < j, (Kp i).natAbs ≤ m) ∧ 2 ^ 69 * m ^ 5 < (Kp j).natAbs := by
  intro j hj
  have e0 : (Kp 0).natAbs = 2 ^ 70 := Int.natAbs_natCast _
  have e1 : (Kp 1).natAbs = 2 ^ 420 := Int.natAbs_natCast _
  have e2 : (Kp 2).natAbs = 2 ^ 2170 := Int.natAbs_natCast _
  have e3 : (Kp 3).natAbs = 2 ^ 10920 := Int.natAbs_natCast _
  have e4 : (Kp 4).natAbs = 2 ^ 54670 := Int.natAbs_natCast _
  have le2 : ∀ a b : Nat, a ≤ b → 2 ^ a ≤ 2 ^ b := fun a b h => Nat.pow_le_pow_right (by decide) h
  have step : ∀ a b : Nat, 69 + a * 5 < b → 2 ^ 69 * (2 ^ a) ^ 5 < 2 ^ b := fun a b h => by
    rw [← Nat.pow_mul, ← Nat.pow_add]
    exact Nat.pow_lt_pow_right (by decide) h
  match j, hj with
  | 0, _ => exact ⟨1, Nat.le_refl _, fun i hi => absurd hi (Nat.not_lt_zero i), by rw [e0, Nat.one_pow, Nat.mul_one]; exact Nat.pow_lt_pow_right (by decide) (by decide)⟩
  | 1, _ => exact ⟨2 ^ 70, Nat.pow_pos (by decide), fun i hi => by
      have : i = 0 := by omega
      subst this; rw [e0]; exact Nat.le_refl _, by rw [e1]; exact step _ _ (by decide)⟩
  | 2, _ => exact ⟨2 ^ 420, Nat.pow_pos (by decide), fun i hi => by
      have : i = 0 ∨ i = 1 := by omega
      rcases this with rfl | rfl
      · rw [e0]; exact le2 _ _ (by decide)
      · rw [e1]; exact le2 _ _ (by decide), by rw [e2]; exact step _ _ (by decide)⟩
  | 3, _ => exact ⟨2 ^ 2170, Nat.pow_pos (by decide), fun i hi => by
      have : i = 0 ∨ i = 1 ∨ i = 2 := by omega
      rcases this with rfl | rfl | rfl
      · rw [e0]; exact le2 _ _ (by decide)
      · rw [e1]; exact le2 _ _ (by decide)
      · rw [e2]; exact le2 _ _ (by decide), by rw [e3]; exact step _ _ (by decide)⟩
  | 4, _ => exact ⟨2 ^ 10920, Nat.pow_pos (by decide), fun i hi => by
      have : i = 0 ∨ i = 1 ∨ i = 2 ∨ i = 3 := by omega
      rcases this with rfl | rfl | rfl | rfl
      · rw [e0]; exact le2 _ _ (by decide)
      · rw [e1]; exact le2 _ _ (by decide)
      · rw [e2]; exact le2 _ _ (by decide)
      · rw [e3]; exact le2 _ _ (by decide), by rw [e4]; exact step _ _ (by decide)⟩
/-- two polynomials that agree at Kp agree -/
theorem at_Kp {n B1 B2 d1 d2 : Nat} {f g : Fn} (hn : n ≤ 5) (hf : Pol n B1 d1 f) (hg : Pol n B2 d2 g) (hB : B1 + B2 ≤ 2 ^ 69) (h1 : d1 ≤ 5) (h2 : d2 ≤ 5) (h : f Kp = g Kp) : ∀ x, f x = g x := by
  have hd := (hf.mono (Nat.le_refl _) h1).add ((hg.mono (Nat.le_refl _) h2).neg)
  have := hd.unique (K := Kp) (B := 2 ^ 69) (d := 5) hB (Nat.le_refl _) (fun j hj => Kp_far j (by omega)) (by show f Kp + - g Kp = 0; rw [h]; omega)
  intro x
  have := this x

  omega

end
section
set_option maxRecDepth 4000
open Builtin.Int (intBits)

noncomputable def nmZ : Nat → List Str
  | 0 => ["local", "c7.net"]
  | k + 1 => nmZ k ++ (nmZ k).map fun y => lab.getD k "" ++ "." ++ y
theorem trun_sub : ∀ (r : List Int) (k : Nat) (s : TS), s.nm.length = k + 1 → (∀ y ∈ s.nm, y ∈ nmZ k) → ∀ y ∈ (trun r k s).nm, y ∈ nmZ (k + r.length)
  | [], k, s, _, h => h
  | d :: r, k, s, hl, h => by
    have h0 : 0 ≤ d.fmod (s.nm.length : Int) := Int.fmod_nonneg_of_pos _ (by omega)
    have h1 : d.fmod (s.nm.length : Int) < (s.nm.length : Int) := Int.fmod_lt_of_pos _ (by omega)
    have hm : s.nm.getD (d.fmod (s.nm.length : Int)).toNat "" ∈ s.nm := getD_mem (by omega)
    have := trun_sub r (k + 1) (tstep s k d) (by simp [tstep, hl]) (fun y hy => ?_)
    · rw [List.length_cons, show k + (r.length + 1) = k + 1 + r.length by omega]
      exact this
    · rcases List.mem_append.mp hy with hy | hy
      · exact List.mem_append_left _ (h y hy)
      · rw [List.mem_singleton] at hy
        subst hy
        exact List.mem_append_right _ (List.mem_map.mpr ⟨_, h _ hm, rfl⟩)
theorem nmZ_mono {k : Nat} : ∀ (j : Nat) {y : Str}, y ∈ nmZ k → y ∈ nmZ (k + j)
  | 0, _, h => h
  | j + 1, _, h => List.mem_append_left _ (nmZ_mono j h)
theorem treeOf_sub (ds : List Int) (h : ds.length ≤ 5) : ∀ y ∈ (treeOf ds).nm, y ∈ nmZ 4 := by
  intro y hy
  have := trun_sub ds.dropLast 0 ⟨[topOf ds], [], []⟩ rfl (by
    intro y hy
    rw [List.mem_singleton] at hy
    subst hy
    unfold topOf
    split
    · exact List.mem_cons_self
    · exact List.mem_cons_of_mem _ List.mem_cons_self) y hy
  rw [List.length_dropLast] at this
  have h2 := nmZ_mono (4 - (0 + (ds.length - 1))) this
  rwa [show 0 + (ds.length - 1) + (4 - (0 + (ds.length - 1))) = 4 by omega] at h2
noncomputable def xOf (ds : List Int) (i : Nat) : Int := if i < ds.length - 1 then (ds.getD i 0).fdiv 96 else (ds.getLastD 0).fdiv 2
theorem fdiv_abs {a b : Int} {M : Nat} (hb : 0 < b) (h : a.natAbs ≤ M) : (a.fdiv b).natAbs ≤ M := by
  have h1 := Int.mul_fdiv_add_fmod a b
  have h2 := Int.fmod_nonneg_of_pos a hb
  have h3 := Int.fmod_lt_of_pos a hb
  generalize a.fdiv b = q at *
  generalize a.fmod b = r at *
  have h4 : b * q ≤ a := by omega
  have h5 : a < b * (q + 1) := by rw [Int.mul_add]; omega
  have h6 : q ≤ M := by
    by_cases hq : q ≤ 0
    · omega
    · have : q * 1 ≤ q * b := Int.mul_le_mul_of_nonneg_left (by omega) (by omega)
      rw [Int.mul_comm q b] at this
      omega
  have h7 : -(M : Int) - 1 < q := by
    by_cases hq : 0 ≤ q
    · omega
    · have : (q + 1) * b ≤ (q + 1) * 1 := by
        by_cases hq1 : q + 1 = 0
        · rw [hq1]; omega
        · exact Int.mul_le_mul_of_nonpos_left (by omega) (by omega)
      rw [Int.mul_comm (q + 1) b] at this
      omega
  omega
theorem xOf_abs {ds : List Int} (h : ∀ d ∈ ds, -(10 ^ 12) < d ∧ d < 10 ^ 12) (i : Nat) : (xOf ds i).natAbs ≤ 10 ^ 12 := by
  have hg : ∀ d ∈ ds, d.natAbs ≤ 10 ^ 12 := fun d hd => by have := h d hd; omega
  unfold xOf
  split
  · refine fdiv_abs (by decide) ?_
    rw [List.getD_eq_getElem?_getD]
    cases he : ds[i]? with
    | none => simp
    | some d => exact hg d (List.mem_of_getElem? he)
  · refine fdiv_abs (by decide) ?_
    rw [List.getLastD_eq_getLast?]
    cases he : ds.getLast? with
    | none => simp
    | some d => exact hg d (List.mem_of_getLast? he)
theorem pars_shape (ds : List Int) : pars ds.dropLast 0 ∈ gen (ds.length - 1) 0 := by
  have := pars_gen ds.dropLast 0
  rwa [List.length_dropLast] at this
theorem tree_tn (ds : List Int) : (treeOf ds).nm = (tnOf (pars ds.dropLast 0) ((ds.getLastD 0).fmod 2 == 0)).nm ∧ (treeOf ds).ab = (tnOf (pars ds.dropLast 0) ((ds.getLastD 0).fmod 2 == 0)).ab ∧ (treeOf ds).ln = mapV (xOf ds) (tnOf (pars ds.dropLast 0) ((ds.getLastD 0).fmod 2 == 0)).ln := by
  refine tn_run (xOf ds) ds.dropLast 0 _ _ rfl rfl rfl rfl (fun i hi => ?_)
  rw [List.length_dropLast] at hi
  unfold xOf
  rw [if_pos (by omega), Nat.zero_add, List.getElem_dropLast, List.getD_eq_getElem?_getD, List.getElem?_eq_getElem (by omega)]
  rfl

end
section
open Builtin.Int (intBits)
set_option maxRecDepth 4000
theorem all_law (hw : ∀ y ∈ nmZ 4, wct y = true ∧ wcg y = true)
    (ds : List Int) (hz : ds.length = 4 ∨ ds.length = 5) (hd : ∀ d ∈ ds, -(10 ^ 12) < d ∧ d < 10 ^ 12) (hck : chk (pars ds.dropLast 0) ((ds.getLastD 0).fmod 2 == 0) = true) : ∃ items f fd es wf steps m' toll, LawOk ds items f fd es wf steps m' toll := by
  obtain ⟨t1, t2, t3⟩ := tree_tn ds
  have hpl : (pars ds.dropLast 0).length = ds.length - 1 := by rw [pars_len, List.length_dropLast]
  generalize hn : ds.length - 1 = n at *
  have hn4 : n = 3 ∨ n = 4 := by omega
  have hxn : xOf ds n = (ds.getLastD 0).fdiv 2 := by unfold xOf; rw [if_neg (by omega)]
  have hxa := xOf_abs hd
  generalize ht : tnOf (pars ds.dropLast 0) ((ds.getLastD 0).fmod 2 == 0) = t at *
  unfold chk at hck
  rw [ht, hpl] at hck
  split at hck
  · cases hck
  rename_i fd es hcl
  split at hck
  · cases hck
  rename_i ws hwg
  simp only [Bool.and_eq_true] at hck
  obtain ⟨⟨⟨k0, k1⟩, k2⟩, k3⟩ := hck
  unfold chk1 at k1
  simp only [Bool.and_eq_true] at k1
  obtain ⟨⟨⟨⟨q1, q2⟩, q3⟩, q4⟩, q5⟩ := k1
  have hpm : fd.Perm (treeOf ds).nm := by rw [t1]; exact List.isPerm_iff.mp q1
  have htok := treeOf_ok ds (by omega)
  have hnl : (treeOf ds).nm.length = n + 1 := by rw [htok.n]; omega
  have hfl : fd.length = n + 1 := by rw [hpm.length_eq, hnl]
  have hfz : ∀ y ∈ fd, y ∈ nmZ 4 := fun y hy => treeOf_sub ds (by omega) y (hpm.mem_iff.mp hy)
  rw [List.all_eq_true] at q2 q5
  have q3 := of_decide_eq_true q3
  have q4 := of_decide_eq_true q4
  have hes : ∀ t ∈ fd, (∃ e, getG es t = some e) ∧ (shareOf es t).natAbs ≤ 10 := fun y hy => by
    have := q5 y hy
    simp only [Bool.and_eq_true] at this
    exact ⟨Option.isSome_iff_exists.mp this.1, of_decide_eq_true this.2⟩
  unfold chk2 at k2
  rw [List.all_eq_true] at k2
  have hk2 : ∀ h ∈ fd, (∃ p, getG ws h = some p) ∧ (∀ t ∈ fd, (wyS ws h t).length ≤ 10 ∧ ∀ k ∈ wyS ws h t, k < n) ∧ hopsS es ws h fd 0 = n ∧ farS Kp es ws h fd 0 = (stepsX Kp n).sum := fun h hh => by
    have := k2 h hh
    simp only [Bool.and_eq_true] at this
    obtain ⟨⟨⟨a1, a2⟩, a3⟩, a4⟩ := this
    refine ⟨Option.isSome_iff_exists.mp a1, fun t ht => ?_, of_decide_eq_true a3, of_decide_eq_true a4⟩
    rw [List.all_eq_true] at a2
    have := a2 t ht
    simp only [Bool.and_eq_true, List.all_eq_true] at this
    exact ⟨of_decide_eq_true this.1, fun k hk => of_decide_eq_true (this.2 k hk)⟩
  have hsl : ∀ x, (stepsX x n).length = n := fun x => by unfold stepsX; rw [List.length_map, List.length_range]
  have hlv : (itemsOf (treeOf ds).nm (treeOf ds).ab ds.dropLast 0).map (·.w) = leaves t.nm t.ab n 0 := by
    rw [items_leaves, List.length_dropLast, hn, t1, t2]
  have hne : itemsOf (treeOf ds).nm (treeOf ds).ab ds.dropLast 0 ≠ [] := by
    intro e
    rw [e] at hlv
    rw [← hlv] at k0
    simp at k0
  have htx : (textOf ds).cps.toList = itText (itemsOf (treeOf ds).nm (treeOf ds).ab ds.dropLast 0) := by
    unfold textOf
    rw [tx_items]
    rfl
  have hok : ∀ i ∈ itemsOf (treeOf ds).nm (treeOf ds).ab ds.dropLast 0, i.Ok := by
    refine items_ok (fun y hy => ⟨(htok.nm y hy).1, fun e => ?_⟩) _ _ ?_
    · have := q2 y (t1 ▸ hy)
      rw [e] at this
      simp at this
    · rw [List.length_dropLast, hnl]; omega
  have hlb : ∀ l : List Nat, l.length ≤ 10 → (lsum (xOf ds) l).natAbs ≤ 10 * 10 ^ 12 := fun l hl =>
    Nat.le_trans (lsum_abs hxa l) (Nat.mul_le_mul_right _ hl)
  -- the determinant
  let rowsF : List (List Fn) := fd.map fun h => fd.map fun t => fun x => x n + lsum x (wyS ws h t)
  have hrows : ∀ x : Nat → Int, rowsF.map (·.map (fun f : Fn => f x)) = rowsX x n fd ws := fun x => by
    show (fd.map _).map _ = fd.map _
    rw [List.map_map]
    congr 1
    funext h
    show (fd.map _).map _ = _
    rw [List.map_map]
    rfl
  have hat : ∀ x : Nat → Int, dpRowsI (n + 1) (rowsX x n fd ws) [(0, 1)] = (dpRowsF (n + 1) rowsF [(0, fun _ => 1)]).map (mapH (fun f : Fn => f x)) := fun x => by
    rw [← hrows x]
    exact dpRowsF_at x (n + 1) rowsF [(0, fun _ => 1)]
  unfold chk3 at k3
  rw [hat Kp] at k3
  cases hmF : dpRowsF (n + 1) rowsF [(0, fun _ => 1)] with
  | none => rw [hmF] at k3; cases k3
  | some mF =>
  rw [hmF] at k3 hat
  simp only [Option.map_some] at k3 hat
  rw [getH_mapH] at k3
  cases hv : getH mF (2 ^ (n + 1) - 1) with
  | none => rw [hv] at k3; cases k3
  | some vF =>
  rw [hv] at k3
  simp only [Option.map_some] at k3
  have hvK : vF Kp = dueX Kp n := of_decide_eq_true k3
  have hent : ∀ row ∈ rowsF, ∀ f ∈ row, Pol (n + 1) 11 1 f := by
    intro row hrow f hf
    obtain ⟨h, hh, rfl⟩ := List.mem_map.mp hrow
    obtain ⟨t, ht, rfl⟩ := List.mem_map.mp hf
    obtain ⟨l1, l2⟩ := (hk2 h hh).2.1 t ht
    have := (Pol.var (n := n + 1) (d := 0) (Nat.lt_succ_self n)).add (lsum_pol (N := n + 1) (d := 0) (wyS ws h t) fun k hk => Nat.lt_succ_of_lt (l2 k hk))
    exact this.mono (by omega) (Nat.le_refl _)
  have hpol := dpRowsF_pol rowsF [(0, fun _ => 1)] mF 1 0 hent (fun p hp => by
    rw [List.mem_singleton] at hp
    subst hp
    exact Pol.con (c := 1) (fun _ => rfl) (by decide)) (by decide) hmF
  have hrl : rowsF.length = n + 1 := by show (fd.map _).length = _; rw [List.length_map, hfl]
  rw [hrl] at hpol
  have hvp := hpol _ (getH_mem hv)
  have hdet : ∀ x, vF x = dueX x n := by
    refine at_Kp (n := n + 1) (by omega) hvp (due_pol (n := n) (by omega)) ?_ (by omega) (by omega) hvK
    rcases hn4 with rfl | rfl <;> decide
  refine ⟨itemsOf (treeOf ds).nm (treeOf ds).ab ds.dropLast 0, 20, fd, es, wfX (xOf ds) ws, stepsX (xOf ds) n, mapH (fun f : Fn => f (xOf ds)) mF, xOf ds n, ?_⟩
  have hway : ∀ h t, (wayOf (wfX (xOf ds) ws) h t) = phi (xOf ds) (wyS ws h t) := fun h t => wayOf_X _ _ _ _
  refine ⟨htx, hok, hne, ?_, ?_, hpm, ?_, ?_, ?_, ?_, ?_, ?_, ?_, ?_, ?_, ?_, hxn, ?_, ?_, ?_, ?_, ?_⟩
  · have := it_len (10 + 5 * 4) (treeOf ds).nm (treeOf ds).ab (fun x hx => by have := (htok.nm x hx).2; omega) ds.dropLast 0
    rw [List.length_dropLast, hn] at this
    have : n * (2 * (10 + 5 * 4) + 3) ≤ 4 * (2 * (10 + 5 * 4) + 3) := Nat.mul_le_mul_right _ (by omega)
    omega
  · rw [hlv]; exact hcl
  · rw [lnA_count, ← it_count _ hok, ← htx]
    congr 1
    exact (count_one (textOf ds) 10).symm
  · rw [t1, t3]
    have : (fun y => getG (mapV (xOf ds) t.ln) y) = fun y => (getG t.ln y).map (xOf ds) := funext fun y => getG_mapV _ _ _
    show t.nm.tail.map (fun y => getG (mapV (xOf ds) t.ln) y) = _
    rw [this]
    have e2 : t.nm.tail.map (fun y => (getG t.ln y).map (xOf ds)) = (t.nm.tail.map (getG t.ln)).map (Option.map (xOf ds)) := by rw [List.map_map]; rfl
    rw [e2, q3, List.map_map]
    unfold stepsX
    rw [List.map_map]
    rfl
  · rw [hsl]; omega
  · rw [hsl]; omega
  · rw [hsl]; exact q4
  · have := wGates_mapV (phi (xOf ds)) (ad := (· ++ ·)) (ad' := ad2) (phi_app (xOf ds)) (fun g => (getG t.ln g).map fun k => [k]) fd (t.nm.getD 0 "") fd (w0 fd [])
    rw [hwg] at this
    have e0 : mapV (mapV (phi (xOf ds))) (w0 fd ([] : List (Str × List (Str × List Nat)))) = w0 fd [] := (w0_mapV (phi (xOf ds)) fd []).symm
    rw [e0] at this
    rw [t1, t3]
    refine Eq.trans ?_ this
    congr 1
    funext g
    rw [getG_mapV]
    cases getG t.ln g with
    | none => rfl
    | some k => show some _ = some _; rw [phi_one]
  · exact fun t ht g hg => WC.of (hw t (hfz t ht)).1 (hw g (hfz g hg)).2
  · exact fun t ht => (hes t ht).1
  · intro h hh t ht
    rw [hway]
    obtain ⟨l1, l2⟩ := (hk2 h hh).2.1 t ht
    refine ⟨Nat.le_trans (bits_small (Nat.le_trans (hes t ht).2 (by decide))) (by decide), Nat.le_trans (bits_small ?_) (by decide), Nat.le_trans (bits_small (Nat.le_trans (hlb _ l1) (by decide))) (by decide)⟩
    show ((wyS ws h t).length : Int).natAbs ≤ _
    rw [Int.natAbs_natCast]
    exact Nat.le_trans l1 (by decide)
  · intro h hh
    obtain ⟨⟨p, hp⟩, b1, b2, b3⟩ := hk2 h hh
    refine ⟨⟨_, by unfold wfX; rw [getG_mapV, hp]; rfl⟩, ?_, ?_⟩
    · rw [hops_X, hsl]; exact b2
    · rw [far_X]
      have hf := far_pol (N := n + 1) (es := es) (ws := ws) (h := h) fd 0 (fun _ => 0) (fun t ht => ⟨(hes t ht).2, (b1 t ht).1, fun k hk => Nat.lt_succ_of_lt ((b1 t ht).2 k hk)⟩) (Pol.zero fun _ => rfl)
      refine at_Kp (n := n + 1) (by omega) hf (steps_pol (N := n + 1) (n := n) (by omega)) ?_ (by omega) (by omega) b3 (xOf ds)
      rw [hfl]
      rcases hn4 with rfl | rfl <;> decide
  · exact Nat.le_trans (bits_small (Nat.le_trans (hxa n) (by decide))) (by decide)
  · intro s hs
    obtain ⟨k, _, rfl⟩ := List.mem_map.mp hs
    exact Nat.le_trans (bits_small (Nat.le_trans (hxa k) (by decide))) (by decide)
  · intro h hh t ht
    rw [hway]
    obtain ⟨l1, l2⟩ := (hk2 h hh).2.1 t ht
    refine bits_small (Nat.le_trans (Int.natAbs_add_le _ _) ?_)
    have h1 := hxa n
    have h2 := hlb _ l1
    show _ + (lsum (xOf ds) (wyS ws h t)).natAbs ≤ _
    omega
  · rw [hfl]
    have e : (fd.map fun h => fd.map fun t => xOf ds n + (wayOf (wfX (xOf ds) ws) h t).2) = rowsX (xOf ds) n fd ws := by
      unfold rowsX
      congr 1
      funext h
      congr 1
      funext t
      rw [hway]; rfl
    rw [e]
    exact hat (xOf ds)
  · rw [getH_mapH, hfl, hv]
    show some (vF (xOf ds)) = _
    rw [hdet]
    rfl

end
section
/-- lower and upper on the names' signs -/
theorem low_self {x : Str} (h : ∀ c ∈ x.cps.toList, c ∈ 119 :: chs) : Txt.lower x = x := by
  have hA : ∀ c ∈ 119 :: chs, c < 128 := by decide
  have hl : ∀ c ∈ 119 :: chs, lo1 c = c := by decide
  rw [lower_ascii fun c hc => hA c (h c hc)]
  apply str_ext
  show (x.cps.map lo1).toList = _
  rw [Array.toList_map]
  conv => rhs; rw [← List.map_id x.cps.toList]
  exact List.map_congr_left fun c hc => hl c (h c hc)
theorem low_w {t : Str} (h : OkN t) : Txt.lower ("w." ++ t) = "w." ++ t := low_self fun c hc => by
  have h0 : ∀ c ∈ ("w." : Str).cps.toList, c ∈ 119 :: chs := by decide
  rw [cps_app] at hc
  rcases List.mem_append.mp hc with hc | hc
  · exact h0 c hc
  · exact List.mem_cons_of_mem _ (h c hc)
theorem up_ok {g : Str} (h : OkN g) : Txt.upper g = ⟨g.cps.map up1⟩ := upper_ascii fun c hc => chs_ascii c (h c hc)
theorem low_g {g : Str} (h : OkN g) : Txt.lower ("." ++ Txt.upper g) = "." ++ g := by
  have hl : ∀ c ∈ chs, lo1 (up1 c) = c := by decide
  have hu : ∀ c ∈ chs, up1 c < 128 := by decide
  have h0 : ∀ c ∈ ("." : Str).cps.toList, c < 128 := by decide
  rw [up_ok h, lower_ascii fun c hc => ?_]
  · apply str_ext
    show ((("." : Str) ++ (⟨g.cps.map up1⟩ : Str)).cps.map lo1).toList = (("." : Str) ++ g).cps.toList
    rw [Array.toList_map, cps_app, cps_app, List.map_append]
    show _ ++ (g.cps.map up1).toList.map lo1 = _
    rw [Array.toList_map, List.map_map]
    congr 1
    conv => rhs; rw [← List.map_id g.cps.toList]
    exact List.map_congr_left fun c hc => hl c (h c hc)
  · rw [cps_app] at hc
    rcases List.mem_append.mp hc with hc | hc
    · exact h0 c hc
    · have hc' : c ∈ (g.cps.map up1).toList := hc
      rw [Array.toList_map] at hc'
      obtain ⟨d, hd, rfl⟩ := List.mem_map.mp hc'
      exact hu d (h d hd)
/-- domain_match of a name and a gate -/
noncomputable def dms (t g : Str) : Bool :=
  ("w." ++ t : Str).cps.toList == ("." ++ g : Str).cps.toList || (hdn ("w." ++ t) && !(Txt.rfind ("w." ++ t) ("." ++ g) == -1 || Txt.rfind ("w." ++ t) ("." ++ g) == 0) && Txt.startswith ("." ++ g) "." && hdn (Txt.slice ("." ++ g) (some 1) none))
theorem dmt_dms {t g : Str} (ht : OkN t) (hg : OkN g) : dmt ("w." ++ t) ("." ++ Txt.upper g) = dms t g := by
  unfold dmt dms
  rw [low_w ht, low_g hg]
/-- what is looked at of each of the 32 names -/
noncomputable def okb (y : Str) : Bool := y.cps.toList.all (fun c => chs.contains c) && decide (y.length ≤ 30) && ((Txt.slice ("." ++ y) (some 1) none).cps.toList == y.cps.toList) && srch y && srch ("w." ++ y)
structure Okb (y : Str) : Prop where
  ok : OkN y
  len : y.length ≤ 30
  sl : Txt.slice ("." ++ y) (some 1) none = y
  s : srch y = true
  sw : srch ("w." ++ y) = true
theorem okb_of {y : Str} (h : okb y = true) : Okb y := by
  unfold okb at h
  simp only [Bool.and_eq_true, decide_eq_true_eq] at h
  obtain ⟨⟨⟨⟨h1, h2⟩, h3⟩, h4⟩, h5⟩ := h
  refine ⟨fun c hc => ?_, h2, str_ext (beq_iff_eq.mp h3), h4, h5⟩
  rw [List.all_eq_true] at h1
  exact List.contains_iff_mem.mp (h1 c hc)
theorem long_ok {n : Nat} (h : n ≤ 40) : Builtin.Str.tooLong n = false := by
  unfold Builtin.Str.tooLong
  rw [sizeLine_eq]
  exact decide_eq_false (by omega)
theorem Okb.wct {y : Str} (h : Okb y) : wct y = true := by
  unfold Mine.wct
  have l2 : ("w." : Str).length = 2 := by decide
  have hl := h.len
  rw [low_w h.ok, h.sw, long_ok (by rw [Str.len_app, l2]; omega)]
  simp only [Bool.not_false, Bool.true_and, decide_eq_true_eq]
  rw [l2, sizeLine_eq]; omega
theorem Okb.wcg {y : Str} (h : Okb y) : wcg y = true := by
  unfold Mine.wcg
  have l1 : ("." : Str).length = 1 := by decide
  have hl := h.len
  have hu : (Txt.upper y).length = y.length := by
    rw [up_ok h.ok]
    exact Array.size_map
  rw [low_g h.ok, h.sl, h.s, long_ok (by rw [Str.len_app, l1]; omega), hu, long_ok (by omega), Str.len_app, l1, sizeLine_eq]
  simp only [Bool.not_false, Bool.true_and, Bool.and_true, Bool.and_eq_true, decide_eq_true_eq]
  omega
/-- the climb without the look for an address -/
noncomputable def climbS : Nat → Str → List Str → List (Str × Int) → Option (List Str × List (Str × Int))
  | 0, _, _, _ => none
  | f + 1, w, fd, en =>
    if fd.any (· == w) then some (fd, en)
    else if !(decide (w.length ≤ 900) && decide ((rch w).length ≤ 900) && decide (fd.length ≤ 40) && decide (en.length ≤ 40)) then none
    else if (rch w).cps.toList != w.cps.toList then
      if (upOf w).cps.toList == ("" : Str).cps.toList then none else climbS f (upOf w) (fd ++ [w]) (addI (cpyG en) (putG [(w, 1)] (upOf w) 1))
    else some (fd ++ [w], en)
theorem climbS_sub : ∀ (f : Nat) (w : Str) (fd : List Str) (en : List (Str × Int)) (r : List Str × List (Str × Int)), climbS f w fd en = some r → ∀ y ∈ fd, y ∈ r.1
  | 0, _, _, _, _, h, _, _ => by cases h
  | f + 1, w, fd, en, r, h, y, hy => by
    unfold climbS at h
    split at h
    · cases h; exact hy
    · split at h
      · cases h
      · split at h
        · split at h
          · cases h
          · exact climbS_sub f _ _ _ r h y (List.mem_append_left _ hy)
        · cases h; exact List.mem_append_left _ hy
theorem climbS_climb : ∀ (f : Nat) (w : Str) (fd : List Str) (en : List (Str × Int)) (r : List Str × List (Str × Int)), climbS f w fd en = some r → (∀ y ∈ r.1, srch y = true) → climb1 f w fd en = some r
  | 0, _, _, _, _, h, _ => by cases h
  | f + 1, w, fd, en, r, h, hs => by
    unfold climbS at h
    unfold climb1
    split
    · rename_i c; rw [if_pos c] at h; exact h
    · rename_i c
      rw [if_neg c] at h
      by_cases hw : srch w = true
      · rw [hw, Bool.true_and]
        split
        · rename_i c2; rw [if_pos c2] at h; cases h
        · rename_i c2
          rw [if_neg c2] at h
          split
          · rename_i c3
            rw [if_pos c3] at h
            split
            · rename_i c4; rw [if_pos c4] at h; cases h
            · rename_i c4
              rw [if_neg c4] at h
              exact climbS_climb f _ _ _ r h hs
          · rename_i c3; rw [if_neg c3] at h; exact h
      · exfalso
        apply hw
        split at h
        · cases h
        · split at h
          · split at h
            · cases h
            · exact hs w (climbS_sub f _ _ _ r h w (List.mem_append_right _ List.mem_cons_self))
          · cases h
            exact hs w (List.mem_append_right _ List.mem_cons_self)
noncomputable def climbAS (f : Nat) : List Str → List Str → List (Str × Int) → Option (List Str × List (Str × Int))
  | [], fd, es => some (fd, es)
  | w :: r, fd, es => match climbS f w fd es with
    | some (fd', es') => climbAS f r fd' es'
    | none => none
theorem climbAS_sub (f : Nat) : ∀ (l : List Str) (fd : List Str) (es : List (Str × Int)) (r : List Str × List (Str × Int)), climbAS f l fd es = some r → ∀ y ∈ fd, y ∈ r.1
  | [], fd, es, r, h, y, hy => by cases h; exact hy
  | w :: l, fd, es, r, h, y, hy => by
    unfold climbAS at h
    split at h
    · rename_i fd' es' e
      exact climbAS_sub f l fd' es' r h y (climbS_sub f w fd es _ e y hy)
    · cases h
theorem climbAS_climb (f : Nat) : ∀ (l : List Str) (fd : List Str) (es : List (Str × Int)) (r : List Str × List (Str × Int)), climbAS f l fd es = some r → (∀ y ∈ r.1, srch y = true) → climbAll f l fd es = some r
  | [], fd, es, r, h, _ => h
  | w :: l, fd, es, r, h, hs => by
    unfold climbAS at h
    split at h
    · rename_i fd' es' e
      unfold climbAll
      rw [climbS_climb f w fd es _ e fun y hy => hs y (climbAS_sub f l fd' es' r h y hy)]
      exact climbAS_climb f l fd' es' r h hs
    · cases h
/-- the ways, each gate's inner names told once -/
noncomputable def farP (fd inn : List Str) (h : Str) : List Str := if inn.any (· == h) then fd.filter (fun t => !(inn.any (· == t))) else inn
noncomputable def wHeresP {β : Type} (ad : β → β → β) (u : β) (fd inn : List Str) : List Str → List (Str × List (Str × β)) → Option (List (Str × List (Str × β)))
  | [], w => some w
  | h :: r, w => match getG w h with
    | some p => if p.length ≤ 50 then wHeresP ad u fd inn r (putG w h (addGen ad (cpyG p) (bldG u (farP fd inn h) []))) else none
    | none => none
noncomputable def wGatesP {β : Type} (ad : β → β → β) (u : Str → Option β) (fd : List Str) (top : Str) : List Str → List (Str × List (Str × β)) → Option (List (Str × List (Str × β)))
  | [], w => some w
  | g :: r, w => if g.cps.toList == top.cps.toList then wGatesP ad u fd top r w else match u g with
    | some v => match wHeresP ad v fd (fd.filter fun t => dms t g) fd w with
      | some w' => wGatesP ad u fd top r w'
      | none => none
    | none => none
theorem wHeres_P {β : Type} (ad : β → β → β) (u : β) (fd : List Str) (g : Str) : ∀ (r : List Str) (w : List (Str × List (Str × β))), wHeres ad u fd g r w = wHeresP ad u fd (innW fd g) r w
  | [], w => rfl
  | h :: r, w => by
    unfold wHeres wHeresP
    cases getG w h with
    | none => rfl
    | some p =>
      dsimp only
      by_cases hp : p.length ≤ 50
      · rw [if_pos hp, if_pos hp]
        exact wHeres_P ad u fd g r _
      · rw [if_neg hp, if_neg hp]
theorem inn_P {fd : List Str} {g : Str} (hf : ∀ y ∈ fd, OkN y) (hg : OkN g) : innW fd g = fd.filter fun t => dms t g := by
  unfold innW
  exact List.filter_congr fun t ht => dmt_dms (hf t ht) hg
theorem wGates_P {β : Type} (ad : β → β → β) (u : Str → Option β) (fd : List Str) (top : Str) (hf : ∀ y ∈ fd, OkN y) : ∀ (r : List Str) (w : List (Str × List (Str × β))), (∀ g ∈ r, OkN g) → wGates ad u fd top r w = wGatesP ad u fd top r w
  | [], w, _ => rfl
  | g :: r, w, hr => by
    unfold wGates wGatesP
    rw [← inn_P hf (hr g List.mem_cons_self)]
    have ih := fun w => wGates_P ad u fd top hf r w fun y hy => hr y (List.mem_cons_of_mem _ hy)
    by_cases hc : (g.cps.toList == top.cps.toList) = true
    · rw [if_pos hc, if_pos hc]
      exact ih w
    · rw [if_neg hc, if_neg hc]
      cases u g with
      | none => rfl
      | some v =>
        dsimp only
        rw [wHeres_P]
        cases wHeresP ad v fd (innW fd g) fd w with
        | none => rfl
        | some w' => exact ih w'
/-- the cheaper check of a shape -/
noncomputable def chkS (ps : List Nat) (top : Bool) : Bool :=
  match climbAS 20 (leaves (tnOf ps top).nm (tnOf ps top).ab ps.length 0) [] [] with
  | none => false
  | some (fd, es) => match wGatesP (· ++ ·) (fun g => (getG (tnOf ps top).ln g).map fun k => [k]) fd ((tnOf ps top).nm.getD 0 "") fd (w0 fd []) with
    | none => false
    | some ws => !(leaves (tnOf ps top).nm (tnOf ps top).ab ps.length 0).isEmpty && chk1 (tnOf ps top) ps.length fd es && chk2 ps.length fd es ws && chk3 ps.length fd ws
theorem chk_S {ps : List Nat} {top : Bool} (hn : ∀ y ∈ (tnOf ps top).nm, Okb y) (h : chkS ps top = true) : chk ps top = true := by
  unfold chkS at h
  split at h
  · cases h
  rename_i fd es hcl
  split at h
  · cases h
  rename_i ws hwg
  have hfd : ∀ y ∈ fd, Okb y := by
    simp only [Bool.and_eq_true] at h
    have q := h.1.1.2
    unfold chk1 at q
    simp only [Bool.and_eq_true] at q
    intro y hy
    exact hn y ((List.isPerm_iff.mp q.1.1.1.1).mem_iff.mp hy)
  unfold chk
  rw [climbAS_climb 20 _ _ _ _ hcl fun y hy => (hfd y hy).s]
  dsimp only
  rw [wGates_P _ _ fd _ (fun y hy => (hfd y hy).ok) fd _ (fun y hy => (hfd y hy).ok), hwg]
  exact h
theorem all_lawS (ho : ∀ y ∈ nmZ 4, Okb y) (h3 : ∀ ps ∈ gen 3 0, ∀ b, chkS ps b = true) (h4 : ∀ ps ∈ gen 4 0, ∀ b, chkS ps b = true)
    (ds : List Int) (hz : ds.length = 4 ∨ ds.length = 5) (hd : ∀ d ∈ ds, -(10 ^ 12) < d ∧ d < 10 ^ 12) : ∃ items f fd es wf steps m' toll, LawOk ds items f fd es wf steps m' toll := by
  refine all_law (fun y hy => ⟨(ho y hy).wct, (ho y hy).wcg⟩) ds hz hd (chk_S (fun y hy => ho y (treeOf_sub ds (by omega) y ((tree_tn ds).1 ▸ hy))) ?_)
  have hps := pars_shape ds
  rcases hz with h | h
  · rw [h] at hps; exact h3 _ hps _
  · rw [h] at hps; exact h4 _ hps _

end
section

noncomputable def vAt (vs : Array Value) (i : Nat) : Option Value := vs[i]?
noncomputable def fnSeen (K : Frag) (f : Addr) : Option (Value × Data) := (K.lookup f).map fun o => (o.cls, o.data)
noncomputable def fldsO (o : Obj) : Option (Array Value) := match o.data with | .fields vs => some vs | _ => none
theorem fldsO_eq {o : Obj} {vs : Array Value} (h : fldsO o = some vs) : o.data = .fields vs := by
  unfold fldsO at h
  split at h
  · rename_i e; cases h; exact e
  · cases h
noncomputable def isNoneV (v : Value) : Bool := match v with | .none => true | _ => false
noncomputable def strOf (v : Value) : Option Str := match v with | .str q _ => some q | _ => none
theorem strOf_eq {v : Value} {q : Str} (h : strOf v = some q) : ∃ t, v = .str q t := by
  unfold strOf at h
  split at h
  · cases h; exact ⟨_, rfl⟩
  · cases h
noncomputable def cdSeen (K : Frag) (c : Addr) : Option Str := (K.lookup c).bind fun o => if isNoneV o.cls then none else (fldsO o).bind fun vs => (vAt vs 1).bind strOf
theorem fnAt_of {C : Cx} {K : Frag} (X : K.In C.h₀) {f c : Addr} {fd : FuncData} (e1 : fnSeen K f = some (.type "function", .func fd)) (e2 : fd.code = .ref c) (e3 : cdSeen K c = some fd.qualname) : FnAt C f fd := by
  unfold fnSeen at e1
  cases hf : K.lookup f with
  | none => rw [hf] at e1; cases e1
  | some o =>
    rw [hf] at e1
    obtain ⟨q1, q2⟩ := Prod.mk.inj (Option.some.inj e1)
    refine ⟨⟨o, X _ _ hf, by rw [q1]; nofun, q2⟩, ?_⟩
    unfold cdSeen at e3
    obtain ⟨oc, hc, e3⟩ := Option.bind_eq_some_iff.mp e3
    by_cases hn : isNoneV oc.cls = true
    · rw [if_pos hn] at e3; cases e3
    · rw [if_neg hn] at e3
      obtain ⟨vs, hv, e3⟩ := Option.bind_eq_some_iff.mp e3
      obtain ⟨v, h1, e3⟩ := Option.bind_eq_some_iff.mp e3
      obtain ⟨t, rfl⟩ := strOf_eq e3
      exact ⟨c, oc, vs, t, e2, X _ _ hc, fun e => hn (by rw [e]; rfl), fldsO_eq hv, h1⟩
theorem mg_none {K : Frag} {h : Heap} {mg : Str → Option Value} {n : Str} (X : K.In h) (G : h.Ns mainGlobals mg) (e : nsIn K mainGlobals n = some none) : mg n = none := by
  obtain ⟨o, es, ep, ho, hd, _, hf⟩ := G
  unfold nsIn at e
  split at e
  · rename_i c d es' n' sl q
    have := X _ _ q
    rw [ho] at this
    cases this
    cases hd
    split at e
    · cases e
    · rename_i hfi
      rw [← hf n]
      unfold nsFind findBy
      rw [← Array.find?_toList, hfi]
      rfl
  · cases e
noncomputable def isTy (v : Value) (n : String) : Bool := match v with | .type m => m == n | _ => false
theorem isTy_eq {v : Value} {n : String} (h : isTy v n = true) : v = .type n := by
  unfold isTy at h
  split at h
  · rw [beq_iff_eq.mp h]
  · cases h
theorem isNoneV_eq {v : Value} (h : isNoneV v = true) : v = .none := by
  unfold isNoneV at h
  split at h
  · rfl
  · cases h
noncomputable def isRefV (v : Value) (P : Addr) : Bool := match v with | .ref q => q == P | _ => false
theorem isRefV_eq {v : Value} {P : Addr} (h : isRefV v P = true) : v = .ref P := by
  unfold isRefV at h
  split at h
  · rw [beq_iff_eq.mp h]
  · cases h
noncomputable def isIntV (v : Value) : Bool := match v with | .int _ _ => true | _ => false
theorem isIntV_eq {v : Value} (h : isIntV v = true) : ∃ x t, v = .int x t := by
  unfold isIntV at h
  split at h
  · exact ⟨_, _, rfl⟩
  · cases h
noncomputable def isBoolV (v : Value) : Bool := match v with | .bool _ => true | _ => false
theorem isBoolV_eq {v : Value} (h : isBoolV v = true) : ∃ x, v = .bool x := by
  unfold isBoolV at h
  split at h
  · exact ⟨_, rfl⟩
  · cases h
/-- a code and its empty table -/
noncomputable def codeVs (P : Addr) (vs : Array Value) : Bool := (vAt vs 11).any (fun v => isRefV v P) && (strOf (vs.getD 18 .none)).isSome && isIntV (vs.getD 7 .none) && isBoolV (vs.getD 9 .none) && isIntV (vs.getD 10 .none)
noncomputable def codeO (P : Addr) (o : Obj) : Bool := isTy o.cls "code" && (fldsO o).any (codeVs P)
noncomputable def tabO (o : Obj) : Bool := isNoneV o.cls && o.dict.isNone && (fldsO o).any (fun vs => vs.size == 0) && o.slots.size == 0
theorem tabO_eq {o : Obj} (h : tabO o = true) : o = { cls := .none, data := .fields #[] } := by
  unfold tabO at h
  simp only [Bool.and_eq_true, Option.any_eq_true, beq_iff_eq, Array.size_eq_zero_iff, Option.isNone_iff_eq_none] at h
  obtain ⟨⟨⟨h1, h2⟩, vs, h3, rfl⟩, h5⟩ := h
  obtain ⟨cl, d, dt, sl⟩ := o
  have e1 := isNoneV_eq h1
  have e2 := fldsO_eq h3
  dsimp only at e1 e2 h2 h5
  subst e1 e2 h2 h5
  rfl
noncomputable def tbTest (K : Frag) (c P : Addr) : Bool := (K.lookup c).any (codeO P) && (K.lookup P).any tabO && c != P
theorem tb_of {K : Frag} {h : Heap} {c P : Addr} (X : K.In h) (e : tbTest K c P = true) : h.IsCode c P #[] ∧ h.TableAt c P #[] := by
  unfold tbTest at e
  rw [Bool.and_eq_true, Bool.and_eq_true] at e
  obtain ⟨⟨e1, e2⟩, e3⟩ := e
  obtain ⟨oc, hc, e1⟩ := (Option.any_eq_true _ _).mp e1
  obtain ⟨oP, hP, e2⟩ := (Option.any_eq_true _ _).mp e2
  have hne : c ≠ P := bne_iff_ne.mp e3
  have eP := tabO_eq e2
  subst eP
  unfold codeO at e1
  rw [Bool.and_eq_true] at e1
  obtain ⟨t1, t2⟩ := e1
  obtain ⟨vs, hv, t2⟩ := (Option.any_eq_true _ _).mp t2
  unfold codeVs at t2
  simp only [Bool.and_eq_true] at t2
  obtain ⟨⟨⟨⟨t11, t18⟩, t7⟩, t9⟩, t10⟩ := t2
  obtain ⟨v11, h11, t11⟩ := (Option.any_eq_true _ _).mp t11
  have e11 := isRefV_eq t11
  subst e11
  obtain ⟨q, hq⟩ := Option.isSome_iff_exists.mp t18
  obtain ⟨tf, e18⟩ := strOf_eq hq
  obtain ⟨x7, g7, e7⟩ := isIntV_eq t7
  obtain ⟨x9, e9⟩ := isBoolV_eq t9
  obtain ⟨x10, g10, e10⟩ := isIntV_eq t10
  have hd : vs.getD 11 .none = .ref P := by rw [Array.getD_eq_getD_getElem?, show vs[11]? = some (.ref P) from h11]; rfl
  have hdat := fldsO_eq hv
  exact ⟨⟨oc, vs, q, tf, x7, g7, x9, x10, g10, _, X _ _ hc, hdat, hd, e18, e7, e9, e10, X _ _ hP, rfl, trivial, hne⟩, ⟨oc, vs, X _ _ hc, isTy_eq t1, hdat, h11⟩, X _ _ hP⟩
noncomputable def fnsL : List (Addr × Addr × FuncData) := [(43, 42, fd43), (50, 49, fd50), (57, 56, fd57), (106, 105, fd106), (113, 112, fd113), (120, 119, fd120), (127, 126, fd127), (134, 133, fd134), (141, 140, fd141), (148, 147, fd148), (155, 154, fd155), (162, 161, fd162), (169, 168, fd169), (174, 173, fd174), (181, 180, fd181), (188, 187, fd188), (195, 194, fd195), (202, 201, fd202), (207, 206, fd207), (214, 213, fd214), (219, 218, fd219), (71, 70, fd71), (78, 77, fd78), (85, 84, fd85), (92, 91, fd92)]
noncomputable def gNames : List (Str × Addr) := [("IPV4_RE", 36), ("is_HDN", 43), ("domain_match", 50), ("reach", 57), ("_netrclex", 95), ("ne", 106), ("add", 113), ("and_", 120), ("mul", 127), ("neg", 134), ("or_", 141), ("sub", 148), ("contains", 155), ("add_callers", 162), ("count_calls", 169), ("_law_seeds", 174), ("_law_written", 181), ("_law_tree", 188), ("_law_lexer", 195), ("_law_climbed", 202), ("_law_ways", 207), ("_law_determinant", 214), ("law", 219)]
noncomputable def bNames : List Str := ["len", "abs", "iter", "isinstance", "sorted", "sum", "range", "list", "tuple", "zip"]
theorem boot_len : bootBuiltins "len" = some (.builtin "len") := by decide +kernel
theorem boot_abs : bootBuiltins "abs" = some (.builtin "abs") := by decide +kernel
theorem boot_iter : bootBuiltins "iter" = some (.builtin "iter") := by decide +kernel
theorem boot_isinstance : bootBuiltins "isinstance" = some (.builtin "isinstance") := by decide +kernel
theorem boot_sorted : bootBuiltins "sorted" = some (.builtin "sorted") := by decide +kernel
theorem boot_sum : bootBuiltins "sum" = some (.builtin "sum") := by decide +kernel
theorem boot_range : bootBuiltins "range" = some (.type "range") := by decide +kernel
theorem boot_list : bootBuiltins "list" = some (.type "list") := by decide +kernel
theorem boot_tuple : bootBuiltins "tuple" = some (.type "tuple") := by decide +kernel
theorem boot_zip : bootBuiltins "zip" = some (.type "zip") := by decide +kernel
theorem fns_code : fnsL.map (fun p => p.2.2.code) = fnsL.map fun p => .ref p.2.1 := by kernel_rfl
structure Seen (K : Frag) : Prop where
  fn : fnsL.map (fun p => fnSeen K p.1) = fnsL.map fun p => some (.type "function", .func p.2.2)
  cd : fnsL.map (fun p => cdSeen K p.2.1) = fnsL.map fun p => some p.2.2.qualname
  g : gNames.map (fun p => nsIn K mainGlobals p.1) = gNames.map fun p => some (some (.ref p.2))
  b : bNames.map (fun p => nsIn K mainGlobals p) = bNames.map fun _ => some none
  t1 : tbTest K tAdd.c tAdd.P = true
  t2 : tbTest K tLex.c tLex.P = true
theorem Seen.fnAt {C : Cx} {K : Frag} (S : Seen K) (X : K.In C.h₀) {f c : Addr} {fd : FuncData} (hm : (f, c, fd) ∈ fnsL) : FnAt C f fd :=
  fnAt_of X (List.map_inj_left.mp S.fn _ hm) (List.map_inj_left.mp fns_code _ hm) (List.map_inj_left.mp S.cd _ hm)
theorem Seen.glob {K : Frag} (S : Seen K) {h : Heap} {mg : Str → Option Value} (X : K.In h) (G : h.Ns mainGlobals mg) {n : Str} {a : Addr} (hm : (n, a) ∈ gNames) : mg n = some (.ref a) :=
  mg_of X G (List.map_inj_left.mp S.g _ hm)
theorem Seen.noglob {K : Frag} (S : Seen K) {h : Heap} {mg : Str → Option Value} (X : K.In h) (G : h.Ns mainGlobals mg) {n : Str} (hm : n ∈ bNames) : mg n = none :=
  mg_none X G (List.map_inj_left.mp S.b _ hm)
theorem Seen.base {C : Cx} {K : Frag} (S : Seen K) (hp : C.prog = PySem.Challenge.pw_xo0025_01) (X : K.In C.h₀) (G : C.h₀.Ns mainGlobals C.mg) (hb : ∀ x : Str, x ≠ "__name__" → C.mb x = bootBuiltins x) : Base C where
  pr := hp
  f43 := S.fnAt X (.head _)
  f50 := S.fnAt X (.tail _ (.head _))
  f57 := S.fnAt X (.tail _ (.tail _ (.head _)))
  f106 := S.fnAt X (.tail _ (.tail _ (.tail _ (.head _))))
  f113 := S.fnAt X (.tail _ (.tail _ (.tail _ (.tail _ (.head _)))))
  f120 := S.fnAt X (.tail _ (.tail _ (.tail _ (.tail _ (.tail _ (.head _))))))
  f127 := S.fnAt X (.tail _ (.tail _ (.tail _ (.tail _ (.tail _ (.tail _ (.head _)))))))
  f134 := S.fnAt X (.tail _ (.tail _ (.tail _ (.tail _ (.tail _ (.tail _ (.tail _ (.head _))))))))
  f141 := S.fnAt X (.tail _ (.tail _ (.tail _ (.tail _ (.tail _ (.tail _ (.tail _ (.tail _ (.head _)))))))))
  f148 := S.fnAt X (.tail _ (.tail _ (.tail _ (.tail _ (.tail _ (.tail _ (.tail _ (.tail _ (.tail _ (.head _))))))))))
  f155 := S.fnAt X (.tail _ (.tail _ (.tail _ (.tail _ (.tail _ (.tail _ (.tail _ (.tail _ (.tail _ (.tail _ (.head _)))))))))))
  f162 := S.fnAt X (.tail _ (.tail _ (.tail _ (.tail _ (.tail _ (.tail _ (.tail _ (.tail _ (.tail _ (.tail _ (.tail _ (.head _))))))))))))
  f169 := S.fnAt X (.tail _ (.tail _ (.tail _ (.tail _ (.tail _ (.tail _ (.tail _ (.tail _ (.tail _ (.tail _ (.tail _ (.tail _ (.head _)))))))))))))
  f174 := S.fnAt X (.tail _ (.tail _ (.tail _ (.tail _ (.tail _ (.tail _ (.tail _ (.tail _ (.tail _ (.tail _ (.tail _ (.tail _ (.tail _ (.head _))))))))))))))
  f181 := S.fnAt X (.tail _ (.tail _ (.tail _ (.tail _ (.tail _ (.tail _ (.tail _ (.tail _ (.tail _ (.tail _ (.tail _ (.tail _ (.tail _ (.tail _ (.head _)))))))))))))))
  f188 := S.fnAt X (.tail _ (.tail _ (.tail _ (.tail _ (.tail _ (.tail _ (.tail _ (.tail _ (.tail _ (.tail _ (.tail _ (.tail _ (.tail _ (.tail _ (.tail _ (.head _))))))))))))))))
  f195 := S.fnAt X (.tail _ (.tail _ (.tail _ (.tail _ (.tail _ (.tail _ (.tail _ (.tail _ (.tail _ (.tail _ (.tail _ (.tail _ (.tail _ (.tail _ (.tail _ (.tail _ (.head _)))))))))))))))))
  f202 := S.fnAt X (.tail _ (.tail _ (.tail _ (.tail _ (.tail _ (.tail _ (.tail _ (.tail _ (.tail _ (.tail _ (.tail _ (.tail _ (.tail _ (.tail _ (.tail _ (.tail _ (.tail _ (.head _))))))))))))))))))
  f207 := S.fnAt X (.tail _ (.tail _ (.tail _ (.tail _ (.tail _ (.tail _ (.tail _ (.tail _ (.tail _ (.tail _ (.tail _ (.tail _ (.tail _ (.tail _ (.tail _ (.tail _ (.tail _ (.tail _ (.head _)))))))))))))))))))
  f214 := S.fnAt X (.tail _ (.tail _ (.tail _ (.tail _ (.tail _ (.tail _ (.tail _ (.tail _ (.tail _ (.tail _ (.tail _ (.tail _ (.tail _ (.tail _ (.tail _ (.tail _ (.tail _ (.tail _ (.tail _ (.head _))))))))))))))))))))
  f219 := S.fnAt X (.tail _ (.tail _ (.tail _ (.tail _ (.tail _ (.tail _ (.tail _ (.tail _ (.tail _ (.tail _ (.tail _ (.tail _ (.tail _ (.tail _ (.tail _ (.tail _ (.tail _ (.tail _ (.tail _ (.tail _ (.head _)))))))))))))))))))))
  f71 := S.fnAt X (.tail _ (.tail _ (.tail _ (.tail _ (.tail _ (.tail _ (.tail _ (.tail _ (.tail _ (.tail _ (.tail _ (.tail _ (.tail _ (.tail _ (.tail _ (.tail _ (.tail _ (.tail _ (.tail _ (.tail _ (.tail _ (.head _))))))))))))))))))))))
  f78 := S.fnAt X (.tail _ (.tail _ (.tail _ (.tail _ (.tail _ (.tail _ (.tail _ (.tail _ (.tail _ (.tail _ (.tail _ (.tail _ (.tail _ (.tail _ (.tail _ (.tail _ (.tail _ (.tail _ (.tail _ (.tail _ (.tail _ (.tail _ (.head _)))))))))))))))))))))))
  f85 := S.fnAt X (.tail _ (.tail _ (.tail _ (.tail _ (.tail _ (.tail _ (.tail _ (.tail _ (.tail _ (.tail _ (.tail _ (.tail _ (.tail _ (.tail _ (.tail _ (.tail _ (.tail _ (.tail _ (.tail _ (.tail _ (.tail _ (.tail _ (.tail _ (.head _))))))))))))))))))))))))
  f92 := S.fnAt X (.tail _ (.tail _ (.tail _ (.tail _ (.tail _ (.tail _ (.tail _ (.tail _ (.tail _ (.tail _ (.tail _ (.tail _ (.tail _ (.tail _ (.tail _ (.tail _ (.tail _ (.tail _ (.tail _ (.tail _ (.tail _ (.tail _ (.tail _ (.tail _ (.head _)))))))))))))))))))))))))
  g_IPV4_RE := S.glob X G (.head _)
  g_is_HDN := S.glob X G (.tail _ (.head _))
  g_domain_match := S.glob X G (.tail _ (.tail _ (.head _)))
  g_reach := S.glob X G (.tail _ (.tail _ (.tail _ (.head _))))
  g__netrclex := S.glob X G (.tail _ (.tail _ (.tail _ (.tail _ (.head _)))))
  g_ne := S.glob X G (.tail _ (.tail _ (.tail _ (.tail _ (.tail _ (.head _))))))
  g_add := S.glob X G (.tail _ (.tail _ (.tail _ (.tail _ (.tail _ (.tail _ (.head _)))))))
  g_and_ := S.glob X G (.tail _ (.tail _ (.tail _ (.tail _ (.tail _ (.tail _ (.tail _ (.head _))))))))
  g_mul := S.glob X G (.tail _ (.tail _ (.tail _ (.tail _ (.tail _ (.tail _ (.tail _ (.tail _ (.head _)))))))))
  g_neg := S.glob X G (.tail _ (.tail _ (.tail _ (.tail _ (.tail _ (.tail _ (.tail _ (.tail _ (.tail _ (.head _))))))))))
  g_or_ := S.glob X G (.tail _ (.tail _ (.tail _ (.tail _ (.tail _ (.tail _ (.tail _ (.tail _ (.tail _ (.tail _ (.head _)))))))))))
  g_sub := S.glob X G (.tail _ (.tail _ (.tail _ (.tail _ (.tail _ (.tail _ (.tail _ (.tail _ (.tail _ (.tail _ (.tail _ (.head _))))))))))))
  g_contains := S.glob X G (.tail _ (.tail _ (.tail _ (.tail _ (.tail _ (.tail _ (.tail _ (.tail _ (.tail _ (.tail _ (.tail _ (.tail _ (.head _)))))))))))))
  g_add_callers := S.glob X G (.tail _ (.tail _ (.tail _ (.tail _ (.tail _ (.tail _ (.tail _ (.tail _ (.tail _ (.tail _ (.tail _ (.tail _ (.tail _ (.head _))))))))))))))
  g_count_calls := S.glob X G (.tail _ (.tail _ (.tail _ (.tail _ (.tail _ (.tail _ (.tail _ (.tail _ (.tail _ (.tail _ (.tail _ (.tail _ (.tail _ (.tail _ (.head _)))))))))))))))
  g__law_seeds := S.glob X G (.tail _ (.tail _ (.tail _ (.tail _ (.tail _ (.tail _ (.tail _ (.tail _ (.tail _ (.tail _ (.tail _ (.tail _ (.tail _ (.tail _ (.tail _ (.head _))))))))))))))))
  g__law_written := S.glob X G (.tail _ (.tail _ (.tail _ (.tail _ (.tail _ (.tail _ (.tail _ (.tail _ (.tail _ (.tail _ (.tail _ (.tail _ (.tail _ (.tail _ (.tail _ (.tail _ (.head _)))))))))))))))))
  g__law_tree := S.glob X G (.tail _ (.tail _ (.tail _ (.tail _ (.tail _ (.tail _ (.tail _ (.tail _ (.tail _ (.tail _ (.tail _ (.tail _ (.tail _ (.tail _ (.tail _ (.tail _ (.tail _ (.head _))))))))))))))))))
  g__law_lexer := S.glob X G (.tail _ (.tail _ (.tail _ (.tail _ (.tail _ (.tail _ (.tail _ (.tail _ (.tail _ (.tail _ (.tail _ (.tail _ (.tail _ (.tail _ (.tail _ (.tail _ (.tail _ (.tail _ (.head _)))))))))))))))))))
  g__law_climbed := S.glob X G (.tail _ (.tail _ (.tail _ (.tail _ (.tail _ (.tail _ (.tail _ (.tail _ (.tail _ (.tail _ (.tail _ (.tail _ (.tail _ (.tail _ (.tail _ (.tail _ (.tail _ (.tail _ (.tail _ (.head _))))))))))))))))))))
  g__law_ways := S.glob X G (.tail _ (.tail _ (.tail _ (.tail _ (.tail _ (.tail _ (.tail _ (.tail _ (.tail _ (.tail _ (.tail _ (.tail _ (.tail _ (.tail _ (.tail _ (.tail _ (.tail _ (.tail _ (.tail _ (.tail _ (.head _)))))))))))))))))))))
  g__law_determinant := S.glob X G (.tail _ (.tail _ (.tail _ (.tail _ (.tail _ (.tail _ (.tail _ (.tail _ (.tail _ (.tail _ (.tail _ (.tail _ (.tail _ (.tail _ (.tail _ (.tail _ (.tail _ (.tail _ (.tail _ (.tail _ (.tail _ (.head _))))))))))))))))))))))
  g_law := S.glob X G (.tail _ (.tail _ (.tail _ (.tail _ (.tail _ (.tail _ (.tail _ (.tail _ (.tail _ (.tail _ (.tail _ (.tail _ (.tail _ (.tail _ (.tail _ (.tail _ (.tail _ (.tail _ (.tail _ (.tail _ (.tail _ (.tail _ (.head _)))))))))))))))))))))))
  b_len := ⟨S.noglob X G (.head _), (hb _ (by decide)).trans boot_len⟩
  b_abs := ⟨S.noglob X G (.tail _ (.head _)), (hb _ (by decide)).trans boot_abs⟩
  b_iter := ⟨S.noglob X G (.tail _ (.tail _ (.head _))), (hb _ (by decide)).trans boot_iter⟩
  b_isinstance := ⟨S.noglob X G (.tail _ (.tail _ (.tail _ (.head _)))), (hb _ (by decide)).trans boot_isinstance⟩
  b_sorted := ⟨S.noglob X G (.tail _ (.tail _ (.tail _ (.tail _ (.head _))))), (hb _ (by decide)).trans boot_sorted⟩
  b_sum := ⟨S.noglob X G (.tail _ (.tail _ (.tail _ (.tail _ (.tail _ (.head _)))))), (hb _ (by decide)).trans boot_sum⟩
  b_range := ⟨S.noglob X G (.tail _ (.tail _ (.tail _ (.tail _ (.tail _ (.tail _ (.head _))))))), (hb _ (by decide)).trans boot_range⟩
  b_list := ⟨S.noglob X G (.tail _ (.tail _ (.tail _ (.tail _ (.tail _ (.tail _ (.tail _ (.head _)))))))), (hb _ (by decide)).trans boot_list⟩
  b_tuple := ⟨S.noglob X G (.tail _ (.tail _ (.tail _ (.tail _ (.tail _ (.tail _ (.tail _ (.tail _ (.head _))))))))), (hb _ (by decide)).trans boot_tuple⟩
  b_zip := ⟨S.noglob X G (.tail _ (.tail _ (.tail _ (.tail _ (.tail _ (.tail _ (.tail _ (.tail _ (.tail _ (.head _)))))))))), (hb _ (by decide)).trans boot_zip⟩

end
section
noncomputable def subF (K : Frag) : Frag := K.filter fun p => ([71, 78, 85, 92, 94, 95] : List Nat).contains p.1
theorem lookup_filter (q : Nat → Bool) : ∀ (K : Frag) (a : Addr) (o : Obj), (K.filter fun p => q p.1).lookup a = some o → K.lookup a = some o
  | [], a, o, h => by cases h
  | p :: K, a, o, h => by
    obtain ⟨b, x⟩ := p
    rw [List.lookup_cons]
    rw [List.filter_cons] at h
    dsimp only at h
    by_cases hq : q b = true
    · rw [if_pos hq, List.lookup_cons] at h
      cases hb : a == b with
      | true => rw [hb] at h; exact h
      | false => rw [hb] at h; exact lookup_filter q K a o h
    · rw [if_neg hq] at h
      have h2 := lookup_filter q K a o h
      cases hb : a == b with
      | false => exact h2
      | true =>
        exfalso
        have e : a = b := beq_iff_eq.mp hb
        subst e
        have h3 : ∀ (L : Frag), (L.filter fun p => q p.1).lookup a = none := by
          intro L
          induction L with
          | nil => rfl
          | cons p L ih =>
            obtain ⟨c, y⟩ := p
            rw [List.filter_cons]
            dsimp only
            by_cases hc : q c = true
            · rw [if_pos hc, List.lookup_cons]
              have : (a == c) = false := by
                rw [beq_eq_false_iff_ne]
                intro e; subst e; exact hq hc
              rw [this]; exact ih
            · rw [if_neg hc]; exact ih
        rw [h3] at h; cases h
theorem subF_in {K : Frag} {h : Heap} (X : K.In h) : (subF K).In h := fun a o e => X a o (lookup_filter (fun n => ([71, 78, 85, 92, 94, 95] : List Nat).contains n) K a o e)
noncomputable def tyCls (o : Obj) : Bool := match o.cls with | .none => false | _ => true
structure CSeen (K : Frag) : Prop where
  real : K.all (fun p => tyCls p.2) = true
  ga : findIn K (.ref 95) "__getattribute__" = some (some (.builtin "object.__getattribute__"))
  noga : findIn K (.ref 95) "__getattr__" = some none
  sa : findIn K (.ref 95) "__setattr__" = some (some (.builtin "object.__setattr__"))
  over : plainOver K 95 = true
  hasd : hasDictIn K 95 = true
  make : makesIn K 95 = true
  keep : keepIn K (.ref 95) = true
  none_ : (["lineno", "instream", "whitespace", "pushback", "read"] : List Str).map (fun n => findIn K (.ref 95) n) = (["lineno", "instream", "whitespace", "pushback", "read"] : List Str).map fun _ => some none
  init : findIn K (.ref 95) "__init__" = some (some (.ref 71))
  m78 : findIn K (.ref 95) "_read_char" = some (some (.ref 78))
  m85 : findIn K (.ref 95) "get_token" = some (some (.ref 85))
  m92 : findIn K (.ref 95) "push_token" = some (some (.ref 92))
  fn : ([71, 78, 85, 92] : List Nat).all (fun f => isFn K (.ref f)) = true
  fget : specialIn K (.ref 78) "__get__" = some (some (.builtin "function.__get__"))
  ftake : takesIn K (.ref 78) = some false
theorem CSeen.ok {C : Cx} {K : Frag} (S : CSeen K) (X : K.In C.h₀) : ClsOk C K where
  inn := X
  real := fun a o e => by
    have : ∀ (L : Frag), L.all (fun p => tyCls p.2) = true → L.lookup a = some o → tyCls o = true := by
      intro L
      induction L with
      | nil => intro _ h; cases h
      | cons p L ih =>
        obtain ⟨b, x⟩ := p
        intro h1 h2
        rw [List.all_cons, Bool.and_eq_true] at h1
        rw [List.lookup_cons] at h2
        cases hb : a == b with
        | true => rw [hb] at h2; cases h2; exact h1.1
        | false => rw [hb] at h2; exact ih h1.2 h2
    have h := this K S.real e
    intro hc
    unfold tyCls at h
    rw [hc] at h
    cases h
  ga := S.ga
  noga := S.noga
  sa := S.sa
  over := S.over
  hasd := S.hasd
  make := S.make
  keep := S.keep
  none_ := fun n hn => List.map_inj_left.mp S.none_ n hn
  init := S.init
  m78 := S.m78
  m85 := S.m85
  m92 := S.m92
  fn := fun f hf => List.all_eq_true.mp S.fn f hf
  fget := S.fget
  ftake := S.ftake
theorem ints_er : ∀ {vs : List Value} {ns : List Int}, IntsAre vs ns → vs.map er = ns.map V.int
  | _, _, .nil => rfl
  | _, _, .cons n t h => by rw [List.map_cons, List.map_cons, ints_er h]; rfl
noncomputable def bmSeen (K : Frag) : Bool := match nsIn K mainGlobals "__builtins__" with
  | some (some (.ref b)) => b != builtinsNs && b != mainGlobals && b != 157 && b != 190
  | _ => false
theorem builtinsAt_of {K : Frag} {h : Heap} {mg : Str → Option Value} {P : Addr} (X : K.In h) (G : h.Ns mainGlobals mg) (hs : bmSeen K = true) (hP : P = 157 ∨ P = 190)
    (hb : ∃ bm ob, mg "__builtins__" = some (.ref bm) ∧ bm ≠ builtinsNs ∧ h.get? bm = some ob ∧ ob.cls = .type "module" ∧ ob.dict = some builtinsNs ∧ ob.data = .plain) : h.BuiltinsAt mg P := by
  obtain ⟨bm, ob, h1, h2, h3, h4, h5, h6⟩ := hb
  unfold bmSeen at hs
  split at hs
  · rename_i b e
    have := mg_of X G e
    rw [h1] at this
    cases this
    simp only [Bool.and_eq_true, bne_iff_ne] at hs
    exact ⟨bm, ob, h1, h2, hs.1.1.2, by rcases hP with rfl | rfl; exact hs.1.2; exact hs.2, h3, h4, h5, h6⟩
  · cases hs
theorem tAddc : tAdd.c = 161 := rfl
theorem tAddP : tAdd.P = 157 := rfl
theorem tLexc : tLex.c = 194 := rfl
theorem tLexP : tLex.P = 190 := rfl
theorem mem_one {α : Type} {l : List α} {a : α} (h : l = [a]) : a ∈ l := h ▸ List.mem_singleton.mpr rfl
theorem pat_name : patR.name = "IPV4_RE" := rfl
theorem pat36 {K : Frag} {h : Heap} {mg : Str → Option Value} (S : Seen K) (X : K.In h) (G : h.Ns mainGlobals mg) (hp : ∃ a, mg patR.name = some (.ref a) ∧ PySem.Flt.IsPattern h a patR) : PySem.Flt.IsPattern h 36 patR := by
  obtain ⟨a, ha, hp⟩ := hp
  rw [pat_name, S.glob X G (n := "IPV4_RE") (a := 36) (.head _)] at ha
  cases ha
  exact hp
/-- the call of law, from the heap as the head leaves it -/
theorem entry {w : World} {s₁ : Shared} {mg mb : Str → Option Value} {K : Frag} (S : Seen K) (S2 : CSeen (subF K)) (S3 : bmSeen K = true) (X : K.In s₁.heap) (G : s₁.heap.Ns mainGlobals mg) (Gb : s₁.heap.Ns builtinsNs mb) (lim : s₁.heap.NoLimit)
    (hb : ∀ x : Str, x ≠ "__name__" → mb x = bootBuiltins x) (hbm : ∃ bm ob, mg "__builtins__" = some (.ref bm) ∧ bm ≠ builtinsNs ∧ s₁.heap.get? bm = some ob ∧ ob.cls = .type "module" ∧ ob.dict = some builtinsNs ∧ ob.data = .plain)
    (hpat : ∃ a, mg patR.name = some (.ref a) ∧ PySem.Flt.IsPattern s₁.heap a patR) (hsz : s₁.heap.objs.size = 221) (hgens : s₁.gens = #[]) {vs : List Value} {ns : List Int} (hL : s₁.heap.IsList 220 vs.toArray) (hi : IntsAre vs ns) (hz : ns.length ≤ 100)
    (all : ∀ ds : List Int, (ds.length = 4 ∨ ds.length = 5) → (∀ d ∈ ds, -(10 ^ 12) < d ∧ d < 10 ^ 12) → ∃ items f fd es wf steps m' toll, LawOk ds items f fd es wf steps m' toll)
    {Q : Value → Shared → Prop} {E : Value → Shared → Prop} (h : ∀ s', OldK s₁.heap s'.heap → s'.os = s₁.os → AllBare s'.gens → Q (.bool true) s') :
    wpAny (model PySem.Challenge.pw_xo0025_01 w) callerA (call (.ref 219) [.ref 220] []) Q E s₁ := by
  let C : Cx := ⟨PySem.Challenge.pw_xo0025_01, w, s₁.heap, s₁.os, mg, mb, [tAdd, tLex]⟩
  obtain ⟨c1, c2⟩ := tb_of X S.t1
  obtain ⟨d1, d2⟩ := tb_of X S.t2
  have hlow : C.Low := by
    refine ⟨?_, ?_, ?_, ?_, ?_⟩
    · show 200 ≤ s₁.heap.objs.size
      rw [hsz]; decide
    · obtain ⟨o, ho, _⟩ := hL
      exact ⟨220, o, hsz, ho⟩
    · intro t ht
      rcases List.mem_cons.mp ht with rfl | ht
      · exact ⟨by show _ < s₁.heap.objs.size; rw [hsz, tAddc]; decide, by show _ < s₁.heap.objs.size; rw [hsz, tAddP]; decide, by rw [tAddP]; decide, _, c2⟩
      · rw [List.mem_singleton] at ht
        subst ht
        exact ⟨by show _ < s₁.heap.objs.size; rw [hsz, tLexc]; decide, by show _ < s₁.heap.objs.size; rw [hsz, tLexP]; decide, by rw [tLexP]; decide, _, d2⟩
    · show [tAdd.P, tLex.P].Nodup
      rw [tAddP, tLexP]; decide
    · intro t ht u hu
      have e1 : t = tAdd ∨ t = tLex := by
        rcases List.mem_cons.mp ht with h | h
        · exact .inl h
        · exact .inr (List.mem_singleton.mp h)
      have e2 : u = tAdd ∨ u = tLex := by
        rcases List.mem_cons.mp hu with h | h
        · exact .inl h
        · exact .inr (List.mem_singleton.mp h)
      rcases e1 with rfl | rfl <;> rcases e2 with rfl | rfl <;> simp only [tAddc, tLexc, tAddP, tLexP] <;> decide
  have hrp : Rp C ([] ++ []) s₁ := by
    refine ⟨[], hlow, OldK.refl _, lim, G, Gb, List.nodup_nil, fun p hp => (by cases hp), fun p hp => (by cases hp), ?_, rfl, AllBare.of_eq hgens⟩
    intro t ht
    rcases List.mem_cons.mp ht with rfl | ht
    · exact ⟨_, c1, c2, .inl rfl⟩
    · rw [List.mem_singleton] at ht
      subst ht
      exact ⟨_, d1, d2, .inl rfl⟩
  have hB : Base C := S.base rfl X G hb
  have hK : ClsOk C (subF K) := S2.ok (subF_in X)
  have hf := f219 (C := C) (A := callerA) (N := []) (n := 0) (Q := fun v _ => v = .bool true) hB hK (pat36 S X G hpat) (.head _) (builtinsAt_of X G S3 (.inl rfl) hbm) (.tail _ (.head _)) (builtinsAt_of X G S3 (.inr rfl) hbm)
    ⟨rfl, by decide, by decide⟩ (sl := 220) (ns := ns) (LstAt.base hL (ints_er hi)) hz all (fun _ => rfl)
  refine wpAny_call (codeAny_mono (hf [.ref 220] rfl [] s₁ hrp) ?_)
  rintro r s' ⟨v, rfl, N', hs', q⟩
  cases er_bool q
  exact h s' hs'.old hs'.os hs'.gens

end
section

theorem sh000t : chkS [0,0,0] true = true := by decide +kernel
theorem sh000f : chkS [0,0,0] false = true := by decide +kernel
theorem sh001t : chkS [0,0,1] true = true := by decide +kernel
theorem sh001f : chkS [0,0,1] false = true := by decide +kernel
theorem sh002t : chkS [0,0,2] true = true := by decide +kernel
theorem sh002f : chkS [0,0,2] false = true := by decide +kernel
theorem sh010t : chkS [0,1,0] true = true := by decide +kernel
theorem sh010f : chkS [0,1,0] false = true := by decide +kernel
theorem sh011t : chkS [0,1,1] true = true := by decide +kernel
theorem sh011f : chkS [0,1,1] false = true := by decide +kernel
theorem sh012t : chkS [0,1,2] true = true := by decide +kernel
theorem sh012f : chkS [0,1,2] false = true := by decide +kernel
theorem gen_3 : gen 3 0 = [[0,0,0],[0,0,1],[0,0,2],[0,1,0],[0,1,1],[0,1,2]] := by decide +kernel
theorem chkS_3 : ∀ ps ∈ gen 3 0, ∀ b, chkS ps b = true := by
  intro ps h b
  rw [gen_3] at h
  rcases List.mem_cons.mp h with rfl | h
  · exact match b with | true => sh000t | false => sh000f
  rcases List.mem_cons.mp h with rfl | h
  · exact match b with | true => sh001t | false => sh001f
  rcases List.mem_cons.mp h with rfl | h
  · exact match b with | true => sh002t | false => sh002f
  rcases List.mem_cons.mp h with rfl | h
  · exact match b with | true => sh010t | false => sh010f
  rcases List.mem_cons.mp h with rfl | h
  · exact match b with | true => sh011t | false => sh011f
  rw [List.mem_singleton] at h
  subst h
  exact match b with | true => sh012t | false => sh012f
theorem sh0000t : chkS [0,0,0,0] true = true := by decide +kernel
theorem sh0000f : chkS [0,0,0,0] false = true := by decide +kernel
theorem sh0001t : chkS [0,0,0,1] true = true := by decide +kernel
theorem sh0001f : chkS [0,0,0,1] false = true := by decide +kernel
theorem sh0002t : chkS [0,0,0,2] true = true := by decide +kernel
theorem sh0002f : chkS [0,0,0,2] false = true := by decide +kernel
theorem sh0003t : chkS [0,0,0,3] true = true := by decide +kernel
theorem sh0003f : chkS [0,0,0,3] false = true := by decide +kernel
theorem sh0010t : chkS [0,0,1,0] true = true := by decide +kernel
theorem sh0010f : chkS [0,0,1,0] false = true := by decide +kernel
theorem sh0011t : chkS [0,0,1,1] true = true := by decide +kernel
theorem sh0011f : chkS [0,0,1,1] false = true := by decide +kernel
theorem sh0012t : chkS [0,0,1,2] true = true := by decide +kernel
theorem sh0012f : chkS [0,0,1,2] false = true := by decide +kernel
theorem sh0013t : chkS [0,0,1,3] true = true := by decide +kernel
theorem sh0013f : chkS [0,0,1,3] false = true := by decide +kernel
theorem sh0020t : chkS [0,0,2,0] true = true := by decide +kernel
theorem sh0020f : chkS [0,0,2,0] false = true := by decide +kernel
theorem sh0021t : chkS [0,0,2,1] true = true := by decide +kernel
theorem sh0021f : chkS [0,0,2,1] false = true := by decide +kernel
theorem sh0022t : chkS [0,0,2,2] true = true := by decide +kernel
theorem sh0022f : chkS [0,0,2,2] false = true := by decide +kernel
theorem sh0023t : chkS [0,0,2,3] true = true := by decide +kernel
theorem sh0023f : chkS [0,0,2,3] false = true := by decide +kernel
theorem sh0100t : chkS [0,1,0,0] true = true := by decide +kernel
theorem sh0100f : chkS [0,1,0,0] false = true := by decide +kernel
theorem sh0101t : chkS [0,1,0,1] true = true := by decide +kernel
theorem sh0101f : chkS [0,1,0,1] false = true := by decide +kernel
theorem sh0102t : chkS [0,1,0,2] true = true := by decide +kernel
theorem sh0102f : chkS [0,1,0,2] false = true := by decide +kernel
theorem sh0103t : chkS [0,1,0,3] true = true := by decide +kernel
theorem sh0103f : chkS [0,1,0,3] false = true := by decide +kernel
theorem sh0110t : chkS [0,1,1,0] true = true := by decide +kernel
theorem sh0110f : chkS [0,1,1,0] false = true := by decide +kernel
theorem sh0111t : chkS [0,1,1,1] true = true := by decide +kernel
theorem sh0111f : chkS [0,1,1,1] false = true := by decide +kernel
theorem sh0112t : chkS [0,1,1,2] true = true := by decide +kernel
theorem sh0112f : chkS [0,1,1,2] false = true := by decide +kernel
theorem sh0113t : chkS [0,1,1,3] true = true := by decide +kernel
theorem sh0113f : chkS [0,1,1,3] false = true := by decide +kernel
theorem sh0120t : chkS [0,1,2,0] true = true := by decide +kernel
theorem sh0120f : chkS [0,1,2,0] false = true := by decide +kernel
theorem sh0121t : chkS [0,1,2,1] true = true := by decide +kernel
theorem sh0121f : chkS [0,1,2,1] false = true := by decide +kernel
theorem sh0122t : chkS [0,1,2,2] true = true := by decide +kernel
theorem sh0122f : chkS [0,1,2,2] false = true := by decide +kernel
theorem sh0123t : chkS [0,1,2,3] true = true := by decide +kernel
theorem sh0123f : chkS [0,1,2,3] false = true := by decide +kernel
theorem gen_4 : gen 4 0 = [[0,0,0,0],[0,0,0,1],[0,0,0,2],[0,0,0,3],[0,0,1,0],[0,0,1,1],[0,0,1,2],[0,0,1,3],[0,0,2,0],[0,0,2,1],[0,0,2,2],[0,0,2,3],[0,1,0,0],[0,1,0,1],[0,1,0,2],[0,1,0,3],[0,1,1,0],[0,1,1,1],[0,1,1,2],[0,1,1,3],[0,1,2,0],[0,1,2,1],[0,1,2,2],[0,1,2,3]] := by decide +kernel
theorem chkS_4 : ∀ ps ∈ gen 4 0, ∀ b, chkS ps b = true := by
  intro ps h b
  rw [gen_4] at h
  rcases List.mem_cons.mp h with rfl | h
  · exact match b with | true => sh0000t | false => sh0000f
  rcases List.mem_cons.mp h with rfl | h
  · exact match b with | true => sh0001t | false => sh0001f
  rcases List.mem_cons.mp h with rfl | h
  · exact match b with | true => sh0002t | false => sh0002f
  rcases List.mem_cons.mp h with rfl | h
  · exact match b with | true => sh0003t | false => sh0003f
  rcases List.mem_cons.mp h with rfl | h
  · exact match b with | true => sh0010t | false => sh0010f
  rcases List.mem_cons.mp h with rfl | h
  · exact match b with | true => sh0011t | false => sh0011f
  rcases List.mem_cons.mp h with rfl | h
  · exact match b with | true => sh0012t | false => sh0012f
  rcases List.mem_cons.mp h with rfl | h
  · exact match b with | true => sh0013t | false => sh0013f
  rcases List.mem_cons.mp h with rfl | h
  · exact match b with | true => sh0020t | false => sh0020f
  rcases List.mem_cons.mp h with rfl | h
  · exact match b with | true => sh0021t | false => sh0021f
  rcases List.mem_cons.mp h with rfl | h
  · exact match b with | true => sh0022t | false => sh0022f
  rcases List.mem_cons.mp h with rfl | h
  · exact match b with | true => sh0023t | false => sh0023f
  rcases List.mem_cons.mp h with rfl | h
  · exact match b with | true => sh0100t | false => sh0100f
  rcases List.mem_cons.mp h with rfl | h
  · exact match b with | true => sh0101t | false => sh0101f
  rcases List.mem_cons.mp h with rfl | h
  · exact match b with | true => sh0102t | false => sh0102f
  rcases List.mem_cons.mp h with rfl | h
  · exact match b with | true => sh0103t | false => sh0103f
  rcases List.mem_cons.mp h with rfl | h
  · exact match b with | true => sh0110t | false => sh0110f
  rcases List.mem_cons.mp h with rfl | h
  · exact match b with | true => sh0111t | false => sh0111f
  rcases List.mem_cons.mp h with rfl | h
  · exact match b with | true => sh0112t | false => sh0112f
  rcases List.mem_cons.mp h with rfl | h
  · exact match b with | true => sh0113t | false => sh0113f
  rcases List.mem_cons.mp h with rfl | h
  · exact match b with | true => sh0120t | false => sh0120f
  rcases List.mem_cons.mp h with rfl | h
  · exact match b with | true => sh0121t | false => sh0121f
  rcases List.mem_cons.mp h with rfl | h
  · exact match b with | true => sh0122t | false => sh0122f
  rw [List.mem_singleton] at h
  subst h
  exact match b with | true => sh0123t | false => sh0123f
theorem nmZ_4 : nmZ 4 = nmZ 3 ++ (nmZ 3).map fun y => lab.getD 3 "" ++ "." ++ y := rfl
theorem okb3 : (nmZ 3).all okb = true := by decide +kernel
theorem okb4 : ((nmZ 3).map fun y => lab.getD 3 "" ++ "." ++ y).all okb = true := by decide +kernel
theorem okb_all : ∀ y ∈ nmZ 4, Okb y := fun y hy => by
  rw [nmZ_4] at hy
  rcases List.mem_append.mp hy with hy | hy
  · exact okb_of (List.all_eq_true.mp okb3 y hy)
  · exact okb_of (List.all_eq_true.mp okb4 y hy)
theorem allX : ∀ ds : List Int, (ds.length = 4 ∨ ds.length = 5) → (∀ d ∈ ds, -(10 ^ 12) < d ∧ d < 10 ^ 12) → ∃ items f fd es wf steps m' toll, LawOk ds items f fd es wf steps m' toll :=
  all_lawS okb_all chkS_3 chkS_4

end
end
end Mine
open PySem PySem.W PySem.W.X PyProof.Rows
set_option maxRecDepth 100000 in
set_option maxHeartbeats 0 in
theorem PySem.Challenge.cw_xo0025_01_holds : PySem.Challenge.rw_xo0025_01.Holds := by
  w_on; o_law; z_head; (case hw => w_witness2)
  k_fill
  intro w s₀ s₁ mg mb G y fa o pm cd doc dV kV ho hd hcd hD hmg hg args vals as L hpre hlay hrd hwl hlo
  z_open y L KX ZH ZN ZT
  have XP := (Ground.X G).1
  refine Ground.open G ?_
  intro T B D TE TW
  wrow_args hpre hlay hrd hwl hlo
  obtain ⟨hat, hsz⟩ := script_at L
  rw [ZN] at hat hsz
  subst hat
  x_fa T KX hmg
  all_lens
  refine Mine.entry (X := KX) ?S ?S2 ?S3 T.g T.b T.nolimit T.builtins T.bmain ?pat hsz hg (by assumption) (by assumption) ?hz Mine.allX ?fin
  case S => exact ⟨by kernel_rfl, by kernel_rfl, by kernel_rfl, by kernel_rfl, by kernel_rfl, by kernel_rfl⟩
  case S2 => exact ⟨by kernel_rfl, by kernel_rfl, by kernel_rfl, by kernel_rfl, by kernel_rfl, by kernel_rfl, by kernel_rfl, by kernel_rfl, by kernel_rfl, by kernel_rfl, by kernel_rfl, by kernel_rfl, by kernel_rfl, by kernel_rfl, by kernel_rfl, by kernel_rfl⟩
  case S3 => kernel_rfl
  case pat => exact XP.pats Mine.patR (Mine.mem_one (by kernel_rfl))
  case hz => omega
  case fin =>
    intro s' h1 h2 h3
    exact ⟨.inl ⟨_, _, [], rfl, fun _ => rfl, ReadsW.bool _, (by kernel_rfl), fun _ => ⟨List.nodup_nil, fun _ hm => (nomatch hm)⟩⟩, h1, h2, h3⟩
