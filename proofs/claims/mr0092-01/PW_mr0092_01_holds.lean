import PyProof.Rows.All
import Wide.All
import OpenK.AllK
import Wide.FinOn
import PySem.Challenge.RW_mr0092_01
set_option Elab.async false
set_option maxRecDepth 100000
set_option linter.all false
section
open PySem PySem.W PySem.Calls PyProof.Rows
namespace Mine
/-- plain Python data -/
inductive D where
  | none
  | bool (b : Bool)
  | int (i : Int)
  | flt (x : UInt64)
  | str (s : Str)
  | tup (l : List D)
  | lst (l : List D)
  | rng (n : Int)
  | hit (i : Int)
  | prg (w : Str)
noncomputable abbrev tab (vs : Array Value) : Obj := { cls := .none, data := .fields vs }
/-- what is fixed: the sizes at the call, the one table that may grow, what is said of code tables; what a hit and a searcher are in a heap -/
structure Fix where
  prog : Program
  w : World
  h0 : Heap
  P0 : Addr
  base : Heap
  mg : Str → Option Value
  mb : Str → Option Value
  I : Heap → Heap → Prop
  Hit : Heap → Int → Addr → Prop
  Prg : Heap → Str → Addr → Prop
/-- neither a code object nor a code table -/
noncomputable def quiet (o : Obj) : Prop := (∀ vs, o.data ≠ .fields vs) ∨ (o.cls ≠ .none ∧ o.cls ≠ .type "code")
theorem quiet_dict {o : Obj} {es n} (h : o.data = .dict es n) : quiet o := .inl fun vs e => by rw [h] at e; cases e
theorem quiet_seq {o : Obj} {es n} (h : o.data = .seq es n) : quiet o := .inl fun vs e => by rw [h] at e; cases e
theorem quiet_cell {o : Obj} {v} (h : o.data = .cell v) : quiet o := .inl fun vs e => by rw [h] at e; cases e
theorem quiet_tab {o : Obj} (h : quiet o) (vs : Array Value) : o ≠ { cls := .none, data := .fields vs } := fun e => by
  rcases h with h | h
  · exact h vs (by rw [e])
  · exact h.1 (by rw [e])
theorem quiet_func {o : Obj} {v} (h : o.data = .func v) : quiet o := .inl fun vs e => by rw [h] at e; cases e
structure Fix.Ok (X : Fix) : Prop where
  I : ∀ V V' h h', X.I V h → (∀ b o, V.get? b = some o → V'.get? b = some o) → (∀ b o, h.get? b = some o → ¬ quiet o → h'.get? b = some o) → (∀ b o, V'.get? b = some o → ¬ quiet o → V.get? b = some o) → X.I V' h'
  Hit : ∀ h h' i a, X.Hit h i a → (∀ b o, h.get? b = some o → h'.get? b = some o) → X.Hit h' i a
  Prg : ∀ h h' i a, X.Prg h i a → (∀ b o, h.get? b = some o → h'.get? b = some o) → X.Prg h' i a
  blt : ∀ x : Str, x ≠ "__name__" → X.mb x = bootBuiltins x
  g : X.base.Ns mainGlobals X.mg
  b : X.base.Ns builtinsNs X.mb
  lim : X.base.NoLimit
  dig : ∃ mc, X.base.Ns cStatics mc ∧ mc "sys.int_max_str_digits" = Option.none
  bm : ∃ bm ob, X.mg "__builtins__" = some (.ref bm) ∧ bm ≠ builtinsNs ∧ X.base.get? bm = some ob ∧ ob.cls = .type "module" ∧ ob.dict = some builtinsNs ∧ ob.data = .plain
mutual
inductive Rd (X : Fix) (V : Heap) : D → Value → Prop
  | none : Rd X V .none .none
  | bool (b : Bool) : Rd X V (.bool b) (.bool b)
  | int (i : Int) (t : Tok) : Rd X V (.int i) (.int i t)
  | flt (x : UInt64) (t : Tok) : Rd X V (.flt x) (.float x t)
  | str (x : Str) (t : Tok) : Rd X V (.str x) (.str x t)
  | tup {l : List D} {a : Addr} {items : Array Value} : V.IsTuple a items → RdL X V l items.toList → Rd X V (.tup l) (.ref a)
  | lst {l : List D} {a : Addr} {items : Array Value} : V.IsList a items → RdL X V l items.toList → Rd X V (.lst l) (.ref a)
  | rng {n : Int} {a : Addr} {t0 t1 t2 : Tok} : V.get? a = some { cls := .type "range", data := .fields #[.int 0 t0, .int n t1, .int 1 t2] } → Rd X V (.rng n) (.ref a)
  | hit {i : Int} {a : Addr} : X.Hit V i a → Rd X V (.hit i) (.ref a)
  | prg {w : Str} {a : Addr} : X.Prg V w a → Rd X V (.prg w) (.ref a)
inductive RdL (X : Fix) (V : Heap) : List D → List Value → Prop
  | nil : RdL X V [] []
  | cons {d : D} {v : Value} {ds : List D} {vs : List Value} : Rd X V d v → RdL X V ds vs → RdL X V (d :: ds) (v :: vs)
end
theorem Rd.int_inv {X : Fix} {V : Heap} {i : Int} {v : Value} (r : Rd X V (.int i) v) : ∃ t, v = .int i t := by cases r; exact ⟨_, rfl⟩
theorem Rd.flt_inv {X : Fix} {V : Heap} {x : UInt64} {v : Value} (r : Rd X V (.flt x) v) : ∃ t, v = .float x t := by cases r; exact ⟨_, rfl⟩
theorem Rd.str_inv {X : Fix} {V : Heap} {x : Str} {v : Value} (r : Rd X V (.str x) v) : ∃ t, v = .str x t := by cases r; exact ⟨_, rfl⟩
theorem Rd.bool_inv {X : Fix} {V : Heap} {b : Bool} {v : Value} (r : Rd X V (.bool b) v) : v = .bool b := by cases r; rfl
theorem Rd.none_inv {X : Fix} {V : Heap} {v : Value} (r : Rd X V .none v) : v = .none := by cases r; rfl
theorem Rd.lst_inv {X : Fix} {V : Heap} {l : List D} {v : Value} (r : Rd X V (.lst l) v) : ∃ a items, v = .ref a ∧ V.IsList a items ∧ RdL X V l items.toList := by cases r with | lst h r => exact ⟨_, _, rfl, h, r⟩
theorem Rd.tup_inv {X : Fix} {V : Heap} {l : List D} {v : Value} (r : Rd X V (.tup l) v) : ∃ a items, v = .ref a ∧ V.IsTuple a items ∧ RdL X V l items.toList := by cases r with | tup h r => exact ⟨_, _, rfl, h, r⟩
theorem Rd.hit_inv {X : Fix} {V : Heap} {i : Int} {v : Value} (r : Rd X V (.hit i) v) : ∃ a, v = .ref a ∧ X.Hit V i a := by cases r with | hit h => exact ⟨_, rfl, h⟩
theorem Rd.prg_inv {X : Fix} {V : Heap} {w : Str} {v : Value} (r : Rd X V (.prg w) v) : ∃ a, v = .ref a ∧ X.Prg V w a := by cases r with | prg h => exact ⟨_, rfl, h⟩
theorem RdL.nil_inv {X : Fix} {V : Heap} {vs : List Value} (r : RdL X V [] vs) : vs = [] := by cases r; rfl
theorem RdL.cons_inv {X : Fix} {V : Heap} {d : D} {ds : List D} {vs : List Value} (r : RdL X V (d :: ds) vs) : ∃ v vs', vs = v :: vs' ∧ Rd X V d v ∧ RdL X V ds vs' := by cases r with | cons h r => exact ⟨_, _, rfl, h, r⟩
theorem RdL.one_inv {X : Fix} {V : Heap} {d : D} {vs : List Value} (r : RdL X V [d] vs) : ∃ v, vs = [v] ∧ Rd X V d v := by
  obtain ⟨v, vs', rfl, h, r⟩ := r.cons_inv
  obtain rfl := r.nil_inv
  exact ⟨v, rfl, h⟩
theorem RdL.two_inv {X : Fix} {V : Heap} {d e : D} {vs : List Value} (r : RdL X V [d, e] vs) : ∃ v w, vs = [v, w] ∧ Rd X V d v ∧ Rd X V e w := by
  obtain ⟨v, vs', rfl, h, r⟩ := r.cons_inv
  obtain ⟨w, rfl, h2⟩ := r.one_inv
  exact ⟨v, w, rfl, h, h2⟩
theorem RdL.three_inv {X : Fix} {V : Heap} {d e f : D} {vs : List Value} (r : RdL X V [d, e, f] vs) : ∃ v w u, vs = [v, w, u] ∧ Rd X V d v ∧ Rd X V e w ∧ Rd X V f u := by
  obtain ⟨v, vs', rfl, h, r⟩ := r.cons_inv
  obtain ⟨w, u, rfl, h2, h3⟩ := r.two_inv
  exact ⟨v, w, u, rfl, h, h2, h3⟩
theorem len1 {α : Type} {vs : List α} (h : vs.length = 1) : ∃ a, vs = [a] := List.length_eq_one_iff.mp h
theorem len2 {α : Type} : ∀ {vs : List α}, vs.length = 2 → ∃ a b, vs = [a, b]
  | [], h => by cases h
  | a :: r, h => let ⟨b, e⟩ := len1 (vs := r) (Nat.succ.inj h); ⟨a, b, by rw [e]⟩
theorem len3 {α : Type} : ∀ {vs : List α}, vs.length = 3 → ∃ a b c, vs = [a, b, c]
  | [], h => by cases h
  | a :: r, h => let ⟨b, c, e⟩ := len2 (vs := r) (Nat.succ.inj h); ⟨a, b, c, by rw [e]⟩
noncomputable abbrev Sub (V V' : Heap) : Prop := ∀ b o, V.get? b = some o → V'.get? b = some o
theorem isTuple_keeps {h h' : Heap} {a : Addr} {items : Array Value} (x : h.IsTuple a items) (k : Sub h h') : h'.IsTuple a items := let ⟨o, e, r⟩ := x; ⟨o, k _ _ e, r⟩
theorem isList_keeps {h h' : Heap} {a : Addr} {items : Array Value} (x : h.IsList a items) (k : Sub h h') : h'.IsList a items := let ⟨o, e, r⟩ := x; ⟨o, k _ _ e, r⟩
theorem Rd.mono {X : Fix} (O : X.Ok) {V V' : Heap} (k : Sub V V') {d : D} {v : Value} (r : Rd X V d v) : Rd X V' d v :=
  Rd.rec (motive_1 := fun d v _ => Rd X V' d v) (motive_2 := fun ds vs _ => RdL X V' ds vs) .none .bool .int .flt .str (fun h _ r => .tup (isTuple_keeps h k) r) (fun h _ r => .lst (isList_keeps h k) r) (fun e => .rng (k _ _ e)) (fun e => .hit (O.Hit _ _ _ _ e k)) (fun e => .prg (O.Prg _ _ _ _ e k)) .nil (fun _ _ h r => .cons h r) r
theorem RdL.mono {X : Fix} (O : X.Ok) {V V' : Heap} (k : Sub V V') {d : List D} {v : List Value} (r : RdL X V d v) : RdL X V' d v :=
  RdL.rec (motive_1 := fun d v _ => Rd X V' d v) (motive_2 := fun ds vs _ => RdL X V' ds vs) .none .bool .int .flt .str (fun h _ r => .tup (isTuple_keeps h k) r) (fun h _ r => .lst (isList_keeps h k) r) (fun e => .rng (k _ _ e)) (fun e => .hit (O.Hit _ _ _ _ e k)) (fun e => .prg (O.Prg _ _ _ _ e k)) .nil (fun _ _ h r => .cons h r) r
/-- from (V, s) to (V', s'): what was made stays -/
structure Gr (X : Fix) (V : Heap) (s : Shared) (V' : Heap) (s' : Shared) : Prop where
  vk : Sub V V'
  le : Sub V' s'.heap
  nw : ∀ b o, V'.get? b = some o → V.get? b = some o ∨ s.heap.get? b = Option.none
  kp : ∀ b o, s.heap.get? b = some o → (∀ vs, o ≠ tab vs) → s'.heap.get? b = some o
  tb : ∀ b vs, s.heap.get? b = some (tab vs) → ∃ more, s'.heap.get? b = some (tab (vs ++ more)) ∧ (b ≠ X.P0 → (X.h0.get? b).isSome = true → more = #[])
  iv : X.I V s.heap → X.I V' s'.heap
  gn : s'.gens = s.gens
  os : s'.os = s.os
  nt : ∀ b vs, V'.get? b = some (tab vs) → V.get? b = some (tab vs)
theorem Gr.there {X : Fix} {V V' : Heap} {s s' : Shared} (a : Gr X V s V' s') {b : Addr} {o : Obj} (e : s.heap.get? b = some o) : ∃ o', s'.heap.get? b = some o' := by
  by_cases h : ∃ vs, o = tab vs
  · obtain ⟨vs, rfl⟩ := h
    obtain ⟨m, q, _⟩ := a.tb b vs e
    exact ⟨_, q⟩
  · exact ⟨o, a.kp b o e fun vs q => h ⟨vs, q⟩⟩
theorem Gr.none {X : Fix} {V V' : Heap} {s s' : Shared} (a : Gr X V s V' s') {b : Addr} (e : s'.heap.get? b = Option.none) : s.heap.get? b = Option.none := by
  cases q : s.heap.get? b with
  | none => rfl
  | some o => obtain ⟨o', q'⟩ := a.there q; rw [e] at q'; cases q'
theorem Gr.refl {X : Fix} {V : Heap} {s : Shared} (h : Sub V s.heap) : Gr X V s V s :=
  ⟨fun _ _ e => e, h, fun _ _ e => .inl e, fun _ _ e _ => e, fun _ _ e => ⟨#[], by simpa using e, fun _ _ => rfl⟩, id, rfl, rfl, fun _ _ e => e⟩
theorem Gr.trans {X : Fix} {V V' V'' : Heap} {s s' s'' : Shared} (a : Gr X V s V' s') (b : Gr X V' s' V'' s'') : Gr X V s V'' s'' where
  vk := fun x o e => b.vk x o (a.vk x o e)
  le := b.le
  nw := fun x o e => by
    rcases b.nw x o e with e | e
    · exact a.nw x o e
    · exact .inr (a.none e)
  kp := fun x o e n => b.kp x o (a.kp x o e n) n
  tb := fun x vs e => by
    obtain ⟨m1, e1, n1⟩ := a.tb x vs e
    obtain ⟨m2, e2, n2⟩ := b.tb x _ e1
    exact ⟨m1 ++ m2, by rw [e2, Array.append_assoc], fun h l => by rw [n1 h l, n2 h l]; rfl⟩
  iv := fun h => b.iv (a.iv h)
  gn := b.gn.trans a.gn
  os := b.os.trans a.os
  nt := fun x vs e => a.nt x vs (b.nt x vs e)
theorem Gr.tok {X : Fix} {V V' : Heap} {s s' : Shared} (a : Gr X V s V' s') (n : Nat) : Gr X V s V' { s' with toks := n } := ⟨a.vk, a.le, a.nw, a.kp, a.tb, a.iv, a.gn, a.os, a.nt⟩
theorem not_tab_dict {o : Obj} {es n} (h : o.data = .dict es n) (vs : Array Value) : o ≠ tab vs := fun e => by rw [e] at h; cases h
theorem not_tab_seq {o : Obj} {es n} (h : o.data = .seq es n) (vs : Array Value) : o ≠ tab vs := fun e => by rw [e] at h; cases h
theorem not_tab_cell {o : Obj} {v} (h : o.data = .cell v) (vs : Array Value) : o ≠ tab vs := fun e => by rw [e] at h; cases h
theorem not_tab_cls {o : Obj} (h : o.cls ≠ .none) (vs : Array Value) : o ≠ tab vs := fun e => h (by rw [e])
theorem not_tab_func {o : Obj} {f} (h : o.data = .func f) (vs : Array Value) : o ≠ tab vs := fun e => by rw [e] at h; cases h
/-- any heap step that keeps all and makes nothing seen -/
theorem Gr.of_keeps {X : Fix} (O : X.Ok) {V : Heap} {s s' : Shared} (h : Sub V s.heap) (k : Sub s.heap s'.heap) (gn : s'.gens = s.gens) (os : s'.os = s.os) : Gr X V s V s' :=
  ⟨fun _ _ e => e, fun b o e => k b o (h b o e), fun _ _ e => .inl e, fun b o e _ => k b o e, fun b vs e => ⟨#[], by simpa using k _ _ e, fun _ _ => rfl⟩, fun i => O.I _ _ _ _ i (fun _ _ e => e) (fun b o e _ => k b o e) (fun _ _ e _ => e), gn, os, fun _ _ e => e⟩
/-- a step at one address of the call's own that V does not show -/
theorem Gr.own {X : Fix} (O : X.Ok) {V0 V : Heap} {s0 s : Shared} (a : Gr X V0 s0 V s) (x : Addr) (h0 : s0.heap.get? x = Option.none) (hv : V.get? x = Option.none) {h' : Heap} {tk : Nat} (e : Heap.ExtBut x s.heap h')
    (hc : ∀ o, s.heap.get? x = some o → quiet o) : Gr X V0 s0 V { s with heap := h', toks := tk } where
  vk := a.vk
  le := fun b o q => e b o (fun z => by rw [z, hv] at q; cases q) (a.le b o q)
  nw := a.nw
  kp := fun b o q n => e b o (fun z => by rw [z, h0] at q; cases q) (a.kp b o q n)
  tb := fun b vs q => by
    obtain ⟨m, q1, q2⟩ := a.tb b vs q
    exact ⟨m, e b _ (fun z => by rw [z, h0] at q; cases q) q1, q2⟩
  iv := fun i => O.I _ _ _ _ (a.iv i) (fun _ _ e => e) (fun b o q c => e b o (fun z => by rw [z] at q; exact c (hc o q)) q) (fun _ _ e _ => e)
  gn := a.gn
  os := a.os
  nt := a.nt
/-- a heap that shows just what P lets through -/
noncomputable def restr (h : Heap) (P : Nat → Bool) : Heap := ⟨h.objs.mapIdx fun i o => if P i then o else { cls := .none, data := .freed }, h.life⟩
theorem restr_get (h : Heap) (P : Nat → Bool) (b : Addr) : (restr h P).get? b = if P b then h.get? b else none := by
  unfold restr Heap.get?
  simp only [Array.getElem?_mapIdx]
  cases e : h.objs[b]? with
  | none => simp
  | some o =>
    simp only [Option.map_some]
    cases P b with
    | true => simp
    | false => simp
/-- more is shown: the objects at P, all of them new -/
theorem Gr.show {X : Fix} (O : X.Ok) {V V' : Heap} {s s' : Shared} (a : Gr X V s V' s') (P : Nat → Bool) (hP : ∀ b, P b = true → s.heap.get? b = Option.none) (hT : ∀ b o, P b = true → s'.heap.get? b = some o → quiet o) :
    ∃ V'', Gr X V s V'' s' ∧ Sub V' V'' ∧ (∀ b o, P b = true → s'.heap.get? b = some o → V''.get? b = some o) ∧ ∀ b, P b = false → V'.get? b = Option.none → V''.get? b = Option.none := by
  refine ⟨restr s'.heap fun b => P b || (V'.get? b).isSome, ⟨fun b o e => ?_, fun b o e => ?_, fun b o e => ?_, a.kp, a.tb, fun i => O.I _ _ _ _ (a.iv i) (fun b o e => ?_) (fun _ _ e _ => e) (fun b o e c => ?_), a.gn, a.os, fun b vs e => ?_⟩, fun b o e => ?_, fun b o p e => ?_, fun b p e => ?_⟩
  · rw [restr_get, a.vk b o e]; simp; exact a.le b o (a.vk b o e)
  · rw [restr_get] at e; split at e
    · exact e
    · cases e
  · rw [restr_get] at e
    split at e
    · rename_i p
      rcases (Bool.or_eq_true _ _).mp p with p | p
      · exact .inr (hP b p)
      · obtain ⟨o', e'⟩ := Option.isSome_iff_exists.mp p
        have := a.le b o' e'
        rw [e] at this; cases this
        exact a.nw b o e'
    · cases e
  · rw [restr_get, e]; simp; exact a.le b o e
  · rw [restr_get] at e
    split at e
    · rename_i p
      rcases (Bool.or_eq_true _ _).mp p with p | p
      · exact absurd (hT b o p e) c
      · obtain ⟨o', e'⟩ := Option.isSome_iff_exists.mp p
        have := a.le b o' e'
        rw [e] at this; cases this
        exact e'
    · cases e
  · rw [restr_get] at e
    split at e
    · rename_i p
      rcases (Bool.or_eq_true _ _).mp p with p | p
      · exact absurd rfl (quiet_tab (hT b _ p e) vs)
      · obtain ⟨o', e'⟩ := Option.isSome_iff_exists.mp p
        have := a.le b o' e'
        rw [e] at this; cases this
        exact a.nt b vs e'
    · cases e
  · rw [restr_get, e]; simp; exact a.le b o e
  · rw [restr_get, p]; simpa using e
  · rw [restr_get, p, e]; simp
theorem get_size (h : Heap) : h.get? h.objs.size = Option.none := by
  cases e : h.get? h.objs.size with
  | none => rfl
  | some o => exact absurd (Heap.lt_size e) (Nat.lt_irrefl _)
/-- a new object, shown -/
theorem Gr.push {X : Fix} (O : X.Ok) {V V' : Heap} {s s' : Shared} (a : Gr X V s V' s') (o : Obj) (hf : o.isFreed = false) (hT : quiet o := by first | exact quiet_seq rfl | exact quiet_func rfl | exact .inr ⟨(by intro h; cases h), by intro h; injection h with h; exact absurd h (by decide)⟩) :
    ∃ V'', Gr X V s V'' { s' with heap := s'.heap.push o } ∧ Sub V' V'' ∧ V''.get? s'.heap.objs.size = some o := by
  have g : Gr X V s V' { s' with heap := s'.heap.push o } := a.trans (Gr.of_keeps O a.le (fun b o' e => Heap.get?_push_of_some _ e) rfl rfl)
  obtain ⟨V'', g', k, e, _⟩ := g.show O (fun b => b == s'.heap.objs.size) (fun b hb => by rw [beq_iff_eq.mp hb]; exact a.none (get_size _)) (fun b o' hb e => by rw [beq_iff_eq.mp hb] at e; rw [Heap.get?_push_size _ hf] at e; cases e; exact hT)
  exact ⟨V'', g', k, e _ _ (by simp) (Heap.get?_push_size _ hf)⟩
/-- a new object, not shown -/
theorem Gr.hid {X : Fix} (O : X.Ok) {V V' : Heap} {s s' : Shared} (a : Gr X V s V' s') (o : Obj) : Gr X V s V' { s' with heap := s'.heap.push o } :=
  a.trans (Gr.of_keeps O a.le (fun b o' e => Heap.get?_push_of_some _ e) rfl rfl)
theorem Gr.vnone {X : Fix} {V V' : Heap} {s s' : Shared} (a : Gr X V s V' s') {b : Addr} {o : Obj} (e : s.heap.get? b = some o) (h : V.get? b = Option.none) : V'.get? b = Option.none := by
  cases q : V'.get? b with
  | none => rfl
  | some o' =>
    rcases a.nw b o' q with q | q
    · rw [h] at q; cases q
    · rw [e] at q; cases q
theorem Gr.ns {X : Fix} {V V' : Heap} {s s' : Shared} (a : Gr X V s V' s') {x : Addr} {ml : Str → Option Value} (h : s.heap.Ns x ml) : s'.heap.Ns x ml :=
  let ⟨o, es, n, e, hd, r⟩ := h; ⟨o, es, n, a.kp _ _ e (not_tab_dict hd), hd, r⟩
theorem Gr.nsnone {X : Fix} {V V' : Heap} {s s' : Shared} (a : Gr X V s V' s') {x : Addr} {ml : Str → Option Value} (h : s.heap.Ns x ml) (hv : V.get? x = Option.none) : V'.get? x = Option.none :=
  let ⟨_, _, _, e, _⟩ := h; a.vnone e hv
theorem Sub.no {V h : Heap} (k : Sub V h) {b : Addr} (e : h.get? b = Option.none) : V.get? b = Option.none := by
  cases q : V.get? b with
  | none => rfl
  | some o => rw [k _ _ q] at e; cases e
theorem get_far {h : Heap} {b : Addr} (l : h.objs.size ≤ b) : h.get? b = Option.none := by
  cases q : h.get? b with
  | none => rfl
  | some o => exact absurd (Heap.lt_size q) (Nat.not_lt.mpr l)
theorem ns_ne {h : Heap} {L a : Addr} {ml : Str → Option Value} {o : Obj} (hn : h.Ns L ml) (e : h.get? a = some o) (hd : ∀ es n, o.data ≠ .dict es n) : a ≠ L := fun z => by
  obtain ⟨oL, es, ep, eL, dL, _⟩ := hn
  rw [z, eL] at e; cases e
  exact hd _ _ dL
theorem ns_quiet {h : Heap} {L : Addr} {ml : Str → Option Value} {o : Obj} (hn : h.Ns L ml) (e : h.get? L = some o) : quiet o := by
  obtain ⟨oL, es, ep, eL, dL, _⟩ := hn
  rw [eL] at e; cases e
  exact quiet_dict dL
structure Ar (k : Nat) (A : Around) : Prop where
  hd : A.handled = Option.none
  dp : A.depth + k < 900
  un : A.units + 100 * k < 9000
  gd : A.guards = some []
theorem Ar.in1 {k : Nat} {A : Around} (h : Ar (k + 1) A) : Ar k A.in1 := ⟨h.hd, by have := h.dp; simp only [Around.in1_depth]; (first | lia | omega), by have := h.un; simp only [Around.in1_units]; (first | lia | omega), h.gd⟩
theorem Ar.deeper {k : Nat} {A : Around} (h : Ar (k + 1) A) (env : Env) : Ar k (A.deeper env) := ⟨h.hd, by have := h.dp; show A.depth + 1 + k < 900; (first | lia | omega), by have := h.un; rw [Around.deeper_units]; (first | lia | omega), h.gd⟩
theorem Ar.less {k j : Nat} {A : Around} (h : Ar k A) (l : j ≤ k) : Ar j A := ⟨h.hd, by have := h.dp; (first | lia | omega), by have := h.un; (first | lia | omega), h.gd⟩
/-- the ground: what stands in every state of the call -/
structure St (X : Fix) (V : Heap) (s : Shared) : Prop where
  le : Sub V s.heap
  bs : Sub X.base V
  iv : X.I V s.heap
  n0 : ∀ b o, X.h0.get? b = some o → ∃ o', s.heap.get? b = some o'
  nt : ∀ b vs, V.get? b = some (tab vs) → X.base.get? b = some (tab vs)
theorem St.go {X : Fix} {V V' : Heap} {s s' : Shared} (S : St X V s) (a : Gr X V s V' s') : St X V' s' :=
  ⟨a.le, fun b o e => a.vk b o (S.bs b o e), a.iv S.iv, fun b o e => let ⟨_, q⟩ := S.n0 b o e; a.there q, fun b vs e => S.nt b vs (a.nt b vs e)⟩
theorem St.bh {X : Fix} {V : Heap} {s : Shared} (S : St X V s) : Sub X.base s.heap := fun b o e => S.le b o (S.bs b o e)
/-- the names of a frame -/
structure Lo (X : Fix) (env : Env) (m : Str → Option D) (V h : Heap) : Prop where
  fn : env.scope.kind = .function
  gl : env.globals = mainGlobals
  bl : env.builtins = builtinsNs
  ns : ∃ ml, h.Ns env.locals ml ∧ ∀ x d, m x = some d → env.kindOf x = some .local → ∃ v, ml x = some v ∧ Rd X V d v
  cl : ∀ x, env.kindOf x = some .cell → ∃ c, env.cells.lookup x = some c
  ce : ∀ x d, m x = some d → env.kindOf x ≠ some .local → (env.kindOf x = some .cell ∨ (env.kindOf x = some .free ∧ (x == ("__classdict__" : Str)) = false)) ∧ ∃ c v, env.cells.lookup x = some c ∧ h.IsCell c (some v) ∧ Rd X V d v
theorem Lo.go {X : Fix} (O : X.Ok) {env : Env} {m : Str → Option D} {V V' : Heap} {s s' : Shared} (l : Lo X env m V s.heap) (a : Gr X V s V' s') : Lo X env m V' s'.heap where
  fn := l.fn
  gl := l.gl
  bl := l.bl
  cl := l.cl
  ns := by
    obtain ⟨ml, ⟨o, es, n, e, hd, r⟩, k⟩ := l.ns
    exact ⟨ml, ⟨o, es, n, a.kp _ _ e (not_tab_dict hd), hd, r⟩, fun x d h1 h2 => let ⟨v, e1, e2⟩ := k x d h1 h2; ⟨v, e1, e2.mono O a.vk⟩⟩
  ce := fun x d h1 h2 => by
    obtain ⟨hk, c, v, e1, ⟨o, e2, hd⟩, e3⟩ := l.ce x d h1 h2
    exact ⟨hk, c, v, e1, ⟨o, a.kp _ _ e2 (not_tab_cell hd), hd⟩, e3.mono O a.vk⟩
/-- an expression of a block of this scope, these names known, comes to d -/
noncomputable def Ev (X : Fix) (k : Nat) (sc : Scope) (m : Str → Option D) (e : Expr) (d : D) : Prop :=
  ∀ (env : Env) (A : Around) (V : Heap) (s : Shared) (Q : Value → Shared → Prop) (E : Value → Shared → Prop), env.scope = sc → Ar k A → St X V s → Lo X env m V s.heap →
    (∀ v s' V', Gr X V s V' s' → Rd X V' d v → Q v s') → wpAny (model X.prog X.w) A (eval e env) Q E s
noncomputable def Op1 (X : Fix) (k : Nat) (t : Value → Sem Value) (a d : D) : Prop :=
  ∀ (A : Around) (V : Heap) (s : Shared) (v1 : Value) (Q : Value → Shared → Prop) (E : Value → Shared → Prop), Ar k A → St X V s → Rd X V a v1 →
    (∀ v s' V', Gr X V s V' s' → Rd X V' d v → Q v s') → wpAny (model X.prog X.w) A (t v1) Q E s
noncomputable def Op2 (X : Fix) (k : Nat) (t : Value → Value → Sem Value) (a b d : D) : Prop :=
  ∀ (A : Around) (V : Heap) (s : Shared) (v1 v2 : Value) (Q : Value → Shared → Prop) (E : Value → Shared → Prop), Ar k A → St X V s → Rd X V a v1 → Rd X V b v2 →
    (∀ v s' V', Gr X V s V' s' → Rd X V' d v → Q v s') → wpAny (model X.prog X.w) A (t v1 v2) Q E s
noncomputable def OpL (X : Fix) (k : Nat) (t : List Value → Sem Value) (ds : List D) (d : D) : Prop :=
  ∀ (A : Around) (V : Heap) (s : Shared) (vs : List Value) (Q : Value → Shared → Prop) (E : Value → Shared → Prop), Ar k A → St X V s → RdL X V ds vs →
    (∀ v s' V', Gr X V s V' s' → Rd X V' d v → Q v s') → wpAny (model X.prog X.w) A (t vs) Q E s
/-- truth of a test -/
noncomputable def Ts (X : Fix) (k : Nat) (sc : Scope) (m : Str → Option D) (e : Expr) (b : Bool) : Prop :=
  ∀ (env : Env) (A : Around) (V : Heap) (s : Shared) (Q : Bool → Shared → Prop) (E : Value → Shared → Prop), env.scope = sc → Ar k A → St X V s → Lo X env m V s.heap →
    (∀ s' V', Gr X V s V' s' → Q b s') → wpAny (model X.prog X.w) A (isTrue e env (eval e env)) Q E s
/-- a list of trees -/
structure EvL (X : Fix) (k : Nat) (sc : Scope) (m : Str → Option D) (es : List Expr) (ds : List D) : Prop where
  ns : ∀ env, (starEach es env).any (·.1) = false
  sh : (es = [] ∧ ds = []) ∨ ∀ env, ∃ t r, starEach es env = (false, t) :: r
  ev : ∀ (env : Env) (A : Around) (V : Heap) (s : Shared) (pos : Pos) (Q : List Value → Shared → Prop) (E : Value → Shared → Prop), env.scope = sc → Ar k A → St X V s → Lo X env m V s.heap →
    (∀ vs s' V', Gr X V s V' s' → RdL X V' ds vs → Q vs s') → wpAny (model X.prog X.w) A (spliced (backTo pos (starEach es env))) Q E s
section
variable {X : Fix} (O : X.Ok) {k : Nat} {sc : Scope} {m : Str → Option D}
theorem ev_int {i : Int} {n : Nat} {pos : Pos} : Ev X k sc m (.Constant (.int i) n pos) (.int i) := fun _ _ _ _ _ _ _ _ S _ h =>
  wpAny_Constant_int (h _ _ _ ((Gr.refl S.le).tok _) (.int _ _))
theorem ev_flt {x : UInt64} {n : Nat} {pos : Pos} : Ev X k sc m (.Constant (.float x) n pos) (.flt x) := fun _ _ _ _ _ _ _ _ S _ h =>
  wpAny_Constant_float (h _ _ _ ((Gr.refl S.le).tok _) (.flt _ _))
theorem ev_str {x : Str} {n : Nat} {pos : Pos} : Ev X k sc m (.Constant (.str x) n pos) (.str x) := fun env A V s Q E _ _ S _ h => by
  show wpAny _ _ (mkText x) _ _ _
  exact wpAny_mkText (h _ _ _ ((Gr.refl S.le).tok _) (.str _ _))
theorem ev_none {n : Nat} {pos : Pos} : Ev X k sc m (.Constant .none n pos) .none := fun env A V s Q E _ _ S _ h => wpAny_pure (h _ _ _ (Gr.refl S.le) .none)
theorem ev_bool {b : Bool} {n : Nat} {pos : Pos} : Ev X k sc m (.Constant (.bool b) n pos) (.bool b) := fun env A V s Q E _ _ S _ h => wpAny_pure (h _ _ _ (Gr.refl S.le) (.bool b))
theorem ev_name {x : Str} {pos : Pos} {d : D} (hm : m x = some d) (hd : (x == ("__debug__" : Str)) = false) : Ev X k sc m (.Name x pos) d := fun env A V s Q E _ _ S l h => by
  by_cases hk : env.kindOf x = some .local
  · obtain ⟨ml, hn, q⟩ := l.ns
    obtain ⟨v, e1, e2⟩ := q x d hm hk
    exact wpAny_Name (wpAny_loadName_local l.fn hk hn e1 (h _ _ _ (Gr.refl S.le) e2)) hd
  · obtain ⟨hk', c, v, e1, e2, e3⟩ := l.ce x d hm hk
    rcases hk' with hk' | ⟨hk', hc⟩
    · exact wpAny_Name (wpAny_loadName_cell l.fn hk' e1 e2 (h _ _ _ (Gr.refl S.le) e3)) hd
    · exact wpAny_Name (wpAny_loadName_free l.fn hk' e1 e2 (h _ _ _ (Gr.refl S.le) e3) hc) hd
include O
theorem ev_bin {l r : Expr} {op : Operator} {pos : Pos} {a b d : D} (h1 : Ev X k sc m l a) (h2 : Ev X k sc m r b) (h3 : Op2 X k (binaryOp op) a b d) : Ev X k sc m (.BinOp l op r pos) d :=
  fun env A V s Q E hs hA S lo h => wpAny_BinOp (h1 env A V s _ E hs hA S lo fun v1 s1 V1 g1 r1 => h2 env A V1 s1 _ E hs hA (S.go g1) (lo.go O g1) fun v2 s2 V2 g2 r2 =>
    h3 A V2 s2 v1 v2 Q E hA ((S.go g1).go g2) (r1.mono O g2.vk) r2 fun v s' V' g r => h v s' V' ((g1.trans g2).trans g) r)
theorem ev_cmp {l r : Expr} {op : CmpOp} {pos : Pos} {a b d : D} (h1 : Ev X k sc m l a) (h2 : Ev X k sc m r b) (h3 : Op2 X k (compareOp op) a b d) (hm : behindInMarks op r = false) : Ev X k sc m (.Compare l [op] [r] pos) d :=
  fun env A V s Q E hs hA S lo h => wpAny_Compare1 (hm := hm) (h1 env A V s _ E hs hA S lo fun v1 s1 V1 g1 r1 => h2 env A V1 s1 _ E hs hA (S.go g1) (lo.go O g1) fun v2 s2 V2 g2 r2 =>
    h3 A V2 s2 v1 v2 Q E hA ((S.go g1).go g2) (r1.mono O g2.vk) r2 fun v s' V' g r => h v s' V' ((g1.trans g2).trans g) r)
theorem ts_cmp {l r : Expr} {op : CmpOp} {pos : Pos} {a b : D} {c : Bool} (h1 : Ev X k sc m l a) (h2 : Ev X k sc m r b) (h3 : Op2 X k (compareOp op) a b (.bool c)) (hm : behindInMarks op r = false) : Ts X k sc m (.Compare l [op] [r] pos) c :=
  fun env A V s Q E hs hA S lo h => wpAny_isTrue_Compare1 (hm := hm) (h1 env A V s _ E hs hA S lo fun v1 s1 V1 g1 r1 => h2 env A V1 s1 _ E hs hA (S.go g1) (lo.go O g1) fun v2 s2 V2 g2 r2 =>
    h3 A V2 s2 v1 v2 _ E hA ((S.go g1).go g2) (r1.mono O g2.vk) r2 fun v s' V' g r => by
      obtain rfl := r.bool_inv
      exact wpAny_truthy_bool (h s' V' ((g1.trans g2).trans g)))
theorem evl_nil : EvL X k sc m [] [] := ⟨fun _ => rfl, .inl ⟨rfl, rfl⟩, fun env A V s pos Q E hs hA S lo h => wpAny_pure (h [] s V (Gr.refl S.le) .nil)⟩
theorem evl_cons {e : Expr} {es : List Expr} {d : D} {ds : List D} (h1 : Ev X k sc m e d) (h2 : EvL X k sc m es ds) (hst : ∀ env, starEach (e :: es) env = (false, eval e env) :: starEach es env) : EvL X k sc m (e :: es) (d :: ds) where
  ns := fun env => by rw [hst, List.any_cons, h2.ns]; rfl
  sh := .inr fun env => ⟨_, _, hst env⟩
  ev := fun env A V s pos Q E hs hA S lo h => by
    rw [hst env]
    show wpAny _ _ (spliced ((false, eval e env) :: backTo pos (starEach es env))) _ _ _
    unfold spliced
    refine wpAny_bind (h1 env A V s _ E hs hA S lo fun v s1 V1 g1 r1 => wpAny_bind (wpAny_pure (wpAny_bind (wpAny_holding (h2.ev env A V1 s1 pos _ E hs hA (S.go g1) (lo.go O g1) fun vs s2 V2 g2 r2 => wpAny_pure ?_)))))
    exact h (v :: vs) s2 V2 (g1.trans g2) (.cons (r1.mono O g2.vk) r2)
end
end Mine
end
section
open PySem PySem.W PySem.Calls PyProof.Rows
namespace Mine
section
variable {X : Fix} {k : Nat}
theorem op_add_ii (a b : Int) : Op2 X k (binaryOp .Add) (.int a) (.int b) (.int (a + b)) := fun A V s v1 v2 Q E hA S r1 r2 h => by
  obtain ⟨t1, rfl⟩ := r1.int_inv
  obtain ⟨t2, rfl⟩ := r2.int_inv
  exact PyProof.Rows.add_int (h _ _ _ ((Gr.refl S.le).tok _) (.int _ _))
theorem op_sub_ii (a b : Int) : Op2 X k (binaryOp .Sub) (.int a) (.int b) (.int (a - b)) := fun A V s v1 v2 Q E hA S r1 r2 h => by
  obtain ⟨t1, rfl⟩ := r1.int_inv
  obtain ⟨t2, rfl⟩ := r2.int_inv
  exact PyProof.Rows.sub_int (h _ _ _ ((Gr.refl S.le).tok _) (.int _ _))
theorem op_mul_ii (a b : Int) (hm : IntMulOk a b) : Op2 X k (binaryOp .Mult) (.int a) (.int b) (.int (a * b)) := fun A V s v1 v2 Q E hA S r1 r2 h => by
  obtain ⟨t1, rfl⟩ := r1.int_inv
  obtain ⟨t2, rfl⟩ := r2.int_inv
  exact PyProof.Rows.mul_int (h _ _ _ ((Gr.refl S.le).tok _) (.int _ _)) hm
theorem op_fdiv_ii (a b : Int) (hb : b ≠ 0) (hs : b.natAbs < 2 ^ 100) : Op2 X k (binaryOp .FloorDiv) (.int a) (.int b) (.int (a.fdiv b)) := fun A V s v1 v2 Q E hA S r1 r2 h => by
  obtain ⟨t1, rfl⟩ := r1.int_inv
  obtain ⟨t2, rfl⟩ := r2.int_inv
  refine AutoIntOps.floordiv_1 (by simpa using hb) ?_ (h _ _ _ ((Gr.refl S.le).tok _) (.int _ _))
  unfold Builtin.divisionGoesByPylong
  have : b.natAbs.log2 < 100 := (Nat.log2_lt (by (first | lia | omega))).mpr hs
  have hz : (b == 0) = false := by simpa using hb
  simp only [hz, Bool.false_eq_true, if_false, Bool.and_eq_true, decide_eq_true_eq]
  (first | lia | omega)
theorem op_fmod_ii (a b : Int) (hb : b ≠ 0) : Op2 X k (binaryOp .Mod) (.int a) (.int b) (.int (a.fmod b)) := fun A V s v1 v2 Q E hA S r1 r2 h => by
  obtain ⟨t1, rfl⟩ := r1.int_inv
  obtain ⟨t2, rfl⟩ := r2.int_inv
  exact PyProof.Rows.mod_int hb (h _ _ _ ((Gr.refl S.le).tok _) (.int _ _))
theorem op_pow_ii (a b : Int) (hb : 0 ≤ b) (hs : (Builtin.Int.intBits a : Int) * b ≤ 2 ^ 27) : Op2 X k (binaryOp .Pow) (.int a) (.int b) (.int (a ^ b.toNat)) := fun A V s v1 v2 Q E hA S r1 r2 h => by
  obtain ⟨t1, rfl⟩ := r1.int_inv
  obtain ⟨t2, rfl⟩ := r2.int_inv
  exact PyProof.Rows.pow_int hb hs (h _ _ _ ((Gr.refl S.le).tok _) (.int _ _))
theorem op_div_ii (a b : Int) (ha : 0 ≤ a) (hb : 0 < b) (hs : a.natAbs < 2 ^ 1023) : Op2 X k (binaryOp .Div) (.int a) (.int b) (.flt (Float64.ofFrac false a.natAbs b.natAbs)) := fun A V s v1 v2 Q E hA S r1 r2 h => by
  obtain ⟨t1, rfl⟩ := r1.int_inv
  obtain ⟨t2, rfl⟩ := r2.int_inv
  refine PySem.Flt.div_ii_fits hA.hd hs (fun e => absurd e (by (first | lia | omega))) fun _ _ => ?_
  have e : (decide (a < 0) != decide (b < 0)) = false := by
    rw [decide_eq_false (by (first | lia | omega) : ¬ a < 0), decide_eq_false (by (first | lia | omega) : ¬ b < 0)]; rfl
  rw [e]
  exact h _ _ _ ((Gr.refl S.le).tok _) (.flt _ _)
theorem op_add_ff (a b : UInt64) : Op2 X k (binaryOp .Add) (.flt a) (.flt b) (.flt (Float64.add a b)) := fun A V s v1 v2 Q E hA S r1 r2 h => by
  obtain ⟨t1, rfl⟩ := r1.flt_inv
  obtain ⟨t2, rfl⟩ := r2.flt_inv
  exact AutoFloatOps.add_0 (h _ _ _ ((Gr.refl S.le).tok _) (.flt _ _))
theorem op_sub_ff (a b : UInt64) : Op2 X k (binaryOp .Sub) (.flt a) (.flt b) (.flt (Float64.sub a b)) := fun A V s v1 v2 Q E hA S r1 r2 h => by
  obtain ⟨t1, rfl⟩ := r1.flt_inv
  obtain ⟨t2, rfl⟩ := r2.flt_inv
  exact AutoFloatOps.sub_0 (h _ _ _ ((Gr.refl S.le).tok _) (.flt _ _))
theorem op_mul_ff (a b : UInt64) : Op2 X k (binaryOp .Mult) (.flt a) (.flt b) (.flt (Float64.mul a b)) := fun A V s v1 v2 Q E hA S r1 r2 h => by
  obtain ⟨t1, rfl⟩ := r1.flt_inv
  obtain ⟨t2, rfl⟩ := r2.flt_inv
  exact AutoFloatOps.mul_0 (h _ _ _ ((Gr.refl S.le).tok _) (.flt _ _))
theorem op_div_ff (a b : UInt64) (hb : ¬ Float64.isZero b = true) : Op2 X k (binaryOp .Div) (.flt a) (.flt b) (.flt (Float64.div a b)) := fun A V s v1 v2 Q E hA S r1 r2 h => by
  obtain ⟨t1, rfl⟩ := r1.flt_inv
  obtain ⟨t2, rfl⟩ := r2.flt_inv
  exact AutoFloatOps.truediv_1 hb (h _ _ _ ((Gr.refl S.le).tok _) (.flt _ _))
theorem op_mod_ff (a b : UInt64) (hb : ¬ Float64.isZero b = true) : Op2 X k (binaryOp .Mod) (.flt a) (.flt b) (.flt (Float64.divmod a b).snd) := fun A V s v1 v2 Q E hA S r1 r2 h => by
  obtain ⟨t1, rfl⟩ := r1.flt_inv
  obtain ⟨t2, rfl⟩ := r2.flt_inv
  exact AutoFloatOps.mod_1 hb (h _ _ _ ((Gr.refl S.le).tok _) (.flt _ _))
theorem op_add_if (n : Int) (a : UInt64) (hn : n.natAbs < 2 ^ 1023) : Op2 X k (binaryOp .Add) (.int n) (.flt a) (.flt (Float64.add (Float64.ofInt n) a)) := fun A V s v1 v2 Q E hA S r1 r2 h => by
  obtain ⟨t1, rfl⟩ := r1.int_inv
  obtain ⟨t2, rfl⟩ := r2.flt_inv
  exact PyProof.Rows.add_if_fits hn (h _ _ _ ((Gr.refl S.le).tok _) (.flt _ _))
theorem op_mul_if (n : Int) (a : UInt64) (hn : n.natAbs < 2 ^ 1023) : Op2 X k (binaryOp .Mult) (.int n) (.flt a) (.flt (Float64.mul (Float64.ofInt n) a)) := fun A V s v1 v2 Q E hA S r1 r2 h => by
  obtain ⟨t1, rfl⟩ := r1.int_inv
  obtain ⟨t2, rfl⟩ := r2.flt_inv
  exact PyProof.Rows.mul_if_fits hn (h _ _ _ ((Gr.refl S.le).tok _) (.flt _ _))
theorem op_sub_fi (a : UInt64) (n : Int) (hn : n.natAbs < 2 ^ 1023) : Op2 X k (binaryOp .Sub) (.flt a) (.int n) (.flt (Float64.sub a (Float64.ofInt n))) := fun A V s v1 v2 Q E hA S r1 r2 h => by
  obtain ⟨t1, rfl⟩ := r1.flt_inv
  obtain ⟨t2, rfl⟩ := r2.int_inv
  exact PyProof.Rows.sub_fi_fits hn (h _ _ _ ((Gr.refl S.le).tok _) (.flt _ _))
theorem op_add_ss (x y : Str) (hl : x.length + y.length ≤ sizeLine) : Op2 X k (binaryOp .Add) (.str x) (.str y) (.str (x ++ y)) := fun A V s v1 v2 Q E hA S r1 r2 h => by
  obtain ⟨t1, rfl⟩ := r1.str_inv
  obtain ⟨t2, rfl⟩ := r2.str_inv
  exact PyProof.Rows.add_str (fun t tk => h _ _ _ ((Gr.refl S.le).tok _) (.str _ _)) hl
theorem cmp_eq_ii (a b : Int) : Op2 X k (compareOp .Eq) (.int a) (.int b) (.bool (a == b)) := fun A V s v1 v2 Q E hA S r1 r2 h => by
  obtain ⟨t1, rfl⟩ := r1.int_inv
  obtain ⟨t2, rfl⟩ := r2.int_inv
  exact PyProof.Rows.eq_int (h _ _ _ (Gr.refl S.le) (.bool _))
theorem cmp_lt_ii (a b : Int) : Op2 X k (compareOp .Lt) (.int a) (.int b) (.bool (decide (a < b))) := fun A V s v1 v2 Q E hA S r1 r2 h => by
  obtain ⟨t1, rfl⟩ := r1.int_inv
  obtain ⟨t2, rfl⟩ := r2.int_inv
  exact PyProof.Rows.lt_int (h _ _ _ (Gr.refl S.le) (.bool _))
theorem cmp_le_ii (a b : Int) : Op2 X k (compareOp .LtE) (.int a) (.int b) (.bool (decide (a ≤ b))) := fun A V s v1 v2 Q E hA S r1 r2 h => by
  obtain ⟨t1, rfl⟩ := r1.int_inv
  obtain ⟨t2, rfl⟩ := r2.int_inv
  exact PyProof.Rows.le_int (h _ _ _ (Gr.refl S.le) (.bool _))
theorem cmp_gt_ii (a b : Int) : Op2 X k (compareOp .Gt) (.int a) (.int b) (.bool (decide (b < a))) := fun A V s v1 v2 Q E hA S r1 r2 h => by
  obtain ⟨t1, rfl⟩ := r1.int_inv
  obtain ⟨t2, rfl⟩ := r2.int_inv
  exact PyProof.Rows.gt_int (h _ _ _ (Gr.refl S.le) (.bool _))
theorem cmp_ge_ii (a b : Int) : Op2 X k (compareOp .GtE) (.int a) (.int b) (.bool (decide (b ≤ a))) := fun A V s v1 v2 Q E hA S r1 r2 h => by
  obtain ⟨t1, rfl⟩ := r1.int_inv
  obtain ⟨t2, rfl⟩ := r2.int_inv
  exact PyProof.Rows.ge_int (h _ _ _ (Gr.refl S.le) (.bool _))
theorem cmp_eq_ff (a b : UInt64) : Op2 X k (compareOp .Eq) (.flt a) (.flt b) (.bool (Float64.cmp a b == some Ordering.eq)) := fun A V s v1 v2 Q E hA S r1 r2 h => by
  obtain ⟨t1, rfl⟩ := r1.flt_inv
  obtain ⟨t2, rfl⟩ := r2.flt_inv
  exact AutoFloatOps.eq_0 (h _ _ _ (Gr.refl S.le) (.bool _))
end
end Mine
end
section
open PySem PySem.W PySem.Calls PyProof.Rows
namespace Mine
theorem RdL.length {X : Fix} {V : Heap} : ∀ {ds : List D} {vs : List Value}, RdL X V ds vs → ds.length = vs.length
  | [], _, r => by rw [r.nil_inv]; rfl
  | _ :: ds, _, r => by
    obtain ⟨v, vs', rfl, _, r'⟩ := r.cons_inv
    exact congrArg Nat.succ (RdL.length (ds := ds) r')
theorem RdL.get {X : Fix} {V : Heap} : ∀ {ds : List D} {vs : List Value}, RdL X V ds vs → ∀ {i : Nat} {d : D}, ds[i]? = some d → ∃ v, vs[i]? = some v ∧ Rd X V d v
  | [], _, _, _, _, e => by cases e
  | _ :: ds, _, r, i, d, e => by
    obtain ⟨v, vs', rfl, h, r'⟩ := r.cons_inv
    cases i with
    | zero => cases e; exact ⟨v, rfl, h⟩
    | succ i => exact RdL.get (ds := ds) r' (i := i) e
theorem RdL.append {X : Fix} {V : Heap} : ∀ {ds ds' : List D} {vs vs' : List Value}, RdL X V ds vs → RdL X V ds' vs' → RdL X V (ds ++ ds') (vs ++ vs')
  | [], _, _, _, r, r' => by rw [r.nil_inv]; exact r'
  | _ :: ds, _, _, _, r, r' => by
    obtain ⟨v, vs', rfl, h, r2⟩ := r.cons_inv
    exact .cons h (RdL.append (ds := ds) r2 r')
theorem RdL.none {X : Fix} {V : Heap} {ds : List D} {vs : List Value} (r : RdL X V ds vs) {i : Nat} (e : ds[i]? = none) : vs[i]? = none := by
  rw [List.getElem?_eq_none_iff] at e ⊢
  rw [← r.length]; exact e
theorem RdL.pick {X : Fix} {V : Heap} {ds : List D} {vs : List Value} (r : RdL X V ds vs) : ∀ (l : List Nat), RdL X V (l.filterMap (ds[·]?)) (l.filterMap (vs[·]?))
  | [] => .nil
  | i :: l => by
    cases e : ds[i]? with
    | none => rw [List.filterMap_cons_none e, List.filterMap_cons_none (r.none e)]; exact r.pick l
    | some d =>
      obtain ⟨v, e1, e2⟩ := r.get e
      rw [List.filterMap_cons_some e, List.filterMap_cons_some e1]
      exact .cons e2 (r.pick l)
noncomputable def pickD (l : List D) (lo hi st : Option Int) : List D :=
  (sliceRange (sliceBounds lo hi st l.length).1 (sliceBounds lo hi st l.length).2.1 (sliceBounds lo hi st l.length).2.2).filterMap (l[·]?)
theorem seqIndex_cases {n : Int} {len j : Nat} (h : seqIndex? n len = some j) : (n < 0 ∧ j = (n + len).toNat ∧ 0 ≤ n + len) ∨ (0 ≤ n ∧ j = n.toNat ∧ n < len) := by
  unfold seqIndex? at h
  by_cases hn : n < 0
  · simp only [hn, if_true] at h
    split at h
    · rename_i c
      simp only [Bool.and_eq_true, decide_eq_true_eq] at c
      injection h with h
      exact .inl ⟨hn, h.symm, c.1⟩
    · cases h
  · simp only [hn, if_false] at h
    split at h
    · rename_i c
      simp only [Bool.and_eq_true, decide_eq_true_eq] at c
      injection h with h
      exact .inr ⟨by (first | lia | omega), h.symm, c.2⟩
    · cases h
section
variable {X : Fix} (O : X.Ok) {k : Nat} {sc : Scope} {m : Str → Option D}
include O
theorem ev_tuple {es : List Expr} {n : Nat} {pos : Pos} {ds : List D} (L : EvL X k sc m es ds) (hl : ds.length ≤ 1000) : Ev X k sc m (.Tuple es n pos) (.tup ds) := fun env A V s Q E hs hA S lo h => by
  refine PyProof.Rows.Tuple_ (L.ev env A V s pos _ E hs hA S lo fun vs s1 V1 g1 r1 => ?_)
  have hz := r1.length
  refine wpAny_newObj_type ?_ (by show vs.toArray.size ≤ sizeLine; rw [List.size_toArray, ← hz, sizeLine_eq]; (first | lia | omega))
  obtain ⟨V2, g2, k2, e2⟩ := g1.push O { cls := .type "tuple", data := .seq vs.toArray } rfl
  exact h _ _ V2 g2 (.tup ⟨_, e2, rfl, _, rfl⟩ (by simpa using r1.mono O k2))
theorem ev_list {es : List Expr} {pos : Pos} {ds : List D} (L : EvL X k sc m es ds) (hl : ds.length ≤ 1000) : Ev X k sc m (.List es pos) (.lst ds) := fun env A V s Q E hs hA S lo h => by
  refine PyProof.Rows.List_ (L.ev env A V s pos _ E hs hA S lo fun vs s1 V1 g1 r1 => ?_)
  have hz := r1.length
  refine wpAny_newObj_type ?_ (by show vs.toArray.size ≤ sizeLine; rw [List.size_toArray, ← hz, sizeLine_eq]; (first | lia | omega))
  obtain ⟨V2, g2, k2, e2⟩ := g1.push O { cls := .type "list", data := .seq vs.toArray } rfl
  exact h _ _ V2 g2 (.lst ⟨_, e2, rfl, _, rfl⟩ (by simpa using r1.mono O k2))
theorem ev_ifexp {t b o : Expr} {pos : Pos} {c : Bool} {d : D} (h1 : Ts X k sc m t c) (h2 : c = true → Ev X k sc m b d) (h3 : c = false → Ev X k sc m o d) : Ev X k sc m (.IfExp t b o pos) d := fun env A V s Q E hs hA S lo h => by
  show wpAny _ _ (isTrue t env (eval t env) >>= fun r => if r = true then eval b env else eval o env) _ _ _
  refine wpAny_bind (h1 env A V s _ E hs hA S lo fun s1 V1 g1 => ?_)
  cases c with
  | true => exact h2 rfl env A V1 s1 Q E hs hA (S.go g1) (lo.go O g1) fun v s' V' g r => h v s' V' (g1.trans g) r
  | false => exact h3 rfl env A V1 s1 Q E hs hA (S.go g1) (lo.go O g1) fun v s' V' g r => h v s' V' (g1.trans g) r
theorem ts_not {x : Expr} {pos : Pos} {b : Bool} (h1 : Ts X k sc m x b) : Ts X k sc m (.UnaryOp .Not x pos) (!b) := fun env A V s Q E hs hA S lo h => by
  show wpAny _ _ (isTrue x env (eval x env) >>= fun r => pure (!r)) _ _ _
  exact wpAny_bind (h1 env A V s _ E hs hA S lo fun s1 V1 g1 => wpAny_pure (h s1 V1 g1))
theorem ts_and {x y : Expr} {pos : Pos} {a b : Bool} (h1 : Ts X k sc m x a) (h2 : a = true → Ts X k sc m y b) (hb : a = false → b = false) : Ts X k sc m (.BoolOp .And [x, y] pos) (a && b) := fun env A V s Q E hs hA S lo h => by
  show wpAny _ _ (allTrue .And [x, y] env) _ _ _
  rw [allTrue]
  refine wpAny_bind (h1 env A V s _ E hs hA S lo fun s1 V1 g1 => ?_)
  cases a with
  | false => exact wpAny_pure (h s1 V1 g1)
  | true =>
    show wpAny _ _ (allTrue .And [y] env) _ _ _
    rw [allTrue]
    refine wpAny_bind (h2 rfl env A V1 s1 _ E hs hA (S.go g1) (lo.go O g1) fun s2 V2 g2 => ?_)
    cases b with
    | false => exact wpAny_pure (h s2 V2 (g1.trans g2))
    | true =>
      show wpAny _ _ (allTrue .And [] env) _ _ _
      rw [allTrue]
      exact wpAny_pure (h s2 V2 (g1.trans g2))
/-- an item of a list at a place in it -/
theorem ev_item_lst {v i : Expr} {pos : Pos} {l : List D} {n : Int} {j : Nat} {d : D} (h1 : Ev X k sc m v (.lst l)) (h2 : Ev X k sc m i (.int n)) (hj : seqIndex? n l.length = some j) (hd : l[j]? = some d) (hs1 : -(2 ^ 63) ≤ n ∧ n < 2 ^ 63)
    (hs : ∀ o u, subscripted i false o u = operate [o, u] (getItem o u) := by intro _ _; rfl) : Ev X k sc m (.Subscript v i pos) d := fun env A V s Q E hsc hA S lo h =>
  Subscript_ (h1 env A V s _ E hsc hA S lo fun v1 s1 V1 g1 r1 => h2 env A V1 s1 _ E hsc hA (S.go g1) (lo.go O g1) fun v2 s2 V2 g2 r2 => by
    have S2 := (S.go g1).go g2
    obtain ⟨t2, rfl⟩ := r2.int_inv
    obtain ⟨a, items, rfl, hl, rl⟩ := (r1.mono O g2.vk).lst_inv
    obtain ⟨x, e1, e2⟩ := rl.get hd
    have hl' := isList_keeps hl S2.le
    have hz : l.length = items.size := by simpa using rl.length
    refine tail_any hl'.typeIs PySem.slot_list_getitem.lookup ?_ (hs _ _)
    rcases seqIndex_cases hj with ⟨hn, rfl, c⟩ | ⟨hn, rfl, c⟩
    · exact wpAny_getItem_list_neg hl' hn (by rw [← hz]; (first | lia | omega)) hs1.1 (by rw [← hz]; simpa using e1) (h _ _ _ (g1.trans g2) e2)
    · exact wpAny_getItem_list hl' (by (first | lia | omega)) hs1.2 (by simpa using e1) (h _ _ _ (g1.trans g2) e2))
theorem ev_item_tup {v i : Expr} {pos : Pos} {l : List D} {n : Int} {j : Nat} {d : D} (h1 : Ev X k sc m v (.tup l)) (h2 : Ev X k sc m i (.int n)) (hj : seqIndex? n l.length = some j) (hd : l[j]? = some d) (hs1 : -(2 ^ 63) ≤ n ∧ n < 2 ^ 63)
    (hs : ∀ o u, subscripted i false o u = operate [o, u] (getItem o u) := by intro _ _; rfl) : Ev X k sc m (.Subscript v i pos) d := fun env A V s Q E hsc hA S lo h =>
  Subscript_ (h1 env A V s _ E hsc hA S lo fun v1 s1 V1 g1 r1 => h2 env A V1 s1 _ E hsc hA (S.go g1) (lo.go O g1) fun v2 s2 V2 g2 r2 => by
    have S2 := (S.go g1).go g2
    obtain ⟨t2, rfl⟩ := r2.int_inv
    obtain ⟨a, items, rfl, hl, rl⟩ := (r1.mono O g2.vk).tup_inv
    obtain ⟨x, e1, e2⟩ := rl.get hd
    have hl' := isTuple_keeps hl S2.le
    have hz : l.length = items.size := by simpa using rl.length
    refine tail_any hl'.typeIs PyProof.Rows.slot_tuple_getitem.lookup ?_ (hs _ _)
    exact PyProof.Rows.getItem_tuple (j := j) hl' hs1.1 hs1.2 (by rw [← hz]; exact hj) (by simpa using e1) (h _ _ _ (g1.trans g2) e2))
theorem ev_item_str {v i : Expr} {pos : Pos} {x : Str} {n : Int} {c : Nat} (h1 : Ev X k sc m v (.str x)) (h2 : Ev X k sc m i (.int n)) (hj : (seqIndex? n x.length).bind (x.cps[·]?) = some c) (hs1 : -(2 ^ 63) ≤ n ∧ n < 2 ^ 63)
    (hs : ∀ o u, subscripted i false o u = operate [o, u] (getItem o u) := by intro _ _; rfl) : Ev X k sc m (.Subscript v i pos) (.str ⟨#[c]⟩) := fun env A V s Q E hsc hA S lo h =>
  Subscript_ (h1 env A V s _ E hsc hA S lo fun v1 s1 V1 g1 r1 => h2 env A V1 s1 _ E hsc hA (S.go g1) (lo.go O g1) fun v2 s2 V2 g2 r2 => by
    obtain ⟨t2, rfl⟩ := r2.int_inv
    obtain ⟨t1, rfl⟩ := r1.str_inv
    refine tail_any (typeIs_str _ _ _) PyProof.Rows.slot_str_getitem.lookup ?_ (hs _ _)
    refine PyProof.Rows.getItem_str (c := c) ?_ hj (h _ _ _ ((g1.trans g2).tok _) (.str _ _))
    rw [decide_eq_false (by (first | lia | omega)), decide_eq_false (by (first | lia | omega))]; rfl)
/-- a part of a slice -/
noncomputable def EvP (X : Fix) (k : Nat) (sc : Scope) (m : Str → Option D) : Option Expr → Option Int → Prop
  | none, none => True
  | some e, some i => Ev X k sc m e (.int i)
  | _, _ => False
omit O in
theorem evp_go {X : Fix} {k : Nat} {sc : Scope} {m : Str → Option D} {e : Option Expr} {i : Option Int} (h : EvP X k sc m e i) {env : Env} {A : Around} {V : Heap} {s : Shared} {Q : Value → Shared → Prop} {E : Value → Shared → Prop}
    (hs : env.scope = sc) (hA : Ar k A) (S : St X V s) (lo : Lo X env m V s.heap) (hQ : ∀ v s' V', Gr X V s V' s' → IsPart v i → Q v s') : wpAny (model X.prog X.w) A (evalPart e env) Q E s := by
  cases e with
  | none =>
    cases i with
    | none => exact wpAny_pure (hQ _ _ _ (Gr.refl S.le) .none)
    | some _ => exact h.elim
  | some e =>
    cases i with
    | none => exact h.elim
    | some i => exact h env A V s Q E hs hA S lo fun v s' V' g r => hQ v s' V' g (by cases r; exact .int _ _)
theorem ev_slice {v : Expr} {lo' hi' st' : Option Expr} {p pos : Pos} {l : List D} {a b c : Option Int} (h1 : Ev X k sc m v (.lst l)) (ha : EvP X k sc m lo' a) (hb : EvP X k sc m hi' b) (hc : EvP X k sc m st' c) (h0 : c ≠ some 0)
    (hz : l.length ≤ 100000) : Ev X k sc m (.Subscript v (.Slice lo' hi' st' p) pos) (.lst (pickD l a b c)) := fun env A V s Q E hsc hA S lo h =>
  Subscript_ (h1 env A V s _ E hsc hA S lo fun v1 s1 V1 g1 r1 => by
    refine wpAny_Slice (evp_go ha hsc hA (S.go g1) (lo.go O g1) fun va s2 V2 g2 p2 => evp_go hb hsc hA ((S.go g1).go g2) ((lo.go O g1).go O g2) fun vb s3 V3 g3 p3 =>
      evp_go hc hsc hA (((S.go g1).go g2).go g3) (((lo.go O g1).go O g2).go O g3) fun vc s4 V4 g4 p4 => ?_)
    have g := ((g1.trans g2).trans g3).trans g4
    obtain ⟨V5, g5, k5, e5⟩ := g.push O { cls := .type "slice", data := .fields #[va, vb, vc] } rfl
    have r5 := r1.mono O fun x o e => k5 x o (g4.vk x o (g3.vk x o (g2.vk x o e)))
    obtain ⟨al, items, rfl, hl, rl⟩ := r5.lst_inv
    have hl' := isList_keeps hl g5.le
    have hz' : l.length = items.size := by simpa using rl.length
    have step : ∀ ops, subscripted (.Slice lo' hi' st' p) false (.ref al) (.ref s4.heap.objs.size) = operate ops (getItem (.ref al) (.ref s4.heap.objs.size)) → wpAny (model X.prog X.w) A (subscriptTail v (.Slice lo' hi' st' p) (.ref al) (.ref s4.heap.objs.size)) Q E { s4 with heap := s4.heap.push { cls := .type "slice", data := .fields #[va, vb, vc] } } := fun ops ho => by
      refine tail_any (ops := ops) hl'.typeIs PySem.slot_list_getitem.lookup ?_ ho
      refine wpAny_getItem_list_slice hl' ⟨_, Heap.get?_push_size _ rfl, rfl, rfl⟩ p2 p3 p4 h0 ?_ (by rw [← hz', sizeLine_eq]; (first | lia | omega))
      obtain ⟨V6, g6, k6, e6⟩ := g5.push O { cls := .type "list", data := .seq (slicePick items a b c) } rfl
      refine h _ _ V6 g6 (.lst ⟨_, e6, rfl, _, rfl⟩ ?_)
      have := (rl.mono O k6).pick (sliceRange (sliceBounds a b c l.length).1 (sliceBounds a b c l.length).2.1 (sliceBounds a b c l.length).2.2)
      unfold pickD slicePick
      rw [hz'] at this ⊢
      simpa using this
    cases st' with
    | none => exact step _ rfl
    | some e => exact step _ rfl)
/-- what a name of the module or of the built-ins stands for -/
structure Glo (X : Fix) (x : Str) (f : Value) : Prop where
  at_ : X.mg x = some f ∨ (X.mg x = none ∧ X.mb x = some f)
  fn : (∃ id, f = .builtin id) ∨ (∃ T, f = .type T) ∨ ∃ a o fd, f = .ref a ∧ X.base.get? a = some o ∧ o.data = .func fd
theorem call_args {f : Value} {first : List Value} {es : List Expr} {ds : List D} {env : Env} {A : Around} {V : Heap} {s : Shared} {pos : Pos} {Q : Value → Shared → Prop} {E : Value → Shared → Prop}
    (hf : (∃ id, f = .builtin id) ∨ (∃ T, f = .type T) ∨ ∃ a o fd, f = .ref a ∧ V.get? a = some o ∧ o.data = .func fd)
    (L : EvL X k sc m es ds) (hs : env.scope = sc) (hA : Ar k A) (S : St X V s) (lo : Lo X env m V s.heap)
    (h : ∀ vs s' V', Gr X V s V' s' → RdL X V' ds vs → wpAny (model X.prog X.w) A (call f (first ++ vs)) Q E s') :
    wpAny (model X.prog X.w) A (callWith pos f first (backTo pos (starEach es env)) []) Q E s := by
  have hplain : (backTo pos (starEach es env)).any (·.1) = false := by
    have := L.ns env
    unfold backTo
    rw [List.any_map]; exact this
  have ev : ∀ (Q' : Args → Shared → Prop), (∀ vs s' V', Gr X V s V' s' → RdL X V' ds vs → Q' ⟨vs, []⟩ s') → wpAny (model X.prog X.w) A (evalArgs f true (backTo pos (starEach es env)) []) Q' E s := fun Q' hQ => by
    have q := L.ev env A V s pos (fun vs s' => Q' ⟨vs, []⟩ s') E hs hA S lo hQ
    rcases L.sh with ⟨rfl, rfl⟩ | sh
    · exact PySem.evalArgs_none (hQ [] s V (Gr.refl S.le) .nil)
    · obtain ⟨t, r, e⟩ := sh env
      rw [e] at q ⊢
      exact evalArgs_plain q
  rcases hf with ⟨id, rfl⟩ | ⟨T, rfl⟩ | ⟨a, o, fd, rfl, ho, hd⟩
  · exact Calls.callWith_builtin hplain (ev _ fun vs s' V' g r => h vs s' V' g r)
  · exact PySem.callWith_type hplain (ev _ fun vs s' V' g r => h vs s' V' g r)
  · exact callWith_function_kw (ev _ fun vs s' V' g r => ⟨⟨g.le _ _ (g.vk _ _ ho), hd⟩, h vs s' V' g r⟩)
theorem ev_call {x : Str} {p pos : Pos} {es : List Expr} {ds : List D} {f : Value} {d : D} (hg : Glo X x f) (hk : sc.names.lookup x = some .globalImplicit) (hd : (x == ("__debug__" : Str)) = false)
    (L : EvL X k sc m es ds) (c : OpL X k (fun vs => call f vs) ds d) : Ev X k sc m (.Call (.Name x p) es [] pos) d := fun env A V s Q E hs hA S lo h => by
  refine PyProof.Rows.Call_Name rfl ?_
  have go : wpAny (model X.prog X.w) A (callWith pos f [] (backTo pos (starEach es env)) []) Q E s := by
    refine call_args (first := []) O ?_ L hs hA S lo fun vs s1 V1 g1 r1 => c A V1 s1 vs Q E hA (S.go g1) r1 fun v s' V' g r => h v s' V' (g1.trans g) r
    rcases hg.fn with q | q | ⟨a, o, fd, q1, q2, q3⟩
    · exact .inl q
    · exact .inr (.inl q)
    · exact .inr (.inr ⟨a, o, fd, q1, S.bs _ _ q2, q3⟩)
  refine Name_function_global lo.fn (by rw [← hs] at hk; exact hk) ?_ hd
  have G : s.heap.Ns env.globals X.mg := by rw [lo.gl]; exact O.g.keeps S.bh
  have B : s.heap.Ns env.builtins X.mb := by rw [lo.bl]; exact O.b.keeps S.bh
  rcases hg.at_ with e | ⟨e1, e2⟩
  · exact loadGlobal_global G e go
  · exact loadGlobal_builtin G e1 B e2 go
end
end Mine
end
section
open PySem PySem.W PySem.Calls PyProof.Rows
namespace Mine
/-- what a loop takes -/
noncomputable def itemsOf : D → Option (List D)
  | .lst l => some l
  | .tup l => some l
  | .rng n => if 0 ≤ n ∧ n < 2 ^ 40 then some ((List.range n.toNat).map fun (i : Nat) => D.int (i : Int)) else none
  | _ => none
/-- an iterator at I over xs; P i: its object before the i-th -/
structure It (X : Fix) (V0 : Heap) (I : Addr) (xs : List D) (P : Nat → Obj → Prop) : Prop where
  q : ∀ i o, P i o → quiet o ∧ (∀ vs, o ≠ tab vs) ∧ (∃ vs, o.data = .fields vs) ∧ o.cls ≠ .none
  self : ∀ (A : Around) (s : Shared) (i : Nat) (o : Obj) (Q : Value → Shared → Prop) (E : Value → Shared → Prop), s.heap.get? I = some o → P i o → Q (.ref I) s → wpAny (model X.prog X.w) A (pyIter (.ref I)) Q E s
  nxt : ∀ (A : Around) (s : Shared) (i : Nat) (o : Obj) (d : D) (Q : Option Value → Shared → Prop) (E : Value → Shared → Prop), A.handled = none → Sub V0 s.heap → s.heap.get? I = some o → P i o → xs[i]? = some d →
    (∀ v o' h' tk, h'.get? I = some o' → P (i + 1) o' → Heap.SameBut I s.heap h' → Rd X V0 d v → Q (some v) { s with heap := h', toks := tk }) → wpAny (model X.prog X.w) A (pyNext (.ref I)) Q E s
  fin : ∀ (A : Around) (s : Shared) (o : Obj) (Q : Option Value → Shared → Prop) (E : Value → Shared → Prop), A.handled = none → Sub V0 s.heap → s.heap.get? I = some o → P xs.length o →
    (∀ h' tk, Heap.ExtBut I s.heap h' → Q none { s with heap := h', toks := tk }) → wpAny (model X.prog X.w) A (pyNext (.ref I)) Q E s
theorem it_list {X : Fix} {V : Heap} {I a : Addr} {items : Array Value} {l : List D} (h : V.IsList a items) (r : RdL X V l items.toList) :
    It X V I l (fun i o => o.cls = .type "list_iterator" ∧ o.data = .fields #[.ref a, .int i 0]) where
  q := fun i o h => ⟨.inr ⟨by rw [h.1]; simp, by rw [h.1]; simp⟩, not_tab_cls (by rw [h.1]; simp), ⟨_, h.2⟩, by rw [h.1]; simp⟩
  self := fun A s i o Q E e p hq => wpAny_pyIter_listiter ⟨o, e, p.1, p.2⟩ hq
  nxt := fun A s i o d Q E hA hV e p hd hq => by
    obtain ⟨v, e1, e2⟩ := r.get hd
    refine wpAny_pyNext_list_item ⟨o, e, p.1, p.2⟩ (isList_keeps h hV) (x := v) (by simpa using e1) fun h' hit hs => ?_
    obtain ⟨o', q1, q2, q3⟩ := hit
    exact hq v o' h' _ q1 ⟨q2, q3⟩ hs e2
  fin := fun A s o Q E hA hV e p hq => wpAny_pyNext_list_end hA ⟨o, e, p.1, p.2⟩ (isList_keeps h hV) (by have := r.length; simp at this; simp [this]) fun h' he => hq h' s.toks he
theorem it_tuple {X : Fix} {V : Heap} {I a : Addr} {items : Array Value} {l : List D} (h : V.IsTuple a items) (r : RdL X V l items.toList) :
    It X V I l (fun i o => o.cls = .type "tuple_iterator" ∧ o.data = .fields #[.ref a, .int i 0]) where
  q := fun i o h => ⟨.inr ⟨by rw [h.1]; simp, by rw [h.1]; simp⟩, not_tab_cls (by rw [h.1]; simp), ⟨_, h.2⟩, by rw [h.1]; simp⟩
  self := fun A s i o Q E e p hq => wpAny_pyIter_tupleiter ⟨o, e, p.1, p.2⟩ hq
  nxt := fun A s i o d Q E hA hV e p hd hq => by
    obtain ⟨v, e1, e2⟩ := r.get hd
    refine wpAny_pyNext_tuple_item ⟨o, e, p.1, p.2⟩ (isTuple_keeps h hV) (x := v) (by simpa using e1) fun h' hit hs => ?_
    obtain ⟨o', q1, q2, q3⟩ := hit
    exact hq v o' h' _ q1 ⟨q2, q3⟩ hs e2
  fin := fun A s o Q E hA hV e p hq => wpAny_pyNext_tuple_end hA ⟨o, e, p.1, p.2⟩ (isTuple_keeps h hV) (by have := r.length; simp at this; simp [this]) fun h' he => hq h' s.toks he
theorem it_range {X : Fix} {V : Heap} {I : Addr} (n : Nat) :
    It X V I ((List.range n).map fun (i : Nat) => D.int (i : Int)) (fun i o => o = { cls := .type "range_iterator", dict := none, data := .fields #[rawInt (i : Int), rawInt ((n : Int) - i), rawInt 1], slots := #[] }) where
  q := fun i o h => ⟨.inr ⟨by rw [h]; simp, by rw [h]; simp⟩, not_tab_cls (by rw [h]; simp), ⟨_, congrArg Obj.data h⟩, by rw [h]; simp⟩
  self := fun A s i o Q E e p hq => wpAny_pyIter_rangeiter (x := (i : Int)) (left := (n : Int) - i) (step := 1) (by subst p; exact e) hq
  nxt := fun A s i o d Q E hA hV e p hd hq => by
    subst p
    rw [List.getElem?_map] at hd
    have hi : i < n := by
      cases q : (List.range n)[i]? with
      | none => rw [q] at hd; cases hd
      | some j => have := (List.getElem?_eq_some_iff.mp q).1; simpa using this
    have hd' : d = .int i := by simp [hi] at hd; exact hd.symm
    subst hd'
    refine wpAny_pyNext_range_item (x := (i : Int)) (left := (n : Int) - i) (step := 1) e (by (first | lia | omega)) fun h' hit hs => ?_
    refine hq _ _ h' _ hit ?_ hs (.int _ _)
    have e1 : ((i + 1 : Nat) : Int) = (i : Int) + 1 := by (first | lia | omega)
    have e2 : (n : Int) - ((i + 1 : Nat) : Int) = (n : Int) - i - 1 := by (first | lia | omega)
    rw [e1, ← e1, e2, e1]
  fin := fun A s o Q E hA hV e p hq => by
    subst p
    refine wpAny_pyNext_range_end (x := (((List.range n).map fun (i : Nat) => D.int (i : Int)).length : Int)) (left := (n : Int) - (((List.range n).map fun (i : Nat) => D.int (i : Int)).length : Int)) (step := 1) hA e (by simp) fun h' he => hq h' s.toks he
/-- an iterator is made -/
theorem iter_ok {X : Fix} {A : Around} {V : Heap} {s : Shared} {d : D} {v : Value} {xs : List D} {Q : Value → Shared → Prop} {E : Value → Shared → Prop} (hA : A.handled = none) (le : Sub V s.heap) (hd : itemsOf d = some xs) (r : Rd X V d v)
    (h : ∀ o P, o.isFreed = false → It X V s.heap.objs.size xs P → P 0 o → Q (.ref s.heap.objs.size) { s with heap := s.heap.push o }) : wpAny (model X.prog X.w) A (pyIter v) Q E s := by
  cases r with
  | lst hl rl => cases hd; exact wpAny_pyIter_list (isList_keeps hl le) (h _ _ rfl (it_list hl rl) ⟨rfl, rfl⟩)
  | tup hl rl => cases hd; exact wpAny_pyIter_tuple (isTuple_keeps hl le) (h _ _ rfl (it_tuple hl rl) ⟨rfl, rfl⟩)
  | @rng n a t0 t1 t2 e =>
    unfold itemsOf at hd
    dsimp only at hd
    split at hd
    · rename_i hn
      cases hd
      have hsz : Builtin.Range.rangeSize 0 n 1 = (n.toNat : Int) := by
        unfold Builtin.Range.rangeSize
        by_cases h0 : 0 < n
        · simp [h0]; (first | lia | omega)
        · simp [h0]; (first | lia | omega)
      refine wpAny_pyIter_range (a := 0) (b := n) (c := 1) (t := t0) (u := t1) (v := t2) (le _ _ e) ?_ ?_
      · unfold Builtin.Range.small Builtin.Range.rangeFitsLong
        rw [hsz]
        have h1 := hn.1
        have h2 := hn.2
        simp only [Bool.and_eq_true, decide_eq_true_eq, Bool.or_eq_true]
        refine ⟨⟨⟨⟨⟨by decide, by decide⟩, by (first | lia | omega), by (first | lia | omega)⟩, by decide, by decide⟩, by (first | lia | omega), by (first | lia | omega)⟩, .inr ?_⟩
        rw [if_pos (by decide)]
        simp only [Bool.and_eq_true, decide_eq_true_eq]
        (first | lia | omega)
      · refine h _ _ rfl (it_range n.toNat) ?_
        rw [hsz]; simp
    · cases hd
  | _ => cases hd
end Mine
end
section
open PySem PySem.W PySem.Calls PyProof.Rows
namespace Mine
/-- the cells that a block within takes along -/
theorem closure_ok {env : Env} : ∀ (names : List (Str × NameKind)) (cs : List (Str × Addr)), (∀ x ∈ names, x.2 = .free → ∃ c, env.cells.lookup x.1 = some c) → (∀ n c, cs.lookup n = some c → env.cells.lookup n = some c) →
    ∃ cl : List (Str × Addr), (forIn names cs fun (x : Str × NameKind) (r : List (Str × Addr)) => (if (x.2 == NameKind.free) = true then cellOf env x.1 >>= fun a => pure (ForInStep.yield ((x.1, a) :: r)) else pure (ForInStep.yield r) : Sem (ForInStep (List (Str × Addr))))) = pure cl ∧
      (∀ n c, cl.lookup n = some c → env.cells.lookup n = some c) ∧ (∀ n c, cs.lookup n = some c → ∃ c', cl.lookup n = some c') ∧ ∀ x ∈ names, x.2 = .free → ∃ c, cl.lookup x.1 = some c
  | [], cs, _, h2 => ⟨cs, by rw [List.forIn_nil], h2, fun n c e => ⟨c, e⟩, fun _ h => (nomatch h)⟩
  | (n, kd) :: r, cs, h1, h2 => by
    cases hk : (kd == NameKind.free) with
    | true =>
      have hkd : kd = .free := by simpa using hk
      obtain ⟨c, hc⟩ := h1 (n, kd) (.head _) hkd
      have hcell : cellOf env n = pure c := by unfold cellOf; rw [hc]
      obtain ⟨cl, e1, e2, e3, e4⟩ := closure_ok r ((n, c) :: cs) (fun x hx => h1 x (.tail _ hx)) (fun n' c' e => by
        rw [List.lookup_cons] at e
        cases hb : n' == n with
        | true => rw [hb] at e; cases e; rw [beq_iff_eq.mp hb]; exact hc
        | false => rw [hb] at e; exact h2 n' c' e)
      refine ⟨cl, ?_, e2, fun n' c' e => ?_, fun x hx hf => ?_⟩
      · rw [List.forIn_cons]
        simp only [hk, if_true, hcell, pure_bind]
        exact e1
      · cases hb : n' == n with
        | true => exact e3 n' c (by rw [List.lookup_cons, hb])
        | false => exact e3 n' c' (by rw [List.lookup_cons, hb]; exact e)
      · cases hx with
        | head => exact e3 n c (by simp)
        | tail _ hx => exact e4 x hx hf
    | false =>
      obtain ⟨cl, e1, e2, e3, e4⟩ := closure_ok r cs (fun x hx => h1 x (.tail _ hx)) h2
      refine ⟨cl, ?_, e2, e3, fun x hx hf => ?_⟩
      · rw [List.forIn_cons]
        simp only [hk, Bool.false_eq_true, if_false, pure_bind]
        exact e1
      · cases hx with
        | head => rw [show kd = .free from hf] at hk; cases hk
        | tail _ hx => exact e4 x hx hf
theorem closureFor_ok {env : Env} {scope : Scope} (h : ∀ x ∈ scope.names, x.2 = .free → ∃ c, env.cells.lookup x.1 = some c) :
    ∃ cl : List (Str × Addr), closureFor scope env = pure cl ∧ (∀ n c, cl.lookup n = some c → env.cells.lookup n = some c) ∧ ∀ x ∈ scope.names, x.2 = .free → ∃ c, cl.lookup x.1 = some c := by
  obtain ⟨cl, e1, e2, _, e4⟩ := closure_ok scope.names [] h (fun _ _ e => by cases e)
  refine ⟨cl, ?_, e2, e4⟩
  unfold closureFor
  show (forIn scope.names ([] : List (Str × Addr)) _ >>= fun cs => pure cs) = pure cl
  exact (congrArg (fun t : Sem (List (Str × Addr)) => t >>= fun cs => pure cs) e1).trans rfl
/-- the scope of a comprehension's block in a def of scope sc -/
noncomputable def relab (scope sc : Scope) : Scope := { scope with names := scope.names.map fun (n, k) => if (k == .free && sc.kind == .function && sc.names.lookup n == some .cell) then (n, .cell) else (n, k) }
/-- what is known in it -/
noncomputable def inM (sc' : Scope) (x : Str) (d : D) (m : Str → Option D) : Str → Option D := fun y => if y = x then some d else if sc'.names.lookup y = some .cell then m y else none
theorem relab_cell {sc : Scope} {y : Str} : ∀ (names : List (Str × NameKind)), (∀ z ∈ names, z.2 ≠ .cell) →
    (names.map fun (n, k) => if (k == NameKind.free && sc.kind == .function && sc.names.lookup n == some .cell) then (n, NameKind.cell) else (n, k)).lookup y = some .cell → (y, NameKind.free) ∈ names ∧ sc.names.lookup y = some .cell
  | [], _, h => by cases h
  | (n, kd) :: r, hz, h => by
    rw [List.map_cons] at h
    by_cases hc : (kd == NameKind.free && sc.kind == .function && sc.names.lookup n == some .cell) = true
    · simp only [hc, if_true, List.lookup_cons] at h
      cases hb : y == n with
      | true =>
        have hyn := beq_iff_eq.mp hb
        subst hyn
        simp only [Bool.and_eq_true, beq_iff_eq] at hc
        exact ⟨by rw [← hc.1.1]; exact .head _, hc.2⟩
      | false => rw [hb] at h; obtain ⟨q1, q2⟩ := relab_cell r (fun z hz' => hz z (.tail _ hz')) h; exact ⟨.tail _ q1, q2⟩
    · simp only [hc, Bool.false_eq_true, if_false, List.lookup_cons] at h
      cases hb : y == n with
      | true => rw [hb] at h; cases h; exact absurd rfl (hz (n, .cell) (.head _))
      | false => rw [hb] at h; obtain ⟨q1, q2⟩ := relab_cell r (fun z hz' => hz z (.tail _ hz')) h; exact ⟨.tail _ q1, q2⟩
/-- its tests -/
noncomputable def TsL (X : Fix) (k : Nat) (sc : Scope) (m : Str → Option D) (ifs : List Expr) (b : Bool) : Prop :=
  ∀ (env : Env) (A : Around) (V : Heap) (s : Shared) (Q : Bool → Shared → Prop) (E : Value → Shared → Prop), env.scope = sc → Ar k A → St X V s → Lo X env m V s.heap →
    (∀ s' V', Gr X V s V' s' → Q b s') → wpAny (model X.prog X.w) A (forIn ifs true fun c r => if r = true then do let ok ← isTrue c env (eval c env); pure (ForInStep.yield ok) else pure (ForInStep.yield r)) Q E s
theorem tsl_nil {X : Fix} {k : Nat} {sc : Scope} {m : Str → Option D} : TsL X k sc m [] true := fun env A V s Q E _ _ S _ h => by
  rw [List.forIn_nil]; exact wpAny_pure (h s V (Gr.refl S.le))
theorem tsl_one {X : Fix} {k : Nat} {sc : Scope} {m : Str → Option D} {c : Expr} {b : Bool} (h1 : Ts X k sc m c b) : TsL X k sc m [c] b := fun env A V s Q E hs hA S lo h => by
  rw [List.forIn_cons]
  refine wpAny_bind ?_
  show wpAny _ _ (isTrue c env (eval c env) >>= fun ok => pure (ForInStep.yield ok)) _ _ _
  refine wpAny_bind (h1 env A V s _ E hs hA S lo fun s' V' g => wpAny_pure ?_)
  show wpAny _ _ (forIn [] b _) _ _ _
  rw [List.forIn_nil]; exact wpAny_pure (h s' V' g)
section
variable {X : Fix} (O : X.Ok) {k : Nat} {sc : Scope} {m : Str → Option D}
include O
theorem comp_core {elt iter : Expr} {x : Str} {px : Pos} {ifs : List Expr} {scope : Scope} {pos : Pos} {di : D} {xs : List D} {p : D → Bool} {g : D → D} {env : Env} {A : Around} {V : Heap} {s : Shared} {vi : Value} {cl : List (Str × Addr)}
    {E : Value → Shared → Prop} {R : Value → Addr → Result → Shared → Prop}
    (hs : env.scope = sc) (hA : Ar k A) (S : St X V s) (lo : Lo X env m V s.heap) (ri : Rd X V di vi) (hi : itemsOf di = some xs) (hlen : xs.length ≤ 100000)
    (hcl1 : ∀ n c, cl.lookup n = some c → env.cells.lookup n = some c) (hcl2 : ∀ y ∈ scope.names, y.2 = .free → ∃ c, cl.lookup y.1 = some c)
    (hcell : ∀ y ∈ scope.names, y.2 ≠ .cell) (hkind : scope.kind = .function) (hx : scope.names.lookup x = some .local)
    (ht : ∀ d ∈ xs, TsL X k (relab scope sc) (inM (relab scope sc) x d m) ifs (p d)) (he : ∀ d ∈ xs, p d = true → Ev X k (relab scope sc) (inM (relab scope sc) x d m) elt (g d))
    (hR : ∀ D C V' s' mC, Gr X V s V' s' → s.heap.get? C = none → V'.get? C = none → s'.heap.Ns C mC → Rd X V' (.lst ((xs.filter p).map g)) (.ref D) → R (.ref D) C (.ok .next) s') :
    wpAny (model X.prog X.w) A (pyIter vi) (fun it s₂ => wpAny (model X.prog X.w) A (newList []) (fun acc s₃ =>
      wpAny (model X.prog X.w) A (newFunctionEnv scope env.globals cl [] env.qual none .none (some env)) (fun cenv s₄ =>
        codeAny (model X.prog X.w) A (.compStart (.ListComp elt [⟨.Name x px, iter, ifs, 0⟩] scope pos) 0 it acc { cenv with scope := relabel scope env }) (R acc cenv.locals) s₄) E s₃) E s₂) E s := by
  refine iter_ok hA.hd S.le hi ri fun oI P hfI I hP => ?_
  refine wpAny_newObj_type (wpAny_newFunctionEnv hcell (by intro y hy; simp at hy) (fun h₁ hns₁ hsb₁ => ?_) hkind)
  dsimp only at hns₁ hsb₁ ⊢
  generalize hH1 : s.heap.push oI = H1 at hns₁ hsb₁ ⊢
  generalize hH2 : H1.push { cls := .type "list", dict := none, data := .seq ([] : List Value).toArray } = H2 at hns₁ hsb₁ ⊢
  have z1 : H1.objs.size = s.heap.objs.size + 1 := by rw [← hH1, Heap.size_push]
  have z2 : H2.objs.size = H1.objs.size + 1 := by rw [← hH2, Heap.size_push]
  have nI : s.heap.get? s.heap.objs.size = none := get_size _
  have nD : s.heap.get? H1.objs.size = none := get_far (Nat.le_of_lt (z1 ▸ Nat.lt_succ_self _))
  have nC : s.heap.get? H2.objs.size = none := get_far (by rw [z2, z1]; exact Nat.le_trans (Nat.le_succ _) (Nat.le_succ _))
  have vI : V.get? s.heap.objs.size = none := Sub.no S.le nI
  have vD : V.get? H1.objs.size = none := Sub.no S.le nD
  have vC : V.get? H2.objs.size = none := Sub.no S.le nC
  have ID : s.heap.objs.size ≠ H1.objs.size := by (first | lia | omega)
  have IC : s.heap.objs.size ≠ H2.objs.size := by (first | lia | omega)
  have DC : H1.objs.size ≠ H2.objs.size := by (first | lia | omega)
  -- the state behind the three
  have g₁ : Gr X V s V { s with heap := h₁, toks := s.toks } := by
    refine Gr.of_keeps O S.le (fun b o e => ?_) rfl rfl
    refine hsb₁.extBut b o (fun z => by rw [z, nC] at e; cases e) (Heap.get?_push_of_some _ ?_)
    rw [← hH2]; refine Heap.get?_push_of_some _ ?_
    rw [← hH1]; exact Heap.get?_push_of_some _ e
  have eI : h₁.get? s.heap.objs.size = some oI := by
    refine hsb₁.extBut _ _ IC (Heap.get?_push_of_some _ ?_)
    rw [← hH2]; refine Heap.get?_push_of_some _ ?_
    rw [← hH1]; exact Heap.get?_push_size _ hfI
  have eD : h₁.IsList H1.objs.size #[] := by
    refine ⟨{ cls := .type "list", dict := none, data := .seq ([] : List Value).toArray }, hsb₁.extBut _ _ DC (Heap.get?_push_of_some _ ?_), rfl, 0, rfl⟩
    rw [← hH2]; exact Heap.get?_push_size _ rfl
  generalize hIa : s.heap.objs.size = Ia at *
  generalize hDa : H1.objs.size = Da at *
  generalize hCa : H2.objs.size = Ca at *
  have kx : (compEnvC scope cl Ca env).kindOf x = some .local := lookup_relabel_local hx
  -- the names within
  have inner : ∀ (d : D) (v : Value) (V' : Heap) (s' : Shared) (mC : Str → Option Value), Gr X V s V' s' → Rd X V' d v → s'.heap.Ns Ca mC → mC x = some v → Lo X (compEnvC scope cl Ca env) (inM (relab scope sc) x d m) V' s'.heap := fun d v V' s' mC ga rd hn hm => by
    have lo' := lo.go O ga
    have sceq : (compEnvC scope cl Ca env).scope = relab scope sc := by subst hs; rfl
    refine ⟨hkind, lo.gl, lo.bl, ⟨mC, hn, fun y e hy hk => ?_⟩, fun y hy => ?_, fun y e hy hk => ?_⟩
    · unfold inM at hy
      split at hy
      · rename_i hyx; cases hyx.symm; cases hy; exact ⟨v, hm, rd⟩
      · split at hy
        · rename_i hc
          have : (compEnvC scope cl Ca env).kindOf y = some .cell := by unfold Env.kindOf; rw [sceq]; exact hc
          rw [this] at hk; cases hk
        · cases hy
    · -- a cell of the block's is one it took along
      have hl : (relab scope sc).names.lookup y = some .cell := by rw [← sceq]; exact hy
      exact hcl2 (y, .free) (relab_cell scope.names hcell hl).1 rfl
    · unfold inM at hy
      split at hy
      · rename_i hyx; cases hyx.symm; exact absurd kx hk
      · split at hy
        · rename_i hc
          have kc : (compEnvC scope cl Ca env).kindOf y = some .cell := by unfold Env.kindOf; rw [sceq]; exact hc
          obtain ⟨hm1, hm2⟩ := relab_cell scope.names hcell hc
          have ke : env.kindOf y = some .cell := by unfold Env.kindOf; rw [hs]; exact hm2
          obtain ⟨_, c, v', q1, q2, q3⟩ := lo'.ce y e hy (by rw [ke]; simp)
          obtain ⟨c', q4⟩ := hcl2 (y, .free) hm1 rfl
          have q5 := hcl1 _ _ q4
          rw [q1] at q5; cases q5
          exact ⟨.inl kc, c, v', q4, q2, q3⟩
        · cases hy
  have sceq : (compEnvC scope cl Ca env).scope = relab scope sc := by subst hs; rfl
  have kp : ((compEnvC scope cl Ca env).scope.kind == .class || ((compEnvC scope cl Ca env).scope.kind == .module && (compEnvC scope cl Ca env).locals != (compEnvC scope cl Ca env).globals)) = false := by simp [compEnvC, relabel, hkind]
  have loop : codeAny (model X.prog X.w) A (.compLoop (.ListComp elt [⟨.Name x px, iter, ifs, 0⟩] scope pos) 0 (.ref Ia) (.ref Da) (compEnvC scope cl Ca env)) (R (.ref Da) Ca) { s with heap := h₁, toks := s.toks + ([] : List (Str × Value)).length } := by
    refine codeAny_compLoop_tests (fun n s' => ∃ i V' o ys mC, Gr X V s V' s' ∧ V'.get? Ia = none ∧ V'.get? Da = none ∧ V'.get? Ca = none ∧ s'.heap.get? Ia = some o ∧ P i o ∧ s'.heap.IsList Da ys ∧ RdL X V' (((xs.take i).filter p).map g) ys.toList ∧
      s'.heap.Ns Ca mC ∧ i ≤ xs.length ∧ n = xs.length + 1 - i) ?_ (xs.length + 1) ⟨0, V, oI, #[], _, g₁.tok _, vI, vD, vC, eI, hP, eD, by simpa using RdL.nil, hns₁, Nat.zero_le _, rfl⟩
    rintro n s' ⟨i, V', o, ys, mC, ga, w1, w2, w3, e1, hp, e2, rl, hn, hle, rfl⟩
    have qI : ∀ o', s'.heap.get? Ia = some o' → quiet o' := fun o' e => by rw [e1] at e; cases e; exact (I.q _ _ hp).1
    by_cases hlt : i < xs.length
    · have hd : xs[i]? = some xs[i] := by simp [hlt]
      have hmem : xs[i] ∈ xs := List.getElem_mem hlt
      generalize hdd : xs[i] = d at hd hmem
      refine I.nxt A s' i o d _ _ hA.hd (fun b o e => ga.le b o (ga.vk b o e)) e1 hp hd fun v o' h' tk q1 q2 q3 rd => ?_
      have gb : Gr X V s V' { s' with heap := h', toks := tk } := ga.own O Ia nI w1 q3.extBut qI
      have hn' := hn.sameBut q3 (Ne.symm IC)
      refine wpAny_assign_Name (wpAny_storeName_local kx hn' (fun h₂ hn₂ hs₂ => ?_) kp)
      have gc : Gr X V s V' { s' with heap := h₂, toks := tk + 1 } := gb.own O Ca nC w3 hs₂.extBut (fun o'' e => ns_quiet hn' e)
      have lo2 := inner d v V' _ _ gc (rd.mono O gc.vk) hn₂ (by simp)
      have l2 : ∃ ol, h₂.get? Da = some ol ∧ ol.cls = .type "list" ∧ ∃ nn, ol.data = .seq ys nn := by
        obtain ⟨ol, c1, c2⟩ := e2
        exact ⟨ol, hs₂.extBut _ _ DC (q3.extBut _ _ (Ne.symm ID) c1), c2⟩
      have i2 : h₂.get? Ia = some o' := hs₂.extBut _ _ IC q1
      refine ht d hmem (compEnvC scope cl Ca env) A V' _ _ _ sceq hA (S.go gc) lo2 fun s3 V3 g3 => ?_
      have gd := gc.trans g3
      obtain ⟨ol, c1, c2, nn, c3⟩ := l2
      have l3 : s3.heap.get? Da = some ol := g3.kp _ _ c1 (not_tab_seq c3)
      have i3 : s3.heap.get? Ia = some o' := g3.kp _ _ i2 (I.q _ _ q2).2.1
      have n3 : s3.heap.Ns Ca (fun y => if y = x then some v else mC y) := g3.ns hn₂
      have w1' : V3.get? Ia = none := g3.vnone i2 w1
      have w2' : V3.get? Da = none := g3.vnone c1 w2
      have w3' : V3.get? Ca = none := g3.nsnone hn₂ w3
      have tk1 : xs.take (i + 1) = xs.take i ++ [d] := by rw [List.take_succ, hd]; rfl
      cases hpd : p d with
      | false =>
        simp only [Bool.false_eq_true, if_false]
        refine ⟨xs.length + 1 - (i + 1), by (first | lia | omega), i + 1, V3, o', ys, _, gd, w1', w2', w3', i3, q2, ⟨ol, l3, c2, nn, c3⟩, ?_, n3, hlt, rfl⟩
        rw [tk1, List.filter_append]
        simp only [List.filter_cons, hpd, Bool.false_eq_true, if_false, List.filter_nil, List.append_nil]
        exact rl.mono O g3.vk
      | true =>
        simp only [if_true]
        have lo3 := inner d v V3 _ _ gd (rd.mono O gd.vk) n3 (by simp)
        refine he d hmem hpd (compEnvC scope cl Ca env) A V3 s3 _ _ sceq hA (S.go gd) lo3 fun y s4 V4 g4 ry => ?_
        have ge := gd.trans g4
        have l4 : s4.heap.IsList Da ys := ⟨ol, g4.kp _ _ l3 (not_tab_seq c3), c2, nn, c3⟩
        have i4 : s4.heap.get? Ia = some o' := g4.kp _ _ i3 (I.q _ _ q2).2.1
        have n4 : s4.heap.Ns Ca (fun y => if y = x then some v else mC y) := g4.ns n3
        have w4 : V4.get? Da = none := g4.vnone l3 w2'
        have hys : ys.size ≤ 100000 := by
          have a1 := rl.length
          rw [List.length_map] at a1
          have a2 : ((xs.take i).filter p).length ≤ (xs.take i).length := List.length_filter_le _ _
          have a3 : (xs.take i).length ≤ xs.length := by simp; (first | lia | omega)
          simp only [Array.length_toList] at a1
          (first | lia | omega)
        refine wpAny_list_append l4 (fun h5 l5 s5 => ?_) (by rw [sizeLine_eq]; (first | lia | omega))
        have gf : Gr X V s V4 { s4 with heap := h5, toks := s4.toks } := ge.own O Da nD w4 s5.extBut (fun o'' e => by
          obtain ⟨ol', f1, _, nn', f2⟩ := l4
          rw [f1] at e; cases e
          exact quiet_seq f2)
        refine ⟨xs.length + 1 - (i + 1), by (first | lia | omega), i + 1, V4, o', ys.push y, _, gf, g4.vnone i3 w1', w4, ?_, s5.extBut _ _ ID i4, q2, l5, ?_, n4.sameBut s5 (Ne.symm DC), hlt, rfl⟩
        · exact g4.nsnone n3 w3'
        · rw [tk1, List.filter_append]
          simp only [List.filter_cons, hpd, if_true, List.filter_nil, List.map_append, List.map_cons, List.map_nil, Array.toList_push]
          exact ((rl.mono O g3.vk).mono O g4.vk).append (.cons ry .nil)
    · have hi' : i = xs.length := by (first | lia | omega)
      subst hi'
      refine I.fin A s' o _ _ hA.hd (fun b o e => ga.le b o (ga.vk b o e)) e1 hp fun h' tk q => ?_
      have gb : Gr X V s V' { s' with heap := h', toks := tk } := ga.own O Ia nI w1 q qI
      obtain ⟨ol, c1, c2, nn, c3⟩ := e2
      obtain ⟨V'', gv, sv, ev, nv⟩ := gb.show O (fun b => b == Da) (fun b hb => by rw [beq_iff_eq.mp hb]; exact nD) (fun b o hb e => by
        rw [beq_iff_eq.mp hb] at e
        have e' := q _ _ (Ne.symm ID) c1
        rw [e] at e'; cases e'
        exact quiet_seq c3)
      refine hR Da Ca V'' _ mC gv nC (nv Ca (by simpa using Ne.symm DC) w3) (hn.extBut q (Ne.symm IC)) (.lst ⟨ol, ev _ _ (by simp) (q _ _ (Ne.symm ID) c1), c2, nn, c3⟩ ?_)
      rw [List.take_length] at rl
      exact rl.mono O sv
  exact codeAny_compStart_list loop (I.self A _ 0 oI _ _ eI hP loop)
theorem ev_comp {elt iter : Expr} {x : Str} {px : Pos} {ifs : List Expr} {scope : Scope} {pos : Pos} {di : D} {xs : List D} (p : D → Bool) (g : D → D)
    (h1 : Ev X k sc m iter di) (hi : itemsOf di = some xs) (hlen : xs.length ≤ 100000)
    (hfr : ∀ y ∈ scope.names, y.2 = .free → sc.names.lookup y.1 = some .cell) (hcell : ∀ y ∈ scope.names, y.2 ≠ .cell) (hkind : scope.kind = .function) (hx : scope.names.lookup x = some .local)
    (hnames : ∀ y ∈ scope.names, y.2 = .local → scope.names.lookup y.1 = some .local)
    (ht : ∀ d ∈ xs, TsL X k (relab scope sc) (inM (relab scope sc) x d m) ifs (p d)) (he : ∀ d ∈ xs, p d = true → Ev X k (relab scope sc) (inM (relab scope sc) x d m) elt (g d))
    (hs' : ∀ env v, foldedSetIterable iter env v = pure v := by intro _ _; rfl) :
    Ev X k sc m (.ListComp elt [⟨.Name x px, iter, ifs, 0⟩] scope pos) (.lst ((xs.filter p).map g)) := fun env A V s Q E hs hA S lo h => by
  obtain ⟨cl, c1, c2, c3⟩ := closureFor_ok (env := env) (scope := scope) fun y hy hf => lo.cl y.1 (by unfold Env.kindOf; rw [hs]; exact hfr y hy hf)
  rw [eval_ListComp]
  refine wpAny_comprehension_free (use := none) rfl (hs' env) c1 hkind hnames (h1 env A V s _ E hs hA S lo fun vi s1 V1 g1 r1 => ?_)
  refine comp_core O (m := m) hs hA (S.go g1) (lo.go O g1) r1 hi hlen c2 c3 hcell hkind hx ht he fun D C V' s' mC ga nC vC hn rd => ?_
  refine ⟨mC, hn, fun h' hs2 => h _ _ V' ?_ rd⟩
  have := (ga.own O C nC vC hs2.extBut (tk := s'.toks) fun o e => ns_quiet hn e)
  exact g1.trans this
end
end Mine
end
section
open PySem PySem.W PySem.Calls PyProof.Rows
namespace Mine
theorem Ns_unique {h : Heap} {a : Addr} {m m' : Str → Option Value} (x : h.Ns a m) (y : h.Ns a m') : m = m' := by
  obtain ⟨o, es, ep, e, d, _, f⟩ := x
  obtain ⟨o', es', ep', e', d', _, f'⟩ := y
  rw [e] at e'; cases e'
  rw [d] at d'; cases d'
  funext n
  rw [← f n, ← f' n]
/-- names known, one more -/
noncomputable def up (m : Str → Option D) (x : Str) (d : D) : Str → Option D := fun y => if y = x then some d else m y
/-- one less -/
noncomputable def dn (m : Str → Option D) (x : Str) : Str → Option D := fun y => if y = x then none else m y
noncomputable abbrev Ow := Option (Str × List D)
/-- a frame between two statements -/
structure Fs (X : Fix) (env : Env) (V0 : Heap) (s0 : Shared) (m : Str → Option D) (ow : Ow) (V : Heap) (s : Shared) : Prop where
  t0 : St X V0 s0
  gr : Gr X V0 s0 V s
  lo : Lo X env m V s.heap
  vL : V.get? env.locals = none
  nL : s0.heap.get? env.locals = none
  ce : ∀ x c, env.kindOf x = some .cell → env.cells.lookup x = some c → ((x == ("word" : Str)) = false → V.get? c = none) ∧ s0.heap.get? c = none ∧ ∃ v, s.heap.IsCell c v
  ap : ∀ x y c, env.kindOf x = some .cell → env.cells.lookup x = some c → env.cells.lookup y = some c → y = x
  ow : ∀ y l, ow = some (y, l) → env.kindOf y = some .local ∧ m y = none ∧ ∃ a items ml, s.heap.Ns env.locals ml ∧ ml y = some (.ref a) ∧ s.heap.PlainList a items ∧ RdL X V l items.toList ∧ V.get? a = none ∧ s0.heap.get? a = none
theorem Fs.st {X : Fix} {env : Env} {V0 : Heap} {s0 : Shared} {m : Str → Option D} {ow : Ow} {V : Heap} {s : Shared} (F : Fs X env V0 s0 m ow V s) : St X V s := F.t0.go F.gr
/-- what a statement leaves alone -/
structure Kd (V : Heap) (s : Shared) (V' : Heap) (s' : Shared) : Prop where
  sub : Sub V V'
  fl : ∀ b o vs, s.heap.get? b = some o → o.data = .fields vs → o.cls ≠ .none → s'.heap.get? b = some o ∧ (V.get? b = none → V'.get? b = none)
theorem Kd.refl {V : Heap} {s : Shared} : Kd V s V s := ⟨fun _ _ e => e, fun _ _ _ e _ _ => ⟨e, id⟩⟩
theorem Kd.trans {V V' V'' : Heap} {s s' s'' : Shared} (a : Kd V s V' s') (b : Kd V' s' V'' s'') : Kd V s V'' s'' := ⟨fun x o e => b.sub x o (a.sub x o e), fun x o vs e d c => by
  obtain ⟨e1, n1⟩ := a.fl x o vs e d c
  obtain ⟨e2, n2⟩ := b.fl x o vs e1 d c
  exact ⟨e2, fun h => n2 (n1 h)⟩⟩
theorem Gr.kd {X : Fix} {V V' : Heap} {s s' : Shared} (a : Gr X V s V' s') : Kd V s V' s' := ⟨a.vk, fun b o vs e d c => ⟨a.kp b o e (not_tab_cls c), fun h => a.vnone e h⟩⟩
inductive Fl where
  | next
  | brk
  | ret (d : D)
noncomputable def Fl.is (X : Fix) (V : Heap) : Fl → Flow → Prop
  | .next, f => f = .next
  | .brk, f => f = .brk
  | .ret d, f => ∃ v, f = .ret v ∧ Rd X V d v
noncomputable def Ex (X : Fix) (k : Nat) (sc : Scope) (m : Str → Option D) (ow : Ow) (t : Env → Sem Flow) (fl : Fl) (m' : Str → Option D) (ow' : Ow) : Prop :=
  ∀ (env : Env) (A : Around) (V0 : Heap) (s0 : Shared) (V : Heap) (s : Shared) (Q : Flow → Shared → Prop) (E : Value → Shared → Prop), env.scope = sc → Ar k A → Fs X env V0 s0 m ow V s →
    (∀ f V' s', Fs X env V0 s0 m' ow' V' s' → Kd V s V' s' → fl.is X V' f → Q f s') → wpAny (model X.prog X.w) A (t env) Q E s
section
variable {X : Fix} (O : X.Ok) {k : Nat} {sc : Scope} {m m' m'' : Str → Option D} {ow ow' ow'' : Ow}
theorem ex_nil : Ex X k sc m ow (execs []) .next m ow := fun env A V0 s0 V s Q E hs hA F h => wpAny_execs_nil (h _ V s F .refl rfl)
theorem ex_cons {st : Stmt} {rest : List Stmt} {fl : Fl} (h1 : Ex X k sc m ow (exec st) .next m' ow') (h2 : Ex X k sc m' ow' (execs rest) fl m'' ow'') : Ex X k sc m ow (execs (st :: rest)) fl m'' ow'' :=
  fun env A V0 s0 V s Q E hs hA F h => wpAny_execs_cons (h1 env A V0 s0 V s _ E hs hA F fun f V1 s1 F1 k1 hf => by
    have : f = .next := hf
    subst this
    exact h2 env A V0 s0 V1 s1 Q E hs hA F1 fun f' V2 s2 F2 k2 hf' => h f' V2 s2 F2 (k1.trans k2) hf')
theorem ex_stop {st : Stmt} {rest : List Stmt} {fl : Fl} (h1 : Ex X k sc m ow (exec st) fl m' ow') (hn : fl ≠ .next) : Ex X k sc m ow (execs (st :: rest)) fl m' ow' :=
  fun env A V0 s0 V s Q E hs hA F h => wpAny_execs_cons (h1 env A V0 s0 V s _ E hs hA F fun f V1 s1 F1 k1 hf => by
    cases fl with
    | next => exact absurd rfl hn
    | brk => have : f = .brk := hf; subst this; exact h _ V1 s1 F1 k1 rfl
    | ret d => obtain ⟨v, rfl, r⟩ := hf; exact h _ V1 s1 F1 k1 ⟨v, rfl, r⟩)
theorem Lo.less {X : Fix} {env : Env} {m m' : Str → Option D} {V h : Heap} (l : Lo X env m V h) (w : ∀ x d, m' x = some d → m x = some d) : Lo X env m' V h :=
  ⟨l.fn, l.gl, l.bl, (let ⟨ml, a, b⟩ := l.ns; ⟨ml, a, fun x d e => b x d (w x d e)⟩), l.cl, fun x d e => l.ce x d (w x d e)⟩
theorem ex_less {t : Env → Sem Flow} {fl : Fl} (h1 : Ex X k sc m ow t fl m' ow') (w : ∀ x d, m'' x = some d → m' x = some d) : Ex X k sc m ow t fl m'' ow' :=
  fun env A V0 s0 V s Q E hs hA F h => h1 env A V0 s0 V s Q E hs hA F fun f V1 s1 F1 k1 hf => h f V1 s1 ⟨F1.t0, F1.gr, F1.lo.less w, F1.vL, F1.nL, F1.ce, F1.ap, fun y l e => by
    obtain ⟨a, b, c⟩ := F1.ow y l e
    refine ⟨a, ?_, c⟩
    cases q : m'' y with
    | none => rfl
    | some d => rw [w y d q] at b; cases b⟩ k1 hf
theorem ex_drop {t : Env → Sem Flow} {fl : Fl} (h1 : Ex X k sc m ow t fl m' ow') : Ex X k sc m ow t fl m' none :=
  fun env A V0 s0 V s Q E hs hA F h => h1 env A V0 s0 V s Q E hs hA F fun f V1 s1 F1 k1 hf => h f V1 s1 ⟨F1.t0, F1.gr, F1.lo, F1.vL, F1.nL, F1.ce, F1.ap, fun y l e => by cases e⟩ k1 hf
include O
theorem Fs.go {env : Env} {V0 V V' : Heap} {s0 s s' : Shared} (F : Fs X env V0 s0 m ow V s) (a : Gr X V s V' s') : Fs X env V0 s0 m ow V' s' where
  t0 := F.t0
  gr := F.gr.trans a
  lo := F.lo.go O a
  vL := by
    obtain ⟨ml, ⟨o, es, n, e, _⟩, _⟩ := F.lo.ns
    exact a.vnone e F.vL
  nL := F.nL
  ce := fun x c h1 h2 => by
    obtain ⟨q1, q2, v, o, q3, q4⟩ := F.ce x c h1 h2
    exact ⟨fun hx => a.vnone q3 (q1 hx), q2, v, o, a.kp _ _ q3 (not_tab_cell q4), q4⟩
  ap := F.ap
  ow := fun y l e => by
    obtain ⟨q0, q1, al, items, ml, ⟨o, es, n, e1, e2, e3⟩, q2, ⟨nn, f1⟩, q4, q5, q6⟩ := F.ow y l e
    exact ⟨q0, q1, al, items, ml, ⟨o, es, n, a.kp _ _ e1 (not_tab_dict e2), e2, e3⟩, q2, ⟨nn, a.kp _ _ f1 (not_tab_seq rfl)⟩, q4.mono O a.vk, a.vnone f1 q5, q6⟩
/-- a value is stored under a name -/
theorem store_ok {env : Env} {A : Around} {V0 V : Heap} {s0 s : Shared} {x : Str} {d : D} {v : Value} {Q : Unit → Shared → Prop} {E : Value → Shared → Prop} (F : Fs X env V0 s0 m ow V s) (r : Rd X V d v)
    (hk : env.kindOf x = some .local ∨ env.kindOf x = some .cell) (hw : ∀ y l, ow = some (y, l) → x ≠ y)
    (h : ∀ h' tk, Fs X env V0 s0 (up m x d) ow V { s with heap := h', toks := tk } → Kd V s V { s with heap := h', toks := tk } → Q () { s with heap := h', toks := tk }) (hse : (x == ("word" : Str)) = false := by rfl) : wpAny (model X.prog X.w) A (storeName env x v) Q E s := by
  obtain ⟨ml, hn, lm⟩ := F.lo.ns
  have hn0 := hn
  obtain ⟨oL, es, ep, eL, dL, rL⟩ := hn0
  rcases hk with hk | hk
  · refine wpAny_storeName_local hk hn (fun h' hn' hs' => ?_) (by rw [F.lo.fn]; rfl)
    have g : Gr X V0 s0 V { s with heap := h', toks := s.toks + 1 } := F.gr.own O env.locals F.nL F.vL hs'.extBut (fun o e => by rw [eL] at e; cases e; exact quiet_dict dL)
    have ncell : ∀ c w, s.heap.IsCell c w → c ≠ env.locals := fun c w ⟨o, e1, e2⟩ z => by rw [z, eL] at e1; cases e1; rw [dL] at e2; cases e2
    have nlist : ∀ c w, s.heap.PlainList c w → c ≠ env.locals := fun c w ⟨n, e1⟩ z => by rw [z, eL] at e1; cases e1; cases dL
    refine h h' _ ⟨F.t0, g, ⟨F.lo.fn, F.lo.gl, F.lo.bl, ⟨_, hn', fun y e hy hky => ?_⟩, F.lo.cl, fun y e hy hky => ?_⟩, F.vL, F.nL, fun y c h1 h2 => ?_, F.ap, fun y l e => ?_⟩ ⟨fun _ _ e => e, fun b o vs e dd c => ?_⟩
    · unfold up at hy
      by_cases hyx : y = x
      · cases hyx.symm; simp only [if_true] at hy ⊢; cases hy; exact ⟨v, rfl, r⟩
      · simp only [hyx, if_false] at hy ⊢; exact lm y e hy hky
    · unfold up at hy
      by_cases hyx : y = x
      · cases hyx.symm; exact absurd hk hky
      · simp only [hyx, if_false] at hy
        obtain ⟨q0, c, w, q1, q2, q3⟩ := F.lo.ce y e hy hky
        have nc := ncell c _ q2
        obtain ⟨o, q4, q5⟩ := q2
        exact ⟨q0, c, w, q1, ⟨o, hs'.extBut _ _ nc q4, q5⟩, q3⟩
    · obtain ⟨q1, q2, w, q3⟩ := F.ce y c h1 h2
      have nc := ncell c _ q3
      obtain ⟨o, q4, q5⟩ := q3
      exact ⟨q1, q2, w, o, hs'.extBut _ _ nc q4, q5⟩
    · obtain ⟨q0, q1, al, items, ml', q2, q3, q4, q5, q6, q7⟩ := F.ow y l e
      have nl := nlist al _ q4
      have := Ns_unique q2 hn
      subst this
      have hxy := hw y l e
      obtain ⟨nn, f1⟩ := q4
      refine ⟨q0, ?_, al, items, _, hn', ?_, ⟨nn, hs'.extBut _ _ nl f1⟩, q5, q6, q7⟩
      · unfold up; rw [if_neg (Ne.symm hxy)]; exact q1
      · rw [if_neg (Ne.symm hxy)]; exact q3
    · exact ⟨hs'.extBut _ _ (fun z => by rw [z, eL] at e; cases e; rw [dL] at dd; cases dd) e, id⟩
  · obtain ⟨c, hc⟩ := F.lo.cl x hk
    obtain ⟨vc, nc, w0, hw0⟩ := F.ce x c hk hc
    replace vc := vc hse
    have hw0' := hw0
    obtain ⟨oc, ec, dc⟩ := hw0'
    refine wpAny_storeName_cell F.lo.fn hk hc hw0 fun h' hv' hs' => ?_
    have g : Gr X V0 s0 V { s with heap := h', toks := s.toks } := F.gr.own O c nc vc hs'.extBut (fun o e => by rw [ec] at e; cases e; exact quiet_cell dc)
    have nL : env.locals ≠ c := fun z => by rw [z] at eL; rw [ec] at eL; cases eL; rw [dc] at dL; cases dL
    have nlist : ∀ a w, s.heap.PlainList a w → a ≠ c := fun a w ⟨n, e1⟩ z => by rw [z, ec] at e1; cases e1; cases dc
    have hn' : h'.Ns env.locals ml := hn.sameBut hs' nL
    refine h h' _ ⟨F.t0, g, ⟨F.lo.fn, F.lo.gl, F.lo.bl, ⟨_, hn', fun y e hy hky => ?_⟩, F.lo.cl, fun y e hy hky => ?_⟩, F.vL, F.nL, fun y c' h1 h2 => ?_, F.ap, fun y l e => ?_⟩ ⟨fun _ _ e => e, fun b o vs e dd cc => ?_⟩
    · unfold up at hy
      by_cases hyx : y = x
      · cases hyx.symm; rw [hk] at hky; cases hky
      · simp only [hyx, if_false] at hy; exact lm y e hy hky
    · unfold up at hy
      by_cases hyx : y = x
      · cases hyx.symm
        simp only [if_true] at hy
        cases hy
        exact ⟨.inl hk, c, v, hc, hv', r⟩
      · simp only [hyx, if_false] at hy
        obtain ⟨q0, c', w, q1, ⟨o, q4, q5⟩, q3⟩ := F.lo.ce y e hy hky
        refine ⟨q0, c', w, q1, ⟨o, hs'.extBut _ _ (fun z => ?_) q4, q5⟩, q3⟩
        subst z
        exact hyx (F.ap x y c' hk hc q1)
    · obtain ⟨q1, q2, w, o, q4, q5⟩ := F.ce y c' h1 h2
      by_cases hcc : c' = c
      · subst hcc; exact ⟨q1, q2, _, hv'⟩
      · exact ⟨q1, q2, w, o, hs'.extBut _ _ hcc q4, q5⟩
    · obtain ⟨q0, q1, al, items, ml', q2, q3, q4, q5, q6, q7⟩ := F.ow y l e
      have nl := nlist al _ q4
      have := Ns_unique q2 hn
      subst this
      have hxy := hw y l e
      obtain ⟨nn, f1⟩ := q4
      refine ⟨q0, ?_, al, items, _, hn', q3, ⟨nn, hs'.extBut _ _ nl f1⟩, q5, q6, q7⟩
      unfold up; rw [if_neg (Ne.symm hxy)]; exact q1
    · exact ⟨hs'.extBut _ _ (fun z => by rw [z, ec] at e; cases e; rw [dc] at dd; cases dd) e, id⟩
theorem ex_assign {x : Str} {e : Expr} {px pos : Pos} {d : D} (h1 : Ev X k sc m e d) (hk : sc.names.lookup x = some .local ∨ sc.names.lookup x = some .cell) (hw : ∀ y l, ow = some (y, l) → x ≠ y)
    (hsw : ∀ env : Env, env.scope = sc → swapsWith e (some (.Name x px)) pos.line env = pure false) (hse : (x == ("word" : Str)) = false := by rfl) : Ex X k sc m ow (exec (.Assign [.Name x px] e pos)) .next (up m x d) ow := fun env A V0 s0 V s Q E hs hA F h => by
  refine wpAny_Assign_Name (h1 env A V s _ E hs hA F.st F.lo fun v s1 V1 g1 r1 => ?_) (hsw env hs)
  refine store_ok O (F.go O g1) r1 (by unfold Env.kindOf; rw [hs]; exact hk) hw (fun h' tk F' k' => h .next V1 _ F' (g1.kd.trans k') rfl) hse
theorem ex_return {e : Expr} {pos : Pos} {d : D} (h1 : Ev X k sc m e d) : Ex X k sc m ow (exec (.Return (some e) pos)) (.ret d) m ow := fun env A V0 s0 V s Q E hs hA F h =>
  wpAny_Return_some (h1 env A V s _ E hs hA F.st F.lo fun v s1 V1 g1 r1 => h _ V1 s1 (F.go O g1) g1.kd ⟨v, rfl, r1⟩)
theorem ex_if {t : Expr} {b o : List Stmt} {pos : Pos} {c : Bool} {fl : Fl} (h1 : Ts X k sc m t c) (h2 : c = true → Ex X k sc m ow (execs b) fl m' ow') (h3 : c = false → Ex X k sc m ow (execs o) fl m' ow') : Ex X k sc m ow (exec (.If t b o pos)) fl m' ow' := fun env A V0 s0 V s Q E hs hA F h => by
  refine wpAny_If (h1 env A V s _ E hs hA F.st F.lo fun s1 V1 g1 => ?_)
  cases c with
  | true => exact h2 rfl env A V0 s0 V1 s1 Q E hs hA (F.go O g1) fun f V2 s2 F2 k2 hf => h f V2 s2 F2 (g1.kd.trans k2) hf
  | false => exact h3 rfl env A V0 s0 V1 s1 Q E hs hA (F.go O g1) fun f V2 s2 F2 k2 hf => h f V2 s2 F2 (g1.kd.trans k2) hf
theorem ex_aug_sub {x : Str} {e : Expr} {px pos : Pos} {a b : Int} (hm : m x = some (.int a)) (h1 : Ev X k sc m e (.int b)) (hk : sc.names.lookup x = some .local ∨ sc.names.lookup x = some .cell) (hw : ∀ y l, ow = some (y, l) → x ≠ y) (hd : (x == ("__debug__" : Str)) = false) (hse : (x == ("word" : Str)) = false := by rfl) :
    Ex X k sc m ow (exec (.AugAssign (.Name x px) .Sub e pos)) .next (up m x (.int (a - b))) ow := fun env A V0 s0 V s Q E hs hA F h => by
  have hkk : env.kindOf x = some .local ∨ env.kindOf x = some .cell := by unfold Env.kindOf; rw [hs]; exact hk
  have ld : ∀ (Q' : Value → Shared → Prop), (∀ t, Q' (.int a t) s) → wpAny (model X.prog X.w) A (loadName env x) Q' E s := fun Q' hQ => by
    rcases hkk with hkl | hkl
    · obtain ⟨ml, hn, q⟩ := F.lo.ns
      obtain ⟨v, e1, e2⟩ := q x _ hm hkl
      cases e2
      exact wpAny_loadName_local F.lo.fn hkl hn e1 (hQ _)
    · obtain ⟨_, c, v, e1, e2, e3⟩ := F.lo.ce x _ hm (by rw [hkl]; simp)
      cases e3
      exact wpAny_loadName_cell F.lo.fn hkl e1 e2 (hQ _)
  refine wpAny_AugAssign_Name (ld _ fun t => h1 env A V s _ E hs hA F.st F.lo fun v s1 V1 g1 r1 => ?_)
  cases r1
  refine AutoIntOps.isub_0 ?_
  have g2 := g1.tok (s1.toks + 1)
  exact store_ok O (F.go O g2) (.int _ _) hkk hw (fun h' tk F' k' => h .next V1 _ F' (g2.kd.trans k') rfl) hse
theorem ex_break {pos : Pos} : Ex X k sc m ow (exec (.Break pos)) .brk m ow := fun env A V0 s0 V s Q E hs hA F h => by
  show wpAny _ _ (standAt pos >>= fun _ => pure Flow.brk) _ _ _
  exact wpAny_bind (wpAny_standAt (wpAny_pure (h _ V s F .refl rfl)))
end
end Mine
end
section
open PySem PySem.W PySem.Calls PyProof.Rows
namespace Mine
/-- a method found on d0 and called with ds comes to d -/
noncomputable def Mt (X : Fix) (k : Nat) (name : Str) (d0 : D) (ds : List D) (d : D) : Prop :=
  ∀ (A : Around) (V : Heap) (s : Shared) (v0 : Value) (pl : Sem Bool) (Q : Value × List Value → Shared → Prop) (E : Value → Shared → Prop), Ar k A → St X V s → Rd X V d0 v0 →
    (∀ f first s1 V1, Gr X V s V1 s1 → ((∃ id, f = .builtin id) ∨ (∃ T, f = .type T) ∨ ∃ a o fd, f = .ref a ∧ V1.get? a = some o ∧ o.data = .func fd) →
      (∀ (A2 : Around) (V2 : Heap) (s2 : Shared) (vs : List Value) (Q2 : Value → Shared → Prop) (E2 : Value → Shared → Prop), Ar k A2 → St X V2 s2 → Sub V1 V2 → RdL X V2 ds vs →
        (∀ v s' V', Gr X V2 s2 V' s' → Rd X V' d v → Q2 v s') → wpAny (model X.prog X.w) A2 (call f (first ++ vs)) Q2 E2 s2) → Q (f, first) s1) →
    wpAny (model X.prog X.w) A (getMethod v0 name pl) Q E s
section
variable {X : Fix} (O : X.Ok) {k : Nat} {sc : Scope} {m m' m'' : Str → Option D} {ow ow' ow'' : Ow}
include O
theorem ev_meth {o : Expr} {name : Str} {apos pos : Pos} {es : List Expr} {d0 d : D} {ds : List D} (h1 : Ev X k sc m o d0) (L : EvL X k sc m es ds) (hm : Mt X k name d0 ds d)
    (hbase : ∀ env : Env, env.scope = sc → attributeBase o name env (eval o env) = eval o env) (hline : (apos.endLine == pos.line) = true) (hlen : es.length < 20) : Ev X k sc m (.Call (.Attribute o name apos) es [] pos) d := fun env A V s Q E hs hA S lo h => by
  rw [arm_eval_Call, hbase env hs]
  refine wpAny_bind (h1 env A V s _ E hs hA S lo fun v0 s1 V1 g1 r1 => wpAny_bind (wpAny_standAt ?_))
  have hform : methodCallForm (es.length + ([] : List Keyword).length) (backTo pos (starEach es env)) (backToKw pos (keywordEach [] env)) = true := by
    unfold methodCallForm
    have h1 : (backTo pos (starEach es env)).all (!·.1) = true := by
      have := L.ns env
      unfold backTo
      rw [List.all_map, List.all_eq_true]
      rw [List.any_eq_false] at this
      intro x hx
      have := this x hx
      simpa using this
    rw [h1]
    show (true && true && decide (es.length + 0 + 0 < 30)) = true
    simp; (first | lia | omega)
  have hpos : methodCallPos true o env apos pos = pure pos := by unfold methodCallPos; simp [hline]
  unfold methodCall
  rw [hform]
  refine wpAny_bind (wpAny_holding (hm A V1 s1 v0 _ _ E hA (S.go g1) r1 fun f first s2 V2 g2 hf hc => ?_))
  refine wpAny_bind (wpAny_of_eq hpos ?_)
  exact call_args O hf L hs hA ((S.go g1).go g2) ((lo.go O g1).go O g2) fun vs s3 V3 g3 r3 => hc A V3 s3 vs Q E hA (((S.go g1).go g2).go g3) g3.vk r3 fun v s' V' g r => h v s' V' (((g1.trans g2).trans g3).trans g) r
/-- x = [..]: a list of the frame's own -/
theorem ex_own {x : Str} {es : List Expr} {px pos pl : Pos} {ds : List D} (L : EvL X k sc m es ds) (hl : ds.length ≤ 1000) (hk : sc.names.lookup x = some .local) : Ex X k sc m none (exec (.Assign [.Name x px] (.List es pl) pos)) .next (dn m x) (some (x, ds)) :=
  fun env A V0 s0 V s Q E hs hA F h => by
  refine wpAny_Assign_Name (PyProof.Rows.List_ (L.ev env A V s _ _ E hs hA F.st F.lo fun vs s1 V1 g1 r1 => ?_)) rfl
  have hz := r1.length
  refine wpAny_newObj_type ?_ (by show vs.toArray.size ≤ sizeLine; rw [List.size_toArray, ← hz, sizeLine_eq]; (first | lia | omega))
  have F1 := F.go O g1
  have g2 := (Gr.refl F1.st.le).hid O { cls := .type "list", data := .seq vs.toArray }
  have F2 := F1.go O g2
  have hkl : env.kindOf x = some .local := by unfold Env.kindOf; rw [hs]; exact hk
  obtain ⟨ml, hn, lm⟩ := F2.lo.ns
  have hn0 := hn
  obtain ⟨oL, esL, ep, eL, dL, rL⟩ := hn0
  have ea : (s1.heap.push { cls := .type "list", data := .seq vs.toArray }).get? s1.heap.objs.size = some { cls := .type "list", data := .seq vs.toArray } := Heap.get?_push_size _ rfl
  have naL : s1.heap.objs.size ≠ env.locals := fun z => by rw [← z] at eL; dsimp only at eL; rw [ea] at eL; cases eL; cases dL
  refine wpAny_storeName_local hkl hn (fun h' hn' hs' => ?_) (by rw [F.lo.fn]; rfl)
  have g : Gr X V0 s0 V1 { s1 with heap := h', toks := s1.toks + 1 } := F2.gr.own O env.locals F.nL F2.vL hs'.extBut (fun o e => by rw [eL] at e; cases e; exact quiet_dict dL)
  have ncell : ∀ c w, (s1.heap.push { cls := .type "list", data := .seq vs.toArray }).IsCell c w → c ≠ env.locals := fun c w ⟨o, e1, e2⟩ z => by
    rw [z] at e1
    have := e1.symm.trans eL
    cases this
    rw [dL] at e2; cases e2
  refine h .next V1 _ ⟨F.t0, g, ⟨F.lo.fn, F.lo.gl, F.lo.bl, ⟨_, hn', fun y e hy hky => ?_⟩, F.lo.cl, fun y e hy hky => ?_⟩, F2.vL, F.nL, fun y c h1 h2 => ?_, F.ap, fun y l e => ?_⟩ ⟨g1.vk, fun b o vs' e dd c => ?_⟩ rfl
  · unfold dn at hy
    by_cases hyx : y = x
    · rw [if_pos hyx] at hy; cases hy
    · rw [if_neg hyx] at hy ⊢; exact lm y e hy hky
  · unfold dn at hy
    by_cases hyx : y = x
    · rw [if_pos hyx] at hy; cases hy
    · rw [if_neg hyx] at hy
      obtain ⟨q0, c, w, q1, q2, q3⟩ := F2.lo.ce y e hy hky
      have nc := ncell c _ q2
      obtain ⟨o, q4, q5⟩ := q2
      exact ⟨q0, c, w, q1, ⟨o, hs'.extBut _ _ nc q4, q5⟩, q3⟩
  · obtain ⟨q1, q2, w, q3⟩ := F2.ce y c h1 h2
    have nc := ncell c _ q3
    obtain ⟨o, q4, q5⟩ := q3
    exact ⟨q1, q2, w, o, hs'.extBut _ _ nc q4, q5⟩
  · cases e
    refine ⟨hkl, by unfold dn; rw [if_pos rfl], s1.heap.objs.size, vs.toArray, _, hn', by rw [if_pos rfl], ⟨_, hs'.extBut _ _ naL ea⟩, by simpa using r1, ?_, F1.gr.none (get_size _)⟩
    cases q : V1.get? s1.heap.objs.size with
    | none => rfl
    | some o => have := g1.le _ _ q; rw [get_size] at this; cases this
  · obtain ⟨e1, n1⟩ := (g1.trans g2).kd.fl b o vs' e dd c
    exact ⟨hs'.extBut _ _ (fun z => by rw [z] at e1; have := e1.symm.trans eL; cases this; rw [dL] at dd; cases dd) e1, n1⟩
/-- x.append(e) -/
theorem ex_append {x : Str} {e : Expr} {px apos cpos pos : Pos} {l : List D} {d : D} (h1 : Ev X k sc m e d) (hst : ∀ env, starEach [e] env = [(false, eval e env)]) (hl : l.length ≤ 100000) (hline : (apos.endLine == cpos.line) = true) (hd : (x == ("__debug__" : Str)) = false) :
    Ex X k sc m (some (x, l)) (exec (.Expr (.Call (.Attribute (.Name x px) "append" apos) [e] [] cpos) pos)) .next m (some (x, l ++ [d])) := fun env A V0 s0 V s Q E hs hA F h => by
  obtain ⟨kx, mx, a, items, ml, hn, q1, q2, q3, q4, q5⟩ := F.ow x l rfl
  refine wpAny_Expr (wpAny_Call_method (T := "list") (id := "list.append") rfl (by rw [hst]; rfl) hline PySem.F.plainAttrs_list PySem.F.slot_list_append PySem.F.type_list_append ?_) (by unfold interactive; rw [F.lo.fn]; rfl) rfl
  refine wpAny_Name (wpAny_loadName_local F.lo.fn kx hn q1 ?_) hd
  refine ⟨⟨_, q2.choose_spec, rfl⟩, fun a' e' => by cases e'; exact ⟨_, q2.choose_spec, rfl⟩, ?_⟩
  have L : EvL X k sc m [e] [d] := evl_cons O h1 (evl_nil O) hst
  refine call_args O (first := [.ref a]) (.inl ⟨_, rfl⟩) L hs hA F.st F.lo fun vs s1 V1 g1 r1 => ?_
  have F1 := F.go O g1
  obtain ⟨_, _, a', items', ml', hn', p1, p2, p3, p4, p5⟩ := F1.ow x l rfl
  have hml : ml' = ml := by
    have : s1.heap.Ns env.locals ml := by
      obtain ⟨o, es, n, e1, e2, e3⟩ := hn
      exact ⟨o, es, n, g1.kp _ _ e1 (not_tab_dict e2), e2, e3⟩
    exact Ns_unique hn' this
  subst hml
  rw [q1] at p1; cases p1
  cases r1 with
  | cons rv rn =>
    cases rn
    have hz : items'.size ≤ 100000 := by have := p3.length; simp at this; (first | lia | omega)
    refine wpAny_list_append_plain p2 (fun h' l' s' => ?_) (by rw [sizeLine_eq]; (first | lia | omega))
    have g : Gr X V0 s0 V1 { s1 with heap := h', toks := s1.toks } := F1.gr.own O a p5 p4 s'.extBut (fun o e => by
      obtain ⟨n, e1⟩ := p2
      rw [e1] at e; cases e; exact quiet_seq rfl)
    obtain ⟨nn, e1⟩ := p2
    have nL : env.locals ≠ a := fun z => by
      obtain ⟨o, es, n, c1, c2, c3⟩ := hn'
      rw [z] at c1; rw [e1] at c1; cases c1; cases c2
    have ncell : ∀ c w, s1.heap.IsCell c w → c ≠ a := fun c w ⟨o, c1, c2⟩ z => by rw [z, e1] at c1; cases c1; cases c2
    have hn2 := hn'.sameBut s' nL
    obtain ⟨ml2, nn2, lm2⟩ := F1.lo.ns
    have := Ns_unique nn2 hn'
    subst this
    refine h .next V1 _ ⟨F.t0, g, ⟨F.lo.fn, F.lo.gl, F.lo.bl, ⟨_, hn2, lm2⟩, F.lo.cl, fun y e hy hky => ?_⟩, F1.vL, F.nL, fun y c h1 h2 => ?_, F.ap, fun y l2 e2 => ?_⟩ ⟨g1.vk, fun b o vs' e dd c => ?_⟩ rfl
    · obtain ⟨q0, c, w, c1, c2, c3⟩ := F1.lo.ce y e hy hky
      have nc := ncell c _ c2
      obtain ⟨o, c4, c5⟩ := c2
      exact ⟨q0, c, w, c1, ⟨o, s'.extBut _ _ nc c4, c5⟩, c3⟩
    · obtain ⟨c1, c2, w, c3⟩ := F1.ce y c h1 h2
      have nc := ncell c _ c3
      obtain ⟨o, c4, c5⟩ := c3
      exact ⟨c1, c2, w, o, s'.extBut _ _ nc c4, c5⟩
    · cases e2
      exact ⟨kx, mx, a, _, _, hn2, q1, l', by simpa using p3.append (.cons rv .nil), p4, p5⟩
    · obtain ⟨e3, n3⟩ := g1.kd.fl b o vs' e dd c
      exact ⟨s'.extBut _ _ (fun z => by rw [z, e1] at e3; cases e3; cases dd) e3, n3⟩
/-- the list is left as it is from here on -/
theorem ex_freeze {x : Str} {l : List D} {t : Env → Sem Flow} {fl : Fl} (h1 : Ex X k sc (up m x (.lst l)) none t fl m' ow') : Ex X k sc m (some (x, l)) t fl m' ow' := fun env A V0 s0 V s Q E hs hA F h => by
  obtain ⟨kx, mx, a, items, ml, hn, q1, ⟨nn, q2⟩, q3, q4, q5⟩ := F.ow x l rfl
  obtain ⟨V', g, sv, ev, nv⟩ := F.gr.show O (fun b => b == a) (fun b hb => by rw [beq_iff_eq.mp hb]; exact q5) (fun b o hb e => by rw [beq_iff_eq.mp hb, q2] at e; cases e; exact quiet_seq rfl)
  have rx : Rd X V' (.lst l) (.ref a) := .lst ⟨_, ev a _ (by simp) q2, rfl, nn, rfl⟩ (q3.mono O sv)
  have nL : env.locals ≠ a := fun z => by
    obtain ⟨o, es, n, c1, c2, c3⟩ := hn
    rw [z] at c1; rw [q2] at c1; cases c1; cases c2
  have ncell : ∀ c w, s.heap.IsCell c w → c ≠ a := fun c w ⟨o, c1, c2⟩ z => by rw [z, q2] at c1; cases c1; cases c2
  obtain ⟨ml2, nn2, lm2⟩ := F.lo.ns
  have := Ns_unique nn2 hn
  subst this
  refine h1 env A V0 s0 V' s Q E hs hA ⟨F.t0, g, ⟨F.lo.fn, F.lo.gl, F.lo.bl, ⟨_, hn, fun y e hy hky => ?_⟩, F.lo.cl, fun y e hy hky => ?_⟩, nv _ (by simpa using nL) F.vL, F.nL, fun y c h1 h2 => ?_, F.ap, fun y l e => by cases e⟩ fun f V2 s2 F2 k2 hf => h f V2 s2 F2 ?_ hf
  · unfold up at hy
    by_cases hyx : y = x
    · cases hyx.symm; rw [if_pos rfl] at hy; cases hy; exact ⟨_, q1, rx⟩
    · rw [if_neg hyx] at hy
      obtain ⟨v, c1, c2⟩ := lm2 y e hy hky
      exact ⟨v, c1, c2.mono O sv⟩
  · unfold up at hy
    by_cases hyx : y = x
    · cases hyx.symm; exact absurd kx hky
    · rw [if_neg hyx] at hy
      obtain ⟨q0, c, w, c1, c2, c3⟩ := F.lo.ce y e hy hky
      exact ⟨q0, c, w, c1, c2, c3.mono O sv⟩
  · obtain ⟨c1, c2, w, c3⟩ := F.ce y c h1 h2
    exact ⟨fun hx => nv _ (by simpa using ncell c _ c3) (c1 hx), c2, w, c3⟩
  · refine Kd.trans ⟨sv, fun b o vs e dd c => ⟨e, fun hb => nv b ?_ hb⟩⟩ k2
    simp only [beq_eq_false_iff_ne]
    exact fun z => by rw [z, q2] at e; cases e; cases dd
end
end Mine
end
section
open PySem PySem.W PySem.Calls PyProof.Rows
namespace Mine
section
variable {X : Fix} (O : X.Ok) {k : Nat} {sc : Scope} {m m' m'' : Str → Option D} {ow ow' ow'' : Ow}
include O
/-- a step at an address that is none of the frame's -/
theorem Fs.own {env : Env} {V0 V : Heap} {s0 s : Shared} (F : Fs X env V0 s0 m ow V s) (C : Addr) (h0 : s0.heap.get? C = none) (hv : V.get? C = none) {h' : Heap} {tk : Nat} (e : Heap.ExtBut C s.heap h') (q : ∀ o, s.heap.get? C = some o → quiet o)
    (hne : C ≠ env.locals) (hnc : ∀ w, ¬ s.heap.IsCell C w) (hnl : ∀ w, ¬ s.heap.PlainList C w) : Fs X env V0 s0 m ow V { s with heap := h', toks := tk } where
  t0 := F.t0
  gr := F.gr.own O C h0 hv e q
  lo := by
    refine ⟨F.lo.fn, F.lo.gl, F.lo.bl, ?_, F.lo.cl, fun x d h1 h2 => ?_⟩
    · obtain ⟨ml, hn, lm⟩ := F.lo.ns
      exact ⟨ml, hn.extBut e (Ne.symm hne), lm⟩
    · obtain ⟨q0, c, w, c1, c2, c3⟩ := F.lo.ce x d h1 h2
      have nc : c ≠ C := fun z => hnc _ (z ▸ c2)
      obtain ⟨o, c4, c5⟩ := c2
      exact ⟨q0, c, w, c1, ⟨o, e _ _ nc c4, c5⟩, c3⟩
  vL := F.vL
  nL := F.nL
  ce := fun y c h1 h2 => by
    obtain ⟨c1, c2, w, c3⟩ := F.ce y c h1 h2
    have nc : c ≠ C := fun z => hnc _ (z ▸ c3)
    obtain ⟨o, c4, c5⟩ := c3
    exact ⟨c1, c2, w, o, e _ _ nc c4, c5⟩
  ap := F.ap
  ow := fun y l ee => by
    obtain ⟨q0, q1, al, items, ml, hn, q2, q3, q4, q5, q6⟩ := F.ow y l ee
    have nc : al ≠ C := fun z => hnl _ (z ▸ q3)
    obtain ⟨nn, f1⟩ := q3
    exact ⟨q0, q1, al, items, ml, hn.extBut e (Ne.symm hne), q2, ⟨nn, e _ _ nc f1⟩, q4, q5, q6⟩
theorem put_local {env : Env} {V0 V : Heap} {s0 s : Shared} {x : Str} {d : D} {v : Value} {ml : Str → Option Value} {h' : Heap} {tk : Nat} (F : Fs X env V0 s0 m ow V s) (r : Rd X V d v) (hk : env.kindOf x = some .local) (hw : ∀ y l, ow = some (y, l) → x ≠ y)
    (hn : s.heap.Ns env.locals ml) (hn' : h'.Ns env.locals (fun y => if y = x then some v else ml y)) (hs' : Heap.SameBut env.locals s.heap h') :
    Fs X env V0 s0 (up m x d) ow V { s with heap := h', toks := tk } ∧ Kd V s V { s with heap := h', toks := tk } := by
  have hn0 := hn
  obtain ⟨oL, es, ep, eL, dL, rL⟩ := hn0
  obtain ⟨ml2, hn2, lm⟩ := F.lo.ns
  have := Ns_unique hn2 hn
  subst this
  have g : Gr X V0 s0 V { s with heap := h', toks := tk } := F.gr.own O env.locals F.nL F.vL hs'.extBut (fun o e => by rw [eL] at e; cases e; exact quiet_dict dL)
  have ncell : ∀ c w, s.heap.IsCell c w → c ≠ env.locals := fun c w ⟨o, e1, e2⟩ z => by rw [z, eL] at e1; cases e1; rw [dL] at e2; cases e2
  have nlist : ∀ c w, s.heap.PlainList c w → c ≠ env.locals := fun c w ⟨n, e1⟩ z => by rw [z, eL] at e1; cases e1; cases dL
  refine ⟨⟨F.t0, g, ⟨F.lo.fn, F.lo.gl, F.lo.bl, ⟨_, hn', fun y e hy hky => ?_⟩, F.lo.cl, fun y e hy hky => ?_⟩, F.vL, F.nL, fun y c h1 h2 => ?_, F.ap, fun y l e => ?_⟩, ⟨fun _ _ e => e, fun b o vs e dd c => ?_⟩⟩
  · unfold up at hy
    by_cases hyx : y = x
    · cases hyx.symm; simp only [if_true] at hy ⊢; cases hy; exact ⟨v, rfl, r⟩
    · simp only [hyx, if_false] at hy ⊢; exact lm y e hy hky
  · unfold up at hy
    by_cases hyx : y = x
    · cases hyx.symm; exact absurd hk hky
    · simp only [hyx, if_false] at hy
      obtain ⟨q0, c, w, q1, q2, q3⟩ := F.lo.ce y e hy hky
      have nc := ncell c _ q2
      obtain ⟨o, q4, q5⟩ := q2
      exact ⟨q0, c, w, q1, ⟨o, hs'.extBut _ _ nc q4, q5⟩, q3⟩
  · obtain ⟨q1, q2, w, q3⟩ := F.ce y c h1 h2
    have nc := ncell c _ q3
    obtain ⟨o, q4, q5⟩ := q3
    exact ⟨q1, q2, w, o, hs'.extBut _ _ nc q4, q5⟩
  · obtain ⟨q0, q1, al, items, ml', q2, q3, q4, q5, q6, q7⟩ := F.ow y l e
    have nl := nlist al _ q4
    have := Ns_unique q2 hn
    subst this
    have hxy := hw y l e
    obtain ⟨nn, f1⟩ := q4
    refine ⟨q0, ?_, al, items, _, hn', ?_, ⟨nn, hs'.extBut _ _ nl f1⟩, q5, q6, q7⟩
    · unfold up; rw [if_neg (Ne.symm hxy)]; exact q1
    · rw [if_neg (Ne.symm hxy)]; exact q3
  · exact ⟨hs'.extBut _ _ (fun z => by rw [z, eL] at e; cases e; rw [dL] at dd; cases dd) e, id⟩
/-- x = [.. for ..], x a plain local -/
theorem ex_assign_comp {elt iter : Expr} {x y : Str} {px py : Pos} {ifs : List Expr} {scope : Scope} {pos spos : Pos} {di : D} {xs : List D} (p : D → Bool) (g : D → D)
    (h1 : Ev X k sc m iter di) (hi : itemsOf di = some xs) (hlen : xs.length ≤ 100000) (hy : sc.names.lookup y = some .local) (hw : ∀ z l, ow = some (z, l) → y ≠ z)
    (hfr : ∀ y ∈ scope.names, y.2 = .free → sc.names.lookup y.1 = some .cell) (hcell : ∀ y ∈ scope.names, y.2 ≠ .cell) (hkind : scope.kind = .function) (hx : scope.names.lookup x = some .local)
    (hnames : ∀ y ∈ scope.names, y.2 = .local → scope.names.lookup y.1 = some .local)
    (ht : ∀ d ∈ xs, TsL X k (relab scope sc) (inM (relab scope sc) x d m) ifs (p d)) (he : ∀ d ∈ xs, p d = true → Ev X k (relab scope sc) (inM (relab scope sc) x d m) elt (g d))
    (hsw : ∀ env : Env, env.scope = sc → swapsWith (.ListComp elt [⟨.Name x px, iter, ifs, 0⟩] scope pos) (some (.Name y py)) spos.line env = pure true)
    (hs' : ∀ env v, foldedSetIterable iter env v = pure v := by intro _ _; rfl) :
    Ex X k sc m ow (exec (.Assign [.Name y py] (.ListComp elt [⟨.Name x px, iter, ifs, 0⟩] scope pos) spos)) .next (up m y (.lst ((xs.filter p).map g))) ow := fun env A V0 s0 V s Q E hs hA F h => by
  obtain ⟨cl, c1, c2, c3⟩ := closureFor_ok (env := env) (scope := scope) fun y hy hf => F.lo.cl y.1 (by unfold Env.kindOf; rw [hs]; exact hfr y hy hf)
  have hky : env.kindOf y = some .local := by unfold Env.kindOf; rw [hs]; exact hy
  rw [exec_Assign_Name_used _ _ _ _ (hsw env hs)]
  refine wpAny_bind (wpAny_standAt (wpAny_bind ?_))
  show wpAny _ _ (comprehension (.ListComp elt [⟨.Name x px, iter, ifs, 0⟩] scope pos) scope env _ (newList []) false (eval iter env) (some (assign (.Name y py) env)) >>= fun _ => pure ()) _ _ _
  refine wpAny_bind ?_
  refine wpAny_comprehension_free rfl (hs' env) c1 hkind hnames (h1 env A V s _ E hs hA F.st F.lo fun vi s1 V1 g1 r1 => ?_)
  refine comp_core O (m := m) hs hA (F.st.go g1) (F.lo.go O g1) r1 hi hlen c2 c3 hcell hkind hx ht he fun Da Ca V' s' mC ga nC vC hn rd => ?_
  have F1 := F.go O (g1.trans ga)
  show wpAny _ _ (assign (.Name y py) env (.ref Da)) _ _ _
  obtain ⟨ml, hnL, _⟩ := F1.lo.ns
  have nCL : Ca ≠ env.locals := fun z => by
    obtain ⟨ml0, ⟨o, es, ep, e, _⟩, _⟩ := F.lo.ns
    obtain ⟨o', e'⟩ := g1.there e
    rw [← z, nC] at e'; cases e'
  refine wpAny_assign_Name (wpAny_storeName_local hky hnL (fun h2 hn2 hs2 => ?_) (by rw [F.lo.fn]; rfl))
  obtain ⟨F2, k2⟩ := put_local O (tk := s'.toks + 1) F1 rd hky hw hnL hn2 hs2
  have hnC := hn.sameBut hs2 nCL
  refine ⟨mC, hnC, fun h3 hs3 => wpAny_pure (wpAny_pure ?_)⟩
  obtain ⟨oc, es, ep, d1, d2, d3⟩ := hnC
  have F3 := F2.own O Ca (F.gr.none (g1.none nC)) vC (tk := s'.toks + 1) hs3.extBut (fun o e => by rw [d1] at e; cases e; exact quiet_dict d2) nCL (fun w ⟨o, e1, e2⟩ => by rw [d1] at e1; cases e1; rw [d2] at e2; cases e2) (fun w ⟨n, e1⟩ => by rw [d1] at e1; cases e1; cases d2)
  refine h .next V' _ F3 (Kd.trans ((g1.trans ga).kd.trans k2) ⟨fun _ _ e => e, fun b o vs e dd c => ⟨hs3.extBut _ _ (fun z => by rw [z, d1] at e; cases e; rw [d2] at dd; cases dd) e, id⟩⟩) rfl
theorem ex_for {x : Str} {iter : Expr} {px pos : Pos} {body : List Stmt} {di : D} {xs : List D} (M : Nat → Str → Option D) (W : Nat → Ow) (h1 : Ev X k sc (M 0) iter di) (hi : itemsOf di = some xs)
    (hk : sc.names.lookup x = some .local ∨ sc.names.lookup x = some .cell) (hw : ∀ i y l, W i = some (y, l) → x ≠ y)
    (hb : ∀ i d, xs[i]? = some d → Ex X k sc (up (M i) x d) (W i) (execs body) .next (M (i + 1)) (W (i + 1)))
    (hs' : ∀ env v, foldedSetIterable iter env v = pure v := by intro _ _; rfl) (hse : (x == ("word" : Str)) = false := by rfl) :
    Ex X k sc (M 0) (W 0) (exec (.For (.Name x px) iter body [] pos)) .next (M xs.length) (W xs.length) := fun env A V0 s0 V s Q E hs hA F h => by
  refine wpAny_For (h1 env A V s _ E hs hA F.st F.lo fun vi s1 V1 g1 r1 => ?_) (hs' env)
  have F1 := F.go O g1
  refine iter_ok hA.hd F1.st.le hi r1 fun oI P hfI I hP => ?_
  have hkk : env.kindOf x = some .local ∨ env.kindOf x = some .cell := by unfold Env.kindOf; rw [hs]; exact hk
  have g2 := (Gr.refl F1.st.le).hid O oI
  have F2 := F1.go O g2
  have nI0 : s0.heap.get? s1.heap.objs.size = none := F1.gr.none (get_size _)
  have eI : (s1.heap.push oI).get? s1.heap.objs.size = some oI := Heap.get?_push_size _ hfI
  have vI : V1.get? s1.heap.objs.size = none := Sub.no F1.st.le (get_size _)
  have sI : s.heap.get? s1.heap.objs.size = none := g1.none (get_size _)
  generalize s1.heap.objs.size = Ia at *
  have away : ∀ (s' : Shared) (o : Obj) (i : Nat), s'.heap.get? Ia = some o → P i o → (∀ (mm : Str → Option Value), s'.heap.Ns env.locals mm → Ia ≠ env.locals) ∧ (∀ w, ¬ s'.heap.IsCell Ia w) ∧ (∀ w, ¬ s'.heap.PlainList Ia w) ∧ ∀ o', s'.heap.get? Ia = some o' → quiet o' := fun s' o i e p => by
    obtain ⟨q1, q2, ⟨vs, q3⟩, q4⟩ := I.q i o p
    refine ⟨fun mm hn => ns_ne hn e (by rw [q3]; intro es n h; cases h), fun w ⟨o', e1, e2⟩ => ?_, fun w ⟨n, e1⟩ => ?_, fun o' e' => ?_⟩
    · rw [e] at e1; cases e1; rw [q3] at e2; cases e2
    · rw [e] at e1; cases e1; cases q3
    · rw [e] at e'; cases e'; exact q1
  refine codeAny_forLoop_any (fun n s' => ∃ i V' o, Fs X env V0 s0 (M i) (W i) V' s' ∧ s'.heap.get? Ia = some o ∧ P i o ∧ V'.get? Ia = none ∧ Kd V s V' s' ∧ Sub V1 V' ∧ i ≤ xs.length ∧ n = xs.length + 1 - i) ?_ (xs.length + 1)
    ⟨0, V1, oI, F2, eI, hP, vI, (g1.trans g2).kd, fun _ _ e => e, Nat.zero_le _, rfl⟩
  rintro n s' ⟨i, V', o, F', e', p', v', k', sub, hle, rfl⟩
  obtain ⟨a1, a2, a3, a4⟩ := away s' o i e' p'
  have aL : Ia ≠ env.locals := let ⟨ml, hn, _⟩ := F'.lo.ns; a1 ml hn
  by_cases hlt : i < xs.length
  · have hd : xs[i]? = some xs[i] := by simp [hlt]
    generalize xs[i] = d at hd
    refine I.nxt A s' i o d _ _ hA.hd (fun b o e => F'.st.le b o (sub b o e)) e' p' hd fun v o2 h2 tk q1 q2 q3 rd => ?_
    have F3 := F'.own O Ia nI0 v' (tk := tk) q3.extBut a4 aL a2 a3
    refine wpAny_pure ?_
    refine wpAny_assign_Name (store_ok O F3 (rd.mono O sub) hkk (fun y l e => hw i y l e) (fun h3 tk3 F4 k4 => ?_) hse)
    obtain ⟨b1, b2, ⟨vs2, b3⟩, b4⟩ := I.q _ _ q2
    refine hb i d hd env A V0 s0 V' _ _ _ hs hA F4 fun f V5 s5 F5 k5 hf => ?_
    have hf' : f = .next := hf
    subst hf'
    have kk := k4.trans k5
    obtain ⟨e5, v5⟩ := kk.fl Ia o2 vs2 q1 b3 b4
    refine ⟨xs.length + 1 - (i + 1), by (first | lia | omega), i + 1, V5, o2, F5, e5, q2, v5 v', ⟨fun b ob e => kk.sub b ob (k'.sub b ob e), fun b ob vs e dd c => ?_⟩, fun b ob e => kk.sub b ob (sub b ob e), hlt, rfl⟩
    obtain ⟨e6, v6⟩ := k'.fl b ob vs e dd c
    have hbI : b ≠ Ia := fun z => by rw [z, sI] at e; cases e
    obtain ⟨e7, v7⟩ := kk.fl b ob vs (q3.extBut _ _ hbI e6) dd c
    exact ⟨e7, fun hh => v7 (v6 hh)⟩
  · have hi' : i = xs.length := by (first | lia | omega)
    subst hi'
    refine I.fin A s' o _ _ hA.hd (fun b o e => F'.st.le b o (sub b o e)) e' p' fun h2 tk q => ?_
    have F3 := F'.own O Ia nI0 v' (tk := tk) q a4 aL a2 a3
    refine wpAny_execs_nil (h .next V' _ F3 ⟨k'.sub, fun b ob vs e dd c => ?_⟩ rfl)
    obtain ⟨e6, v6⟩ := k'.fl b ob vs e dd c
    have hbI : b ≠ Ia := fun z => by rw [z, sI] at e; cases e
    exact ⟨q _ _ hbI e6, v6⟩
theorem ex_while {t : Expr} {pos : Pos} {body : List Stmt} {fl : Fl} (N : Nat) (M : Nat → Str → Option D) (W : Nat → Ow)
    (hb : ∀ i, i < N → Ts X k sc (M i) t true ∧ Ex X k sc (M i) (W i) (execs body) .next (M (i + 1)) (W (i + 1)))
    (hf : (Ts X k sc (M N) t false ∧ fl = .next ∧ m' = M N ∧ ow' = W N) ∨ (Ts X k sc (M N) t true ∧ fl = .next ∧ Ex X k sc (M N) (W N) (execs body) .brk m' ow') ∨ (Ts X k sc (M N) t true ∧ ∃ d, fl = .ret d ∧ Ex X k sc (M N) (W N) (execs body) (.ret d) m' ow')) :
    Ex X k sc (M 0) (W 0) (exec (.While t body [] pos)) fl m' ow' := fun env A V0 s0 V s Q E hs hA F h => by
  refine wpAny_While (codeAny_whileLoop (fun n s' => ∃ i V', Fs X env V0 s0 (M i) (W i) V' s' ∧ Kd V s V' s' ∧ i ≤ N ∧ n = N - i) ?_ N ⟨0, V, F, .refl, Nat.zero_le _, rfl⟩)
  rintro n s' ⟨i, V', F', k', hle, rfl⟩
  by_cases hlt : i < N
  · obtain ⟨h1, h2⟩ := hb i hlt
    refine h1 env A V' s' _ _ hs hA F'.st F'.lo fun s1 V1 g1 => ?_
    rw [if_pos rfl]
    refine h2 env A V0 s0 V1 s1 _ _ hs hA (F'.go O g1) fun f V2 s2 F2 k2 hf2 => ?_
    have : f = .next := hf2
    subst this
    exact ⟨N - (i + 1), by (first | lia | omega), i + 1, V2, F2, (k'.trans g1.kd).trans k2, hlt, rfl⟩
  · have hi : i = N := by (first | lia | omega)
    subst hi
    rcases hf with ⟨h1, rfl, rfl, rfl⟩ | ⟨h1, rfl, h2⟩ | ⟨h1, d, rfl, h2⟩
    · refine h1 env A V' s' _ _ hs hA F'.st F'.lo fun s1 V1 g1 => ?_
      rw [if_neg Bool.false_ne_true]
      exact wpAny_execs_nil (h .next V1 s1 (F'.go O g1) (k'.trans g1.kd) rfl)
    · refine h1 env A V' s' _ _ hs hA F'.st F'.lo fun s1 V1 g1 => ?_
      rw [if_pos rfl]
      refine h2 env A V0 s0 V1 s1 _ _ hs hA (F'.go O g1) fun f V2 s2 F2 k2 hf2 => ?_
      have : f = .brk := hf2
      subst this
      exact h .next V2 s2 F2 ((k'.trans g1.kd).trans k2) rfl
    · refine h1 env A V' s' _ _ hs hA F'.st F'.lo fun s1 V1 g1 => ?_
      rw [if_pos rfl]
      refine h2 env A V0 s0 V1 s1 _ _ hs hA (F'.go O g1) fun f V2 s2 F2 k2 hf2 => ?_
      obtain ⟨v, rfl, r⟩ := hf2
      exact h _ V2 s2 F2 ((k'.trans g1.kd).trans k2) ⟨v, rfl, r⟩
end
end Mine
end
section
open PySem PySem.W PySem.Calls PyProof.Rows
namespace Mine
theorem cellsFrom_keeps : ∀ (names : List (Str × NameKind)) (n : Nat) (acc : List (Str × Addr)) (x : Str), ((acc.lookup x).isSome = true) → ((cellsFrom n names acc).lookup x).isSome = true
  | [], _, _, _, h => h
  | (y, kd) :: r, n, acc, x, h => by
    unfold cellsFrom
    split
    · refine cellsFrom_keeps r _ _ x ?_
      rw [List.lookup_cons]
      cases x == y with
      | true => rfl
      | false => exact h
    · exact cellsFrom_keeps r _ _ x h
theorem cellsFrom_has : ∀ (names : List (Str × NameKind)) (n : Nat) (acc : List (Str × Addr)) (x : Str), names.lookup x = some .cell → ((cellsFrom n names acc).lookup x).isSome = true
  | (y, kd) :: r, n, acc, x, h => by
    rw [List.lookup_cons] at h
    unfold cellsFrom
    cases hb : x == y with
    | true =>
      rw [hb] at h
      cases h
      refine cellsFrom_keeps r _ _ x ?_
      rw [List.lookup_cons, hb]; rfl
    | false =>
      rw [hb] at h
      split
      · exact cellsFrom_has r _ _ x h
      · exact cellsFrom_has r _ _ x h
theorem bindL_get {kf : Str → Option NameKind} {x : Str} (hk : kf x = some .local) : ∀ (binds : List (Str × Value)) (m : Str → Option Value), bindL kf binds m x = (binds.reverse.lookup x).or (m x)
  | [], m => by simp [bindL]
  | (n, v) :: r, m => by
    unfold bindL
    rw [bindL_get hk r, List.reverse_cons, List.lookup_append]
    by_cases hn : kf n = some .local
    · rw [if_pos hn]
      by_cases hx : x = n
      · subst hx; cases h : List.lookup x r.reverse <;> simp [List.lookup_cons]
      · have : (x == n) = false := by simpa using hx
        cases h : List.lookup x r.reverse <;> simp [List.lookup_cons, this, hx]
    · rw [if_neg hn]
      have hx : x ≠ n := fun z => hn (z ▸ hk)
      have : (x == n) = false := by simpa using hx
      cases h : List.lookup x r.reverse <;> simp [List.lookup_cons, this]
theorem bindC_get {kf : Str → Option NameKind} {x : Str} (hk : kf x ≠ some .local) : ∀ (binds : List (Str × Value)) (m : Str → Option Value), bindC kf binds m x = (binds.reverse.lookup x).or (m x)
  | [], m => by simp [bindC]
  | (n, v) :: r, m => by
    unfold bindC
    rw [bindC_get hk r, List.reverse_cons, List.lookup_append]
    by_cases hn : kf n = some .local
    · rw [if_pos hn]
      have hx : x ≠ n := fun z => hk (z ▸ hn)
      have : (x == n) = false := by simpa using hx
      cases h : List.lookup x r.reverse <;> simp [List.lookup_cons, this]
    · rw [if_neg hn]
      by_cases hx : x = n
      · subst hx; cases h : List.lookup x r.reverse <;> simp [List.lookup_cons]
      · have : (x == n) = false := by simpa using hx
        cases h : List.lookup x r.reverse <;> simp [List.lookup_cons, this, hx]
/-- the parameters -/
noncomputable def pm (names : List Str) (ds : List D) : Str → Option D := fun x => (names.zip ds).reverse.lookup x
theorem rdl_lookup {X : Fix} {V : Heap} {x : Str} : ∀ {names : List Str} {ds : List D} {vs : List Value}, RdL X V ds vs → (∀ d, (names.zip ds).reverse.lookup x = some d → ∃ v, (names.zip vs).reverse.lookup x = some v ∧ Rd X V d v) ∧ ((names.zip ds).reverse.lookup x = none → (names.zip vs).reverse.lookup x = none)
  | [], _, _, _ => by simp
  | _ :: _, [], _, r => by rw [r.nil_inv]; simp
  | n :: names, d0 :: ds, _, r0 => by
    obtain ⟨v0, vs, rfl, h, r⟩ := r0.cons_inv
    obtain ⟨i1, i2⟩ := rdl_lookup (x := x) (names := names) r
    simp only [List.zip_cons_cons, List.reverse_cons, List.lookup_append]
    constructor
    · intro d hd
      cases q : List.lookup x (names.zip ds).reverse with
      | some d' =>
        rw [q] at hd
        simp at hd; subst hd
        obtain ⟨v, e1, e2⟩ := i1 d' q
        exact ⟨v, by rw [e1]; rfl, e2⟩
      | none =>
        rw [q] at hd
        rw [i2 q]
        cases hb : x == n with
        | true => simp [List.lookup_cons, hb] at hd ⊢; subst hd; exact h
        | false => simp [List.lookup_cons, hb] at hd
    · intro hd
      cases q : List.lookup x (names.zip ds).reverse with
      | some d' => rw [q] at hd; simp at hd
      | none =>
        rw [q] at hd
        rw [i2 q]
        cases hb : x == n with
        | true => simp [List.lookup_cons, hb] at hd
        | false => simp [List.lookup_cons, hb]
theorem lookup_zip_mem {α : Type} {x : Str} {names : List Str} {ds : List α} {d : α} (h : (names.zip ds).reverse.lookup x = some d) : x ∈ names := by
  have := PySem.mem_of_lookup h
  rw [List.mem_reverse] at this
  exact (List.of_mem_zip this).1
section
variable {X : Fix} (O : X.Ok) {k : Nat} {sc : Scope} {m m' m'' : Str → Option D} {ow ow' ow'' : Ow}
include O
theorem call_def1 {name : Str} {params : Arguments} {body : List Stmt} {scope : Scope} {pmv cd doc : Value} {a : Addr} {o : Obj} {names : List Str} {ds : List D} {d : D}
    (ho : X.base.get? a = some o) (hd : o.data = .func (docDef name params body scope pmv cd doc)) (hcd : X.base.CodeRec cd name)
    (hbind : ∀ vs : List Value, vs.length = names.length → bindArgs (docDef name params body scope pmv cd doc) ⟨vs, []⟩ = pure (names.zip vs)) (hlen : ds.length = names.length)
    (hkind : ∀ x ∈ names, scope.names.lookup x = some .local ∨ scope.names.lookup x = some .cell) (hk : scope.kind = .function) (hco : scope.isCoroutine = false) (hgen : scope.isGenerator = false)
    (h : ∀ (env : Env) (A : Around) (V0 : Heap) (s0 : Shared) (V : Heap) (s : Shared) (Q : Flow → Shared → Prop) (E : Value → Shared → Prop), env.scope = scope → env.code = cd → env.qual = (docDef name params body scope pmv cd doc).qualname ++ ".<locals>." → Ar k A → Fs X env V0 s0 (pm names ds) none V s →
      (∀ v V' s', Gr X V0 s0 V' s' → Rd X V' d v → Q (.ret v) s') → wpAny (model X.prog X.w) A (execs body env) Q E s) : OpL X (k + 1) (fun vs => call (.ref a) vs) ds d := fun A V s vs Q E hA S r hQ => by
  have hvl : vs.length = names.length := by rw [← r.length]; exact hlen
  refine wpAny_call (codeAny_call_cells (fd := docDef name params body scope pmv cd doc) (binds := names.zip vs) (by have := hA.dp; show A.depth < 1000; (first | lia | omega)) (S.bh _ _ ho) hd (O.lim.keeps S.bh) (hcd.keeps S.bh) rfl (hbind vs hvl) rfl
    (fun y hy => ?_) (fun s₁ x => ?_) hco hgen hk)
  · rcases hkind y.1 (List.of_mem_zip hy).1 with q | q
    · exact .inl q
    · exact .inr ⟨q, cellsFrom_has _ _ _ _ q⟩
  · generalize he : callEnvC (docDef name params body scope pmv cd doc) s.heap.objs.size a = env at x ⊢
    have e1 : env.scope = scope := by rw [← he]; rfl
    have e2 : env.globals = mainGlobals := by rw [← he]; rfl
    have e3 : env.builtins = builtinsNs := by rw [← he]; rfl
    have e4 : env.locals = s.heap.objs.size := by rw [← he]; rfl
    have e5 : env.cells = cellsFrom (s.heap.objs.size + 1) scope.names [] := by rw [← he]; rfl
    have e6 : ∀ y, env.kindOf y = scope.names.lookup y := fun y => by unfold Env.kindOf; rw [e1]
    obtain ⟨h1, tk1, rfl⟩ := x.toInCall.same
    have keep : Sub s.heap h1 := x.toInCall.keep
    have vn : ∀ c, s.heap.objs.size ≤ c → s.heap.get? c = none := fun c hc => by
      cases q : s.heap.get? c with
      | none => rfl
      | some o => exact absurd (Heap.lt_size q) (Nat.not_lt.mpr hc)
    have vv : ∀ c, s.heap.objs.size ≤ c → V.get? c = none := fun c hc => by
      cases q : V.get? c with
      | none => rfl
      | some o => have := S.le _ _ q; rw [vn c hc] at this; cases this
    have F : Fs X env V s (pm names ds) none V { s with heap := h1, toks := tk1 } := by
      refine ⟨S, Gr.of_keeps O S.le keep rfl rfl, ⟨by rw [e1]; exact hk, e2, e3, ⟨_, x.toInCall.ns, fun y e hy hky => ?_⟩, fun y hy => ?_, fun y e hy hky => ?_⟩, vv _ (by rw [e4]; exact Nat.le_refl _), vn _ (by rw [e4]; exact Nat.le_refl _), fun y c h1 h2 => ?_, fun y z c h1 h2 h3 => ?_, fun y l e => by cases e⟩
      · rw [bindL_get hky]
        obtain ⟨v, q1, q2⟩ := (rdl_lookup (x := y) (names := names) r).1 e hy
        exact ⟨v, by rw [q1]; rfl, q2⟩
      · rw [e6] at hy
        have := cellsFrom_has scope.names (s.heap.objs.size + 1) [] y hy
        rw [e5]
        exact Option.isSome_iff_exists.mp this
      · have hc : scope.names.lookup y = some .cell := by
          rcases hkind y (lookup_zip_mem hy) with q | q
          · rw [e6] at hky; exact absurd q hky
          · exact q
        obtain ⟨c, hcc⟩ := Option.isSome_iff_exists.mp (cellsFrom_has scope.names (s.heap.objs.size + 1) [] y hc)
        obtain ⟨v, q1, q2⟩ := (rdl_lookup (x := y) (names := names) r).1 e hy
        have q3 := x.cell y c (by rw [e5]; exact hcc)
        rw [bindC_get hky, q1] at q3
        exact ⟨.inl (by rw [e6]; exact hc), c, v, by rw [e5]; exact hcc, q3, q2⟩
      · have hl := x.above y c (PySem.mem_of_lookup h2)
        have hge : s.heap.objs.size ≤ c := by rw [e4] at hl; exact Nat.le_of_lt hl
        exact ⟨fun _ => vv _ hge, vn _ hge, _, x.cell y c h2⟩
      · exact (PySem.name_of_addr x.apart (PySem.mem_of_lookup h2) (PySem.mem_of_lookup h3)).symm
    exact h env (A.deeper env) V s V _ _ _ e1 (by rw [← he]; rfl) (by rw [← he]; rfl) (hA.deeper env) F fun v V2 s2 g2 rv => hQ v s2 V2 g2 rv
theorem call_def {name : Str} {params : Arguments} {body : List Stmt} {scope : Scope} {pmv cd doc : Value} {a : Addr} {o : Obj} {names : List Str} {ds : List D} {d : D}
    (ho : X.base.get? a = some o) (hd : o.data = .func (docDef name params body scope pmv cd doc)) (hcd : X.base.CodeRec cd name)
    (hbind : ∀ vs : List Value, vs.length = names.length → bindArgs (docDef name params body scope pmv cd doc) ⟨vs, []⟩ = pure (names.zip vs)) (hlen : ds.length = names.length)
    (hkind : ∀ x ∈ names, scope.names.lookup x = some .local ∨ scope.names.lookup x = some .cell) (hk : scope.kind = .function) (hco : scope.isCoroutine = false) (hgen : scope.isGenerator = false)
    (h : Ex X k scope (pm names ds) none (execs body) (.ret d) m' ow') : OpL X (k + 1) (fun vs => call (.ref a) vs) ds d :=
  call_def1 O ho hd hcd hbind hlen hkind hk hco hgen fun env A V0 s0 V s Q E hs _ _ hA F hQ => h env A V0 s0 V s Q E hs hA F fun f V2 s2 F2 k2 hf => by
    obtain ⟨v, rfl, rv⟩ := hf
    exact hQ v V2 s2 F2.gr rv
end
end Mine
end
section
open PySem PySem.W PySem.Calls PyProof.Rows
namespace Mine
theorem fin_not {x : UInt64} (hf : Float64.isFinite x = true) : ¬ Float64.isNaN x = true ∧ ¬ Float64.isInf x = true := by
  unfold Float64.isNaN Float64.isInf
  unfold Float64.isFinite at hf
  cases q : Float64.decode x <;> simp_all
theorem ltV_ff (x y : UInt64) (t u : Tok) : PySem.Flt.ltV (.float x t) (.float y u) = (Float64.cmp x y == some .lt) := rfl
noncomputable def maxF (x y : UInt64) : UInt64 := if (Float64.cmp x y == some .lt) = true then y else x
noncomputable def minF (x y : UInt64) : UInt64 := if (Float64.cmp y x == some .lt) = true then y else x
section
variable {X : Fix} (O : X.Ok) {k : Nat}
include O
theorem bi_range (n : Int) : OpL X k (fun vs => call (.type "range") vs) [.int n] (.rng n) := fun A V s vs Q E hA S r h => by
    obtain ⟨v1, rfl, r1⟩ := r.one_inv
    obtain ⟨t1, rfl⟩ := r1.int_inv
    refine PySem.call_range_1 ?_
    obtain ⟨V2, g2, k2, e2⟩ := (Gr.refl S.le).push O { cls := .type "range", data := .fields #[.int 0 s.toks, .int n _, .int 1 (s.toks + 1)] } rfl
    exact h _ _ V2 (g2.tok _) (.rng e2)
theorem bi_len_lst (l : List D) (hl : l.length ≤ 100000) : OpL X k (fun vs => call (.builtin "len") vs) [.lst l] (.int l.length) := fun A V s vs Q E hA S r h => by
      obtain ⟨v1, rfl, r1⟩ := r.one_inv
      obtain ⟨a, items, rfl, hl', rl⟩ := r1.lst_inv
      have hz : l.length = items.size := by simpa using rl.length
      refine Calls.call_len_list (isList_keeps hl' S.le) (by rw [← hz]; (first | lia | omega)) ?_
      rw [← hz]
      exact h _ _ V ((Gr.refl S.le).tok _) (.int _ _)
theorem bi_len_str (x : Str) (hl : x.length ≤ 100000) : OpL X k (fun vs => call (.builtin "len") vs) [.str x] (.int x.length) := fun A V s vs Q E hA S r h => by
    obtain ⟨v1, rfl, r1⟩ := r.one_inv
    obtain ⟨t1, rfl⟩ := r1.str_inv
    exact PyProof.Rows.len_str (by (first | lia | omega)) (h _ _ V ((Gr.refl S.le).tok _) (.int _ _))
theorem bi_max_ii (a b : Int) : OpL X k (fun vs => call (.builtin "max") vs) [.int a, .int b] (.int (max a b)) := fun A V s vs Q E hA S r h => by
      obtain ⟨v1, v2, rfl, r1, r2⟩ := r.two_inv
      obtain ⟨t1, rfl⟩ := r1.int_inv
      obtain ⟨t2, rfl⟩ := r2.int_inv
      refine max_two_ints hA.hd fun h' tk kp => ?_
      have g : Gr X V s V { s with heap := h', toks := tk } := Gr.of_keeps O S.le kp rfl rfl
      by_cases hc : b > a
      · rw [if_pos hc]; exact h _ _ V g (by rw [show max a b = b by (first | lia | omega)]; exact .int _ _)
      · rw [if_neg hc]; exact h _ _ V g (by rw [show max a b = a by (first | lia | omega)]; exact .int _ _)
theorem bi_min_ii (a b : Int) : OpL X k (fun vs => call (.builtin "min") vs) [.int a, .int b] (.int (min a b)) := fun A V s vs Q E hA S r h => by
      obtain ⟨v1, v2, rfl, r1, r2⟩ := r.two_inv
      obtain ⟨t1, rfl⟩ := r1.int_inv
      obtain ⟨t2, rfl⟩ := r2.int_inv
      refine min_two_ints hA.hd fun h' tk kp => ?_
      have g : Gr X V s V { s with heap := h', toks := tk } := Gr.of_keeps O S.le kp rfl rfl
      by_cases hc : b < a
      · rw [if_pos hc]; exact h _ _ V g (by rw [show min a b = b by (first | lia | omega)]; exact .int _ _)
      · rw [if_neg hc]; exact h _ _ V g (by rw [show min a b = a by (first | lia | omega)]; exact .int _ _)
theorem bi_max_fff (x y z : UInt64) : OpL X k (fun vs => call (.builtin "max") vs) [.flt x, .flt y, .flt z] (.flt (maxF (maxF x y) z)) := fun A V s vs Q E hA S r h => by
        obtain ⟨v1, v2, v3, rfl, r1, r2, r3⟩ := r.three_inv
        obtain ⟨t, rfl⟩ := r1.flt_inv
        obtain ⟨u, rfl⟩ := r2.flt_inv
        obtain ⟨v, rfl⟩ := r3.flt_inv
        have hT : (s.heap.push { cls := .type "tuple", data := .seq #[.float x t, .float y u, .float z v] }).IsTuple s.heap.objs.size #[.float x t, .float y u, .float z v] := ⟨_, Heap.get?_push_size _ rfl, rfl, 0, rfl⟩
        refine call_max_three (wpAny_pyIter_tuple hT ?_)
        have hsz : (s.heap.push { cls := .type "tuple", data := .seq #[.float x t, .float y u, .float z v] }).objs.size = s.heap.objs.size + 1 := Heap.size_push ..
        refine ⟨_, [_, s.heap.objs.size], [_], _, _, _, _, rfl, Walks.tuple (A := A.in1) hA.hd _ s.heap.objs.size (by rw [hsz]; exact Nat.ne_of_lt (Nat.lt_succ_self _)) #[.float x t, .float y u, .float z v],
          ⟨⟨_, Heap.get?_push_size _ rfl, rfl, rfl⟩, isTuple_keeps hT fun _ _ e => Heap.get?_push_of_some _ e⟩, fun c hc => ?_, by simp, PySem.Flt.cmpOf_gt #[.float x t, .float y u, .float z v] (by intro w hw; simp at hw; rcases hw with rfl | rfl | rfl <;> exact .float _ _), fun w h' tk hP hk => ?_⟩
        · show c < ((s.heap.push _).push _).objs.size
          rw [Heap.size_push, hsz]
          rcases List.mem_cons.mp hc with rfl | hc
          · rw [hsz]; exact Nat.lt_succ_self _
          · rcases List.mem_cons.mp hc with rfl | hc
            · exact Nat.lt_succ_of_lt (Nat.lt_succ_self _)
            · cases hc
        · have hold : ∀ c o, s.heap.get? c = some o → h'.get? c = some o := fun c o e => by
            refine hk c o (fun hm => ?_) (Heap.get?_push_of_some _ (Heap.get?_push_of_some _ e))
            rcases List.mem_cons.mp hm with e1 | hm
            · have := Heap.lt_size e; rw [e1, hsz] at this; exact Nat.lt_irrefl _ (Nat.lt_of_succ_lt this)
            · cases hm
          have g : Gr X V s V { s with heap := h', toks := tk } := Gr.of_keeps O S.le hold rfl rfl
          refine h _ _ V g ?_
          unfold maxF
          cases c1 : (Float64.cmp x y == some .lt) <;> cases c2 : (Float64.cmp x z == some .lt) <;> cases c3 : (Float64.cmp y z == some .lt) <;>
            simp [argBest, ltV_ff, c1, c2, c3] at hP <;> simp [c1, c2, c3] <;> subst hP <;> exact .flt _ _
theorem bi_min_fff (x y z : UInt64) : OpL X k (fun vs => call (.builtin "min") vs) [.flt x, .flt y, .flt z] (.flt (minF (minF x y) z)) := fun A V s vs Q E hA S r h => by
        obtain ⟨v1, v2, v3, rfl, r1, r2, r3⟩ := r.three_inv
        obtain ⟨t, rfl⟩ := r1.flt_inv
        obtain ⟨u, rfl⟩ := r2.flt_inv
        obtain ⟨v, rfl⟩ := r3.flt_inv
        have hT : (s.heap.push { cls := .type "tuple", data := .seq #[.float x t, .float y u, .float z v] }).IsTuple s.heap.objs.size #[.float x t, .float y u, .float z v] := ⟨_, Heap.get?_push_size _ rfl, rfl, 0, rfl⟩
        refine call_min_three (wpAny_pyIter_tuple hT ?_)
        have hsz : (s.heap.push { cls := .type "tuple", data := .seq #[.float x t, .float y u, .float z v] }).objs.size = s.heap.objs.size + 1 := Heap.size_push ..
        refine ⟨_, [_, s.heap.objs.size], [_], _, _, _, _, rfl, Walks.tuple (A := A.in1) hA.hd _ s.heap.objs.size (by rw [hsz]; exact Nat.ne_of_lt (Nat.lt_succ_self _)) #[.float x t, .float y u, .float z v],
          ⟨⟨_, Heap.get?_push_size _ rfl, rfl, rfl⟩, isTuple_keeps hT fun _ _ e => Heap.get?_push_of_some _ e⟩, fun c hc => ?_, by simp, PySem.Flt.cmpOf_lt #[.float x t, .float y u, .float z v] (by intro w hw; simp at hw; rcases hw with rfl | rfl | rfl <;> exact .float _ _), fun w h' tk hP hk => ?_⟩
        · show c < ((s.heap.push _).push _).objs.size
          rw [Heap.size_push, hsz]
          rcases List.mem_cons.mp hc with rfl | hc
          · rw [hsz]; exact Nat.lt_succ_self _
          · rcases List.mem_cons.mp hc with rfl | hc
            · exact Nat.lt_succ_of_lt (Nat.lt_succ_self _)
            · cases hc
        · have hold : ∀ c o, s.heap.get? c = some o → h'.get? c = some o := fun c o e => by
            refine hk c o (fun hm => ?_) (Heap.get?_push_of_some _ (Heap.get?_push_of_some _ e))
            rcases List.mem_cons.mp hm with e1 | hm
            · have := Heap.lt_size e; rw [e1, hsz] at this; exact Nat.lt_irrefl _ (Nat.lt_of_succ_lt this)
            · cases hm
          have g : Gr X V s V { s with heap := h', toks := tk } := Gr.of_keeps O S.le hold rfl rfl
          refine h _ _ V g ?_
          unfold minF
          cases c1 : (Float64.cmp y x == some .lt) <;> cases c2 : (Float64.cmp z x == some .lt) <;> cases c3 : (Float64.cmp z y == some .lt) <;>
            simp [argBest, ltV_ff, c1, c2, c3] at hP <;> simp [c1, c2, c3] <;> subst hP <;> exact .flt _ _
omit O in
theorem rdl_ints {X : Fix} {V : Heap} : ∀ {ns : List Int} {vs : List Value}, RdL X V (ns.map D.int) vs → ∃ xs : List (Int × Tok), vs = xs.map (fun p => Value.int p.1 p.2) ∧ xs.map (·.1) = ns
  | [], _, r => ⟨[], r.nil_inv, rfl⟩
  | n :: ns, _, r0 => by
    obtain ⟨v, vs, rfl, h, r⟩ := RdL.cons_inv r0
    obtain ⟨xs, rfl, rfl⟩ := rdl_ints (ns := ns) r
    obtain ⟨t, rfl⟩ := h.int_inv
    exact ⟨(n, t) :: xs, rfl, rfl⟩
theorem bi_sum (ns : List Int) : OpL X k (fun vs => call (.builtin "sum") vs) [.lst (ns.map D.int)] (.int ns.sum) := fun A V s vs Q E hA S r h => by
      obtain ⟨v1, rfl, r1⟩ := r.one_inv
      obtain ⟨a, items, rfl, hl, rl⟩ := r1.lst_inv
      obtain ⟨xs, e1, e2⟩ := rdl_ints rl
      have e3 : items = intItems xs.toArray := by
        apply Array.ext'
        rw [e1]; simp [intItems]
      subst e3
      refine sum_intListG hA.hd (isList_keeps hl S.le) fun h' tk t' kp => ?_
      have g : Gr X V s V { s with heap := h', toks := tk } := Gr.of_keeps O S.le kp rfl rfl
      refine h _ _ V g ?_
      rw [preSum_eq, List.take_of_length_le (by simp), List.toList_toArray, e2]
      exact .int _ _
theorem bi_round (x : UInt64) (hf : Float64.isFinite x = true) : OpL X k (fun vs => call (.builtin "round") vs) [.flt x] (.int (PySem.Flt.toInt Float64.nearestOf x)) := fun A V s vs Q E hA S r h => by
    obtain ⟨v1, rfl, r1⟩ := r.one_inv
    obtain ⟨t1, rfl⟩ := r1.flt_inv
    refine PySem.Flt.call_round_float hA.hd (fun c => ?_) (fun c => ?_) fun _ => h _ _ V ((Gr.refl S.le).tok _) (.int _ _)
    · exact absurd c (fin_not hf).1
    · exact absurd c (fin_not hf).2
theorem bi_int_flt (x : UInt64) (hf : Float64.isFinite x = true) : OpL X k (fun vs => call (.type "int") vs) [.flt x] (.int (PySem.Flt.toInt Float64.truncOf x)) := fun A V s vs Q E hA S r h => by
    obtain ⟨v1, rfl, r1⟩ := r.one_inv
    obtain ⟨t1, rfl⟩ := r1.flt_inv
    refine PySem.Flt.call_int_float3 hA.hd (fun c => ?_) (fun c => ?_) fun _ => h _ _ V ((Gr.refl S.le).tok _) (.int _ _)
    · exact absurd c (fin_not hf).1
    · exact absurd c (fin_not hf).2
theorem bi_str_int (n : Int) (hn : n.natAbs < 2 ^ 100) : OpL X k (fun vs => call (.type "str") vs) [.int n] (.str (Str.ofString (toString n))) := fun A V s vs Q E hA S r h => by
    obtain ⟨v1, rfl, r1⟩ := r.one_inv
    obtain ⟨t1, rfl⟩ := r1.int_inv
    refine PySem.P.str_of_int ?_ (h _ _ V ((Gr.refl S.le).tok _) (.str _ _))
    by_cases h0 : n.natAbs = 0
    · rw [h0]; decide
    · exact (Nat.log2_lt h0).mpr (Nat.lt_of_lt_of_le hn (Nat.pow_le_pow_right (by decide) (by decide)))
end
end Mine
end
section
open PySem PySem.W PySem.Calls PyProof.Rows
open PySem.AutoSeq1 (wpAny_loadPart')
open PySem.MeetsSeq PySem.MeetsSeq2 PySem.MeetsSeq3 PySem.SeqRoads2 PySem.SeqAt
namespace Mine
theorem tuple_le2 (l b : Addr) (a1 a2 b1 b2 : Int) (t1 t2 u1 u2 : Tok) (n n2 : Nat) (dd dd2 : Option Addr) (sl sl2 : Array (Option Value)) :
    Meets (Builtin.«tuple.__le__» ⟨[.ref l, .ref b], []⟩)
      (fun A R s => s.heap.get? l = some { cls := .type "tuple", dict := dd, data := .seq #[.int a1 t1, .int a2 t2] n, slots := sl } ∧ s.heap.get? b = some { cls := .type "tuple", dict := dd2, data := .seq #[.int b1 u1, .int b2 u2] n2, slots := sl2 } ∧
        R (.ok (.ret (.bool (decide (a1 < b1 ∨ (a1 = b1 ∧ a2 ≤ b2)))))) s) :=
  .of_wp fun prog w A R s h => by
    obtain ⟨hp, g, d, tk, os⟩ := s; obtain ⟨hl, hb, h⟩ := h
    have f2 := AutoSeq1.sub_tuple_tuple
    wp_walk using wpAny_loadPart' hl, wpAny_loadPart' hb
    refine (show wpAny (model prog w) A.in1 (eqBool (.int a1 t1) (.int b1 u1)) _ _ _ from EqAt.int_int a1 t1 b1 u1 prog w _ _ ?_)
    cases h1 : (a1 == b1) with
    | false =>
      have hne : a1 ≠ b1 := by simpa using h1
      have hrc : ∀ {Q : Value → Shared → Prop} {E : Value → Shared → Prop} {s : Shared}, Q (.bool (decide (a1 ≤ b1))) s → wpAny (model prog w) A.in1 (richCompare .LtE (.int a1 t1) (.int b1 u1)) Q E s := fun h => PyProof.Rows.le_int h
      wp_walk using hrc
      refine ⟨_, rfl, ?_⟩
      have : decide (a1 ≤ b1) = decide (a1 < b1 ∨ (a1 = b1 ∧ a2 ≤ b2)) := by
        apply decide_eq_decide.mpr; (first | lia | omega)
      rw [this]; exact h
    | true =>
      have heq : a1 = b1 := by simpa using h1
      wp_walk
      refine (show wpAny (model prog w) A.in1 (eqBool (.int a2 t2) (.int b2 u2)) _ _ _ from EqAt.int_int a2 t2 b2 u2 prog w _ _ ?_)
      cases h2 : (a2 == b2) with
      | false =>
        have hne : a2 ≠ b2 := by simpa using h2
        have hrc : ∀ {Q : Value → Shared → Prop} {E : Value → Shared → Prop} {s : Shared}, Q (.bool (decide (a2 ≤ b2))) s → wpAny (model prog w) A.in1 (richCompare .LtE (.int a2 t2) (.int b2 u2)) Q E s := fun h => PyProof.Rows.le_int h
        wp_walk using hrc
        refine ⟨_, rfl, ?_⟩
        have : decide (a2 ≤ b2) = decide (a1 < b1 ∨ (a1 = b1 ∧ a2 ≤ b2)) := by
          apply decide_eq_decide.mpr; (first | lia | omega)
        rw [this]; exact h
      | true =>
        have heq2 : a2 = b2 := by simpa using h2
        wp_walk
        refine ⟨_, rfl, ?_⟩
        have : decide (a1 < b1 ∨ (a1 = b1 ∧ a2 ≤ b2)) = true := decide_eq_true (by (first | lia | omega))
        rw [this] at h
        exact h
section
variable {X : Fix} (O : X.Ok) {k : Nat}
include O
theorem cmp_le_t2 (a1 a2 b1 b2 : Int) : Op2 X k (compareOp .LtE) (.tup [.int a1, .int a2]) (.tup [.int b1, .int b2]) (.bool (decide (a1 < b1 ∨ (a1 = b1 ∧ a2 ≤ b2)))) := fun A V s v1 v2 Q E hA S r1 r2 h => by
  obtain ⟨l, items, rfl, hl, rl⟩ := r1.tup_inv
  obtain ⟨b, items2, rfl, hb, rb⟩ := r2.tup_inv
  obtain ⟨l1⟩ := items
  obtain ⟨l2⟩ := items2
  obtain ⟨v1, v2, e1, x1, x2⟩ := rl.two_inv
  obtain ⟨w1, w2, e2, y1, y2⟩ := rb.two_inv
  replace e1 : l1 = [v1, v2] := e1
  replace e2 : l2 = [w1, w2] := e2
  subst e1 e2
  obtain ⟨t1, rfl⟩ := x1.int_inv
  obtain ⟨t2, rfl⟩ := x2.int_inv
  obtain ⟨u1, rfl⟩ := y1.int_inv
  obtain ⟨u2, rfl⟩ := y2.int_inv
  obtain ⟨⟨cls, dd, data, sl⟩, ho, hc, n, hd⟩ := isTuple_keeps hl S.le
  obtain ⟨⟨cls2, dd2, data2, sl2⟩, ho2, hc2, n2, hd2⟩ := isTuple_keeps hb S.le
  simp only at hc hd hc2 hd2
  subst hc hd hc2 hd2
  exact richCompare_meets_room (op := .LtE) ⟨_, ho, rfl⟩ ⟨_, ho2, rfl⟩ F.slot_tuple_le F.entry_tuple_le (F.args_tuple_le_2 _ _) (tuple_le2 l b a1 a2 b1 b2 _ _ _ _ n n2 dd dd2 sl sl2)
    ⟨ho, ho2, ⟨(fun x => nomatch x), h _ _ V (Gr.refl S.le) (.bool _)⟩⟩ (by have := hA.un; show A.units < 9900; (first | lia | omega))
omit O in
theorem rdl_intsAre {X : Fix} {V : Heap} : ∀ {ns : List Int} {vs : List Value}, RdL X V (ns.map D.int) vs → IntsAre vs ns
  | [], _, r => by rw [r.nil_inv]; exact .nil
  | n :: ns, _, r0 => by
    obtain ⟨v, vs, rfl, h, r⟩ := RdL.cons_inv r0
    obtain ⟨t, rfl⟩ := h.int_inv
    exact .cons n t (rdl_intsAre r)
theorem cmp_eq_ints (ns ms : List Int) : Op2 X k (compareOp .Eq) (.lst (ns.map .int)) (.lst (ms.map .int)) (.bool (decide (ns = ms))) := fun A V s v1 v2 Q E hA S r1 r2 h => by
  obtain ⟨l, items, rfl, hl, rl⟩ := r1.lst_inv
  obtain ⟨b, items2, rfl, hb, rb⟩ := r2.lst_inv
  refine eq_intsK (vs := items.toList) (us := items2.toList) (by simpa using isList_keeps hl S.le) (rdl_intsAre rl) (by simpa using isList_keeps hb S.le) (rdl_intsAre rb) (by have := hA.un; show A.units + 64 < 9900; (first | lia | omega)) (h _ _ V (Gr.refl S.le) (.bool _))
theorem cmp_ne_ints (ns ms : List Int) : Op2 X k (compareOp .NotEq) (.lst (ns.map .int)) (.lst (ms.map .int)) (.bool (!decide (ns = ms))) := fun A V s v1 v2 Q E hA S r1 r2 h => by
  obtain ⟨l, items, rfl, hl, rl⟩ := r1.lst_inv
  obtain ⟨b, items2, rfl, hb, rb⟩ := r2.lst_inv
  refine ne_intsK (vs := items.toList) (us := items2.toList) (by simpa using isList_keeps hl S.le) (rdl_intsAre rl) (by simpa using isList_keeps hb S.le) (rdl_intsAre rb) (by have := hA.un; show A.units + 64 < 9900; (first | lia | omega)) (h _ _ V (Gr.refl S.le) (.bool _))
/-- a pair of ints -/
noncomputable abbrev pr (t : Int × Int) : D := .tup [.int t.1, .int t.2]
noncomputable abbrev prP (t : Int × Int) : PySem.PyData := .tuple [.int t.1, .int t.2]
omit O in
theorem rdl_pairs {X : Fix} {V h : Heap} (le : Sub V h) : ∀ {ts : List (Int × Int)} {vs : List Value}, RdL X V (ts.map pr) vs → ∃ as, PySem.ReadsAll h vs (ts.map prP) as
  | [], _, r => by rw [r.nil_inv]; exact ⟨_, .nil⟩
  | t :: ts, _, r0 => by
    obtain ⟨v, vs, rfl, x, r⟩ := RdL.cons_inv r0
    obtain ⟨as, q⟩ := rdl_pairs le r
    obtain ⟨a, items, rfl, hl, rl⟩ := Rd.tup_inv x
    obtain ⟨o, ho, hc, n, hd⟩ := isTuple_keeps hl le
    obtain ⟨l⟩ := items
    obtain ⟨v1, v2, e, x1, x2⟩ := rl.two_inv
    replace e : l = [v1, v2] := e
    subst e
    obtain ⟨t1, rfl⟩ := x1.int_inv
    obtain ⟨t2, rfl⟩ := x2.int_inv
    exact ⟨_, .cons (.tuple ho hc hd (.cons (.int _ _) (.cons (.int _ _) .nil))) q⟩
omit O in
theorem pairs_lay : ∀ ts : List (Int × Int), PySem.PyData.canLayAll0 (ts.map prP) = true ∧ PySem.PyData.depthAll (ts.map prP) ≤ 1
  | [] => by simp [PySem.PyData.canLayAll0, PySem.PyData.depthAll]
  | t :: r => by
    obtain ⟨h1, h2⟩ := pairs_lay r
    simp only [List.map_cons, PySem.PyData.canLayAll0, PySem.PyData.canLay0, PySem.PyData.depthAll, PySem.PyData.depth, h1]
    refine ⟨by simp, by (first | lia | omega)⟩
omit O in
theorem pairs_shaped (ts : List (Int × Int)) : shaped (.list (ts.map prP)) = true := by
  obtain ⟨h1, h2⟩ := pairs_lay ts
  show (PySem.PyData.canLay0 (.list (ts.map prP)) && decide (PySem.PyData.depth (.list (ts.map prP)) ≤ 64)) = true
  rw [Bool.and_eq_true]
  exact ⟨by simp only [PySem.PyData.canLay0]; exact h1, decide_eq_true (by simp only [PySem.PyData.depth]; (first | lia | omega))⟩
omit O in
theorem pairs_eqv : ∀ ts us : List (Int × Int), PySem.PyData.eqvAll (ts.map prP) (us.map prP) = decide (ts = us)
  | [], [] => by simp [PySem.PyData.eqvAll]
  | [], _ :: _ => by simp [PySem.PyData.eqvAll]
  | _ :: _, [] => by simp [PySem.PyData.eqvAll]
  | t :: r, u :: q => by
    simp only [List.map_cons, PySem.PyData.eqvAll, PySem.PyData.eqv, pairs_eqv r q]
    obtain ⟨t1, t2⟩ := t
    obtain ⟨u1, u2⟩ := u
    by_cases h : t1 = u1 <;> by_cases h' : t2 = u2 <;> simp [h, h']
theorem cmp_ne_pairs (ts us : List (Int × Int)) : Op2 X k (compareOp .NotEq) (.lst (ts.map pr)) (.lst (us.map pr)) (.bool (!decide (ts = us))) := fun A V s v1 v2 Q E hA S r1 r2 h => by
  obtain ⟨l, items, rfl, hl, rl⟩ := r1.lst_inv
  obtain ⟨b, items2, rfl, hb, rb⟩ := r2.lst_inv
  obtain ⟨o1, e1, c1, n1, d1⟩ := isList_keeps hl S.le
  obtain ⟨o2, e2, c2, n2, d2⟩ := isList_keeps hb S.le
  obtain ⟨as1, q1⟩ := rdl_pairs S.le rl
  obtain ⟨as2, q2⟩ := rdl_pairs S.le rb
  refine compareNe_shaped (PySem.Reads.list e1 c1 d1 q1) (PySem.Reads.list e2 c2 d2 q2) (pairs_shaped ts) (pairs_shaped us) (by have := hA.un; show A.units + 64 < 9900; (first | lia | omega)) ?_
  simp only [PySem.PyData.eqv, pairs_eqv]
  exact h _ _ V (Gr.refl S.le) (.bool _)
theorem cmp_isnot_none : Op2 X k (compareOp .IsNot) .none .none (.bool false) := fun A V s v1 v2 Q E hA S r1 r2 h => by
  obtain rfl := r1.none_inv
  obtain rfl := r2.none_inv
  exact wpAny_isNot_self rfl (h _ _ V (Gr.refl S.le) (.bool _))
theorem cmp_isnot_hit (i : Int) : Op2 X k (compareOp .IsNot) (.hit i) .none (.bool true) := fun A V s v1 v2 Q E hA S r1 r2 h => by
  obtain ⟨a, rfl, _⟩ := r1.hit_inv
  obtain rfl := r2.none_inv
  exact wpAny_isNot_other rfl (by simp) (h _ _ V (Gr.refl S.le) (.bool _))
end
end Mine
end
section
open PySem PySem.W PySem.Calls PyProof.Rows
namespace Mine
noncomputable def upL (m : Str → Option D) : List (Str × Pos) → List D → (Str → Option D)
  | (x, _) :: ns, d :: ds => upL (up m x d) ns ds
  | _, _ => m
theorem assignEach_names (env : Env) : ∀ ns : List (Str × Pos), assignEach (ns.map fun p => Expr.Name p.1 p.2) env = ns.map fun p => (false, assign (.Name p.1 p.2) env)
  | [] => rfl
  | p :: r => by
    rw [List.map_cons, List.map_cons, ← assignEach_names env r]
    rfl
section
variable {X : Fix} (O : X.Ok) {k : Nat} {sc : Scope} {m m' m'' : Str → Option D} {ow ow' ow'' : Ow}
include O
theorem draw_ok {V0 V : Heap} {s0 : Shared} {Ia : Addr} {xs : List D} {P : Nat → Obj → Prop} (I : It X V0 Ia xs P) {A : Around} {E : Value → Shared → Prop} (hA : A.handled = none) (h0 : s0.heap.get? Ia = none) (hv : V.get? Ia = none) (sub : Sub V0 V) :
    ∀ (n i : Nat) (s : Shared) (o : Obj) (Q : List Value → Shared → Prop), i + n ≤ xs.length → Gr X V s0 V s → s.heap.get? Ia = some o → P i o →
      (∀ vs s' o', Gr X V s0 V s' → s'.heap.get? Ia = some o' → P (i + n) o' → RdL X V0 ((xs.drop i).take n) vs → Q vs s') → wpAny (model X.prog X.w) A (draw (.ref Ia) n) Q E s
  | 0, i, s, o, Q, _, g, e, p, h => by
    unfold draw
    exact wpAny_pure (h [] s o g e p (by simpa using RdL.nil))
  | n + 1, i, s, o, Q, hi, g, e, p, h => by
    unfold draw
    have hd : xs[i]? = some xs[i] := by simp
    refine wpAny_bind (I.nxt A s i o xs[i] _ E hA (fun b o e => g.le b o (sub b o e)) e p hd fun v o' h' tk q1 q2 q3 rd => ?_)
    have g' : Gr X V s0 V { s with heap := h', toks := tk } := g.own O Ia h0 hv q3.extBut (fun o'' e' => by rw [e] at e'; cases e'; exact (I.q _ _ p).1)
    refine wpAny_bind (wpAny_holding (draw_ok I hA h0 hv sub n (i + 1) _ o' _ (by (first | lia | omega)) g' q1 q2 fun vs s' o2 g2 e2 p2 r2 => wpAny_pure ?_))
    refine h (v :: vs) s' o2 g2 e2 (by rw [show i + (n + 1) = i + 1 + n by (first | lia | omega)]; exact p2) ?_
    rw [List.drop_eq_getElem_cons (by (first | lia | omega)), List.take_succ_cons]
    exact .cons rd r2
theorem unpack_ok {A : Around} {V : Heap} {s : Shared} {d : D} {v : Value} {xs : List D} {n : Nat} {Q : List Value → Shared → Prop} {E : Value → Shared → Prop} (hA : A.handled = none) (S : St X V s) (hd : d = .lst xs ∨ d = .tup xs) (r : Rd X V d v) (hn : xs.length = n)
    (h : ∀ vs s', Gr X V s V s' → RdL X V xs vs → Q vs s') : wpAny (model X.prog X.w) A (unpackItems v n none) Q E s := by
  have hi : itemsOf d = some xs := by rcases hd with rfl | rfl <;> rfl
  unfold unpackItems
  refine wpAny_bind ?_
  have hni : ∀ (Q' : Bool → Shared → Prop), Q' false s → wpAny (model X.prog X.w) A (notIterableAtAll v) Q' E s := fun Q' hq => by
    unfold notIterableAtAll
    rcases hd with rfl | rfl
    · cases r with
      | lst hl _ => exact wpAny_bind (wpAny_specialOf (isList_keeps hl S.le).typeIs slot_list_iter.lookup (wpAny_pure hq))
    · cases r with
      | tup hl _ => exact wpAny_bind (wpAny_specialOf (isTuple_keeps hl S.le).typeIs F.slot_tuple_iter.lookup (wpAny_pure hq))
  refine hni _ ?_
  rw [if_neg Bool.false_ne_true]
  refine wpAny_bind (wpAny_holding (iter_ok hA S.le hi r fun oI P hf I hP => ?_))
  have nI : s.heap.get? s.heap.objs.size = none := get_size _
  have vI : V.get? s.heap.objs.size = none := by
    cases q : V.get? s.heap.objs.size with
    | none => rfl
    | some o => have := S.le _ _ q; rw [nI] at this; cases this
  have g := (Gr.refl (X := X) S.le).hid O oI
  refine wpAny_bind (wpAny_holding (draw_ok O I hA nI vI (fun _ _ e => e) n 0 _ oI _ (by (first | lia | omega)) g (Heap.get?_push_size _ hf) hP fun vs s' o' g' e' p' r' => ?_))
  have hvs : vs.length = n := by have := r'.length; simp at this; (first | lia | omega)
  rw [if_neg (by (first | lia | omega))]
  refine wpAny_bind (wpAny_holding (I.fin A s' o' _ E hA (fun b o e => g'.le b o e) e' (by rw [hn]; simpa using p') fun h' tk q => ?_))
  show wpAny _ _ (if false = true then _ else _) _ _ _
  rw [if_neg Bool.false_ne_true]
  refine wpAny_pure (h vs _ (g'.own O _ nI vI q fun o'' e'' => by rw [e'] at e''; cases e''; exact (I.q _ _ p').1) ?_)
  rw [List.drop_zero, List.take_of_length_le (by (first | lia | omega))] at r'
  exact r'
theorem stores_ok {env : Env} {A : Around} {V0 V : Heap} {s0 : Shared} {E : Value → Shared → Prop} : ∀ (ns : List (Str × Pos)) (m : Str → Option D) (s : Shared) (ds : List D) (vs : List Value) (Q : Unit → Shared → Prop), Fs X env V0 s0 m ow V s → RdL X V ds vs → ds.length = ns.length →
    (∀ p ∈ ns, env.kindOf p.1 = some .local ∨ env.kindOf p.1 = some .cell) → (∀ p ∈ ns, ∀ y l, ow = some (y, l) → p.1 ≠ y) → (∀ p ∈ ns, (p.1 == ("word" : Str)) = false) →
    (∀ s', Fs X env V0 s0 (upL m ns ds) ow V s' → Kd V s V s' → Q () s') → wpAny (model X.prog X.w) A (assignInOrder (ns.map fun p => assign (.Name p.1 p.2) env) vs) Q E s
  | [], m, s, ds, vs, Q, F, r, hl, _, _, _, h => by
    cases r with
    | nil => exact wpAny_pure (h s F .refl)
    | cons _ _ => cases hl
  | (x, p) :: ns, m, s, ds, vs, Q, F, r, hl, hk, hw, hse, h => by
    cases r with
    | nil => cases hl
    | cons r1 r2 =>
      rw [List.map_cons]
      unfold assignInOrder
      refine wpAny_bind (wpAny_holding (wpAny_assign_Name (store_ok O F r1 (hk (x, p) (.head _)) (hw (x, p) (.head _)) (fun h' tk F' k' => ?_) (hse (x, p) (.head _)))))
      exact stores_ok ns _ _ _ _ Q F' r2 (by simpa using hl) (fun q hq => hk q (.tail _ hq)) (fun q hq => hw q (.tail _ hq)) (fun q hq => hse q (.tail _ hq)) fun s' F2 k2 => h s' F2 (k'.trans k2)
theorem ex_unpack {elts : List Expr} {n : Nat} {tpos pos : Pos} {value : Expr} {d : D} {xs : List D} (ns : List (Str × Pos)) (he : elts = ns.map fun p => Expr.Name p.1 p.2) (h1 : Ev X k sc m value d) (hd : d = .lst xs ∨ d = .tup xs) (hl : xs.length = ns.length)
    (hk : ∀ p ∈ ns, sc.names.lookup p.1 = some .local ∨ sc.names.lookup p.1 = some .cell) (hw : ∀ p ∈ ns, ∀ y l, ow = some (y, l) → p.1 ≠ y)
    (hsw : ∀ env : Env, swapsWith value (some (.Tuple elts n tpos)) pos.line env = pure false := by intro _; rfl) (hss : ∀ env : Env, swappedStores [.Tuple elts n tpos] value env = pure none := by intro _; rfl) (hse : ns.all (fun p => !(p.1 == ("word" : Str))) = true := by rfl) :
    Ex X k sc m ow (exec (.Assign [.Tuple elts n tpos] value pos)) .next (upL m ns xs) ow := fun env A V0 s0 V s Q E hs hA F h => by
  rw [exec_Assign_arm]
  refine wpAny_bind (wpAny_standAt ?_)
  show wpAny _ _ (swapsWith value (some (.Tuple elts n tpos)) pos.line env >>= _) _ _ _
  rw [hsw env]
  refine wpAny_bind (wpAny_pure ?_)
  rw [if_neg Bool.false_ne_true]
  refine wpAny_bind (h1 env A V s _ E hs hA F.st F.lo fun v s1 V1 g1 r1 => ?_)
  rw [hss env]
  refine wpAny_bind (wpAny_pure ?_)
  show wpAny _ _ (assignAll v [assign (.Tuple elts n tpos) env] >>= fun _ => pure Flow.next) _ _ _
  refine wpAny_bind ?_
  show wpAny _ _ (standAt tpos >>= fun _ => unpack v (assignEach elts env)) _ _ _
  refine wpAny_bind (wpAny_standAt ?_)
  subst he
  rw [assignEach_names]
  unfold unpack
  have hf : (ns.map fun p => (false, assign (.Name p.1 p.2) env)).findIdx? (·.1) = none := by
    rw [List.findIdx?_eq_none_iff]
    intro x hx
    obtain ⟨p, _, rfl⟩ := List.mem_map.mp hx
    rfl
  rw [hf, List.length_map, List.map_map]
  have F1 := F.go O g1
  refine wpAny_bind (wpAny_holding (unpack_ok O hA.hd F1.st hd r1 hl fun vs s2 g2 r2 => ?_))
  have F2 := F1.go O g2
  refine stores_ok O ns m s2 xs vs _ F2 r2 hl (fun p hp => by unfold Env.kindOf; rw [hs]; exact hk p hp) hw (fun p hp => by simpa using List.all_eq_true.mp hse p hp) fun s3 F3 k3 => wpAny_pure (h .next V1 s3 F3 ((g1.trans g2).kd.trans k3) rfl)
end
end Mine
end
section
open PySem PySem.W PySem.Calls PyProof.Rows
namespace Mine
open Builtin Builtin.ObjectAttr
theorem sl_fn_ga : Slot "function" "__getattribute__" "object.__getattribute__" :=
  .of (owner := "object") (n := "__getattribute__") (by rw [typeLookup_type, builtinLookup_eq_fast]; kernel_rfl) (by decide +kernel) (by decide +kernel) (by decide +kernel)
    (by first | exact .inl (by decide +kernel) | exact .inr (by decide +kernel)) (by rw [isSubtype_type]; kernel_rfl)
theorem sl_fn_sa : Slot "function" "__setattr__" "object.__setattr__" :=
  .of (owner := "object") (n := "__setattr__") (by rw [typeLookup_type, builtinLookup_eq_fast]; kernel_rfl) (by decide +kernel) (by decide +kernel) (by decide +kernel)
    (by first | exact .inl (by decide +kernel) | exact .inr (by decide +kernel)) (by rw [isSubtype_type]; kernel_rfl)
theorem lk_fn_getattr : typeLookup (.type "function") "__getattr__" = pure none := by rw [typeLookup_type, builtinLookup_eq_fast]; kernel_rfl
theorem lk_fn_search : typeLookup (.type "function") "search" = pure none := by rw [typeLookup_type, builtinLookup_eq_fast]; kernel_rfl
theorem lk_fn_span : typeLookup (.type "function") "span" = pure none := by rw [typeLookup_type, builtinLookup_eq_fast]; kernel_rfl
theorem lk_fn_bool : typeLookup (.type "function") "__bool__" = pure none := by rw [typeLookup_type, builtinLookup_eq_fast]; kernel_rfl
theorem lk_fn_len : typeLookup (.type "function") "__len__" = pure none := by rw [typeLookup_type, builtinLookup_eq_fast]; kernel_rfl
theorem en_ga : entryFor table "object.__getattribute__" = some Builtin.«object.__getattribute__» := entryFor_of_tree (by kernel_rfl)
theorem ar_ga (a b : Value) : argsOk "object.__getattribute__" ⟨[a, b], []⟩ := by kernel_rfl
theorem mro_fn : mroOf (.type "function") = pure [.type "function", .type "object"] := by kernel_rfl
theorem refuse_fn (self : Value) : refuseLoop self "__setattr__" [.type "function", .type "object"] = pure () := by kernel_rfl
section
variable {prog : Program} {w : World} {A : Around} {E : Value → Shared → Prop} {s : Shared} {x dx : Addr} {o : Obj} {fd : FuncData} {name : Str} {mA : Str → Option Value} {v : Value}
theorem meets_ga_fn (name : Str) (hk : typeLookup (.type "function") name = pure none) (hnm : (["__module__", "__name__", "__qualname__", "__doc__", "__annotations__"] : List Str).contains name = false) (u : Tok) (v : Value) :
    Meets (Builtin.«object.__getattribute__» ⟨[.ref x, .str name u], []⟩) (fun A R s => ∃ o mA, s.heap.get? x = some o ∧ o.cls = .type "function" ∧ o.data = .func fd ∧ o.dict = some dx ∧ s.heap.Ns dx mA ∧ mA name = some v ∧ R (.ok (.ret v)) s) :=
  Meets.of_wp fun prog w A R s hs => by
    obtain ⟨o, mA, hx, hc, hd, hdx, hn, hv, hs⟩ := hs
    obtain ⟨hp, g, d, tk, os⟩ := s
    obtain ⟨c, dct, dat, sl⟩ := o
    simp only at hc hd hdx
    subst hc hd hdx
    have hT : (⟨hp, g, d, tk, os⟩ : Shared).TypeIs (.ref x) "function" := ⟨_, hx, rfl⟩
    unfold Builtin.«object.__getattribute__»
    repeat (first | assumption | (with_reducible refine wpAny_nsGet hn ?_; rw [hv]) | wp_step)
    exact ⟨v, rfl, hs⟩
theorem getAttr_fn {name : Str} {f : Addr} {Q : Value → Shared → Prop} (hk : typeLookup (.type "function") name = pure none) (hnm : (["__module__", "__name__", "__qualname__", "__doc__", "__annotations__"] : List Str).contains name = false)
    (hx : s.heap.get? x = some o) (hc : o.cls = .type "function") (hd : o.data = .func fd) (hdx : o.dict = some dx) (hn : s.heap.Ns dx mA) (hv : mA name = some (.ref f)) (h : Q (.ref f) { s with toks := s.toks + 1 }) :
    wpAny (model prog w) A (getAttr (.ref x) name) Q E s := by
  obtain ⟨hp, g, d, tk, os⟩ := s
  obtain ⟨c, dct, dat, sl⟩ := o
  simp only at hc hd hdx
  subst hc hd hdx
  have hT : ∀ tk', (⟨hp, g, d, tk', os⟩ : Shared).TypeIs (.ref x) "function" := fun _ => ⟨_, hx, rfl⟩
  have f3 := sl_fn_ga.lookup
  have f4 := sl_fn_ga.bind (.ref x)
  have f5 := lk_fn_getattr
  unfold getAttr getAttrBy
  repeat (any_goals (first | assumption | exact hT _ | ((with_reducible show wpAny _ _ (call (Value.builtin "object.__getattribute__") _ _) _ _ _); refine call_meets sl_fn_ga (hT _) en_ga (ar_ga _ _) (meets_ga_fn (fd := fd) (dx := dx) name hk hnm _ (.ref f)) ⟨_, mA, hx, rfl, rfl, rfl, hn, hv, ?_⟩) | wp_step))
  exact wpAny_pure h
theorem getMethod_fn {name : Str} {f : Addr} {pl : Sem Bool} {Q : Value × List Value → Shared → Prop} (hk : typeLookup (.type "function") name = pure none) (hnm : (["__module__", "__name__", "__qualname__", "__doc__", "__annotations__"] : List Str).contains name = false)
    (hx : s.heap.get? x = some o) (hc : o.cls = .type "function") (hd : o.data = .func fd) (hdx : o.dict = some dx) (hn : s.heap.Ns dx mA) (hv : mA name = some (.ref f)) (h : Q (.ref f, []) { s with toks := s.toks + 1 }) :
    wpAny (model prog w) A (getMethod (.ref x) name pl) Q E s := by
  obtain ⟨hp, g, d, tk, os⟩ := s
  obtain ⟨c, dct, dat, sl⟩ := o
  simp only at hc hd hdx
  subst hc hd hdx
  have hT : ∀ tk', (⟨hp, g, d, tk', os⟩ : Shared).TypeIs (.ref x) "function" := fun _ => ⟨_, hx, rfl⟩
  have f3 := sl_fn_ga.lookup
  have f5 := lk_fn_getattr
  have hcan := PySem.F.canon_object_ga
  unfold getMethod specialOf
  refine wpAny_bind (wpAny_bind (wpAny_typeOf (hT _) ?_))
  rw [f3]
  refine wpAny_pure ?_
  dsimp only
  rw [hcan, if_neg Bool.false_ne_true]
  refine wpAny_bind (wpAny_bind (wpAny_typeOf (hT _) ?_))
  rw [f5]
  refine wpAny_pure ?_
  rw [if_neg (by simp)]
  refine wpAny_bind (wpAny_bind (wpAny_typeOf (hT _) ?_))
  rw [hk]
  refine wpAny_pure ?_
  exact wpAny_bind (getAttr_fn hk hnm hx rfl rfl rfl hn hv (wpAny_pure h))
theorem truthy_fn {Q : Bool → Shared → Prop} (hx : s.heap.get? x = some o) (hc : o.cls = .type "function") (h : Q true s) : wpAny (model prog w) A (truthy (.ref x)) Q E s := by
  obtain ⟨c, dct, dat, sl⟩ := o
  simp only at hc
  subst hc
  have hT : s.TypeIs (.ref x) "function" := ⟨_, hx, rfl⟩
  have f1 := lk_fn_bool
  have f2 := lk_fn_len
  unfold truthy callSpecial? specialOf
  repeat (any_goals (first | assumption | wp_step))
theorem osa_fn {name : Str} {tk : Tok} {Q : Fin → Shared → Prop} {h : Heap} {g : Array GenState} {d : Drawn} {t : Nat} {os : OsState} (hk : typeLookup (.type "function") name = pure none)
    (hx : h.get? x = some o) (hc : o.cls = .type "function") (hd : o.data = .func fd) (hdn : o.dict = none)
    (hq : ∀ h' tk', h'.get? x = some { o with dict := some h.objs.size } → h'.Ns h.objs.size (fun y => if y = name then some v else none) → (∀ b ob, b ≠ x → h.get? b = some ob → h'.get? b = some ob) → Q (.done (.ret .none)) ⟨h', g, d, tk', os⟩) :
    wpAny (model prog w) A (Builtin.«object.__setattr__» ⟨[.ref x, .str name tk, v], []⟩) Q E ⟨h, g, d, t, os⟩ := by
  have hT : (⟨h, g, d, t, os⟩ : Shared).TypeIs (.ref x) "function" := ⟨_, hx, hc⟩
  have hxs : x ≠ h.objs.size := Nat.ne_of_lt (Heap.lt_size hx)
  have hx₁ : (h.push { cls := .type "dict", data := .dict #[] }).get? x = some o := Heap.get?_push_of_some _ hx
  rw [osa_eq, refuse_eq]
  refine wpAny_bind (wpAny_bind (wpAny_typeOf hT ?_))
  rw [mro_fn]
  refine wpAny_bind (wpAny_pure ?_)
  rw [refuse_fn]
  refine wpAny_pure (wpAny_bind (wpAny_typeOf hT ?_))
  rw [hk]
  refine wpAny_bind (wpAny_pure ?_)
  rw [show storeTaker? none = pure none from rfl]
  refine wpAny_bind (wpAny_pure ?_)
  show wpAny _ _ (storeInOwnDict (.ref x) (.type "function") (.str name tk) name v false) _ _ _
  unfold storeInOwnDict
  rw [show ownStreamTells (.ref x) (.type "function") = pure () from rfl]
  refine wpAny_bind (wpAny_pure ?_)
  rw [if_neg (by decide)]
  refine wpAny_bind (m := ownDictForStores (.ref x)) ?_
  show wpAny _ _ (instanceDict x true) _ _ _
  unfold instanceDict
  refine wpAny_bind (wpAny_loadPart_at hx ?_)
  obtain ⟨c, dct, dat, sl⟩ := o
  simp only at hc hd hdn
  subst hc hd hdn
  dsimp only
  rw [if_neg (by rw [show typeHasDict (.type "function") = true from by decide +kernel]; decide)]
  refine wpAny_bind (wpAny_alloc' (wpAny_bind (wpAny_update' hx₁ ?_)))
  unfold dictMade
  refine wpAny_pure ?_
  have hgd : ((h.push { cls := .type "dict", data := .dict #[] }).update x fun o => { cls := o.cls, dict := some h.objs.size, data := o.data, slots := o.slots }).get? h.objs.size
      = some { cls := .type "dict", data := .dict #[] } := (Heap.get?_update_ne _ _ _ _ hxs.symm).trans (Heap.get?_push_at rfl rfl)
  have hnd : ((h.push { cls := .type "dict", data := .dict #[] }).update x fun o => { cls := o.cls, dict := some h.objs.size, data := o.data, slots := o.slots }).Ns h.objs.size (fun _ => none) :=
    ⟨_, #[], _, hgd, rfl, fun e he => absurd he (by simp), fun _ => rfl⟩
  show wpAny _ _ (storeInDict h.objs.size (.str name tk) name v) _ _ _
  unfold storeInDict newKeyGuard
  refine wpAny_bind (wpAny_pure (wpAny_bind (wpAny_nsSet1 (Heap.Ns1.of_empty hnd) fun h' hn' hs => ?_)))
  obtain ⟨oD, esD, epD, hoD, hdD, hcD⟩ := hn'.count (Within.cons name v Within.nil)
  refine wpAny_bind (wpAny_lookBehind hoD (by rw [hdD]; exact pastItsLine_dict (Nat.le_trans hcD (by rw [List.length_cons, List.length_nil, sizeLine_eq]; (first | lia | omega)))) ?_)
  refine wpAny_pure ?_
  refine hq h' _ ((hs.2 x hxs).trans (Heap.get?_update_self _ hx₁ ?_)) hn'.ns fun b ob hbx hb => ?_
  · rfl
  · exact (hs.2 b (Nat.ne_of_lt (Heap.lt_size hb))).trans ((Heap.get?_update_ne _ _ _ _ hbx).trans (Heap.get?_push_of_some _ hb))
theorem setAttr_fn {name : Str} {Q : Unit → Shared → Prop} (hk : typeLookup (.type "function") name = pure none)
    (hx : s.heap.get? x = some o) (hc : o.cls = .type "function") (hd : o.data = .func fd) (hdx : o.dict = none)
    (h : ∀ h' tk, h'.get? x = some { o with dict := some s.heap.objs.size } → h'.Ns s.heap.objs.size (fun y => if y = name then some v else none) → (∀ b ob, b ≠ x → s.heap.get? b = some ob → h'.get? b = some ob) → Q () { s with heap := h', toks := tk }) :
    wpAny (model prog w) A (setAttr (.ref x) name v) Q E s := by
  obtain ⟨hp, g, d, t, os⟩ := s
  have hT : ∀ tk', (⟨hp, g, d, tk', os⟩ : Shared).TypeIs (.ref x) "function" := fun _ => ⟨_, hx, hc⟩
  have f3 := sl_fn_sa.lookup
  have f4 := sl_fn_sa.bind (.ref x)
  unfold setAttr callSpecial? specialOf
  refine wpAny_bind (wpAny_mkText (wpAny_bind (wpAny_bind (wpAny_bind (wpAny_typeOf (hT _) ?_)))))
  rw [f3]
  refine wpAny_pure (wpAny_holding ?_)
  rw [f4]
  refine wpAny_bind (wpAny_pure (wpAny_bind (wpAny_call ?_)))
  refine codeAny_call_builtin sl_fn_sa.plain PySem.F.store_object.entry (sl_fn_sa.check _ _ _ _ _ _ _ _ (hT _) (PySem.F.store_object.args (.ref x) _ v) ?_)
  show wpAny _ _ (Builtin.«object.__setattr__» ⟨[.ref x, .str name t, v], []⟩) _ _ _
  exact osa_fn hk hx hc hd hdx fun h' tk' q1 q2 q3 => wpAny_pure (wpAny_pure (h h' tk' q1 q2 q3))
end
end Mine
end
section
open PySem PySem.W PySem.Calls PyProof.Rows
namespace Mine
/-- a code object of that name -/
noncomputable def CodeK (h : Heap) (c : Addr) (q : Str) : Prop := ∃ o vs t, h.get? c = some o ∧ o.cls = .type "code" ∧ o.data = .fields vs ∧ vs[1]? = some (.str q t)
theorem loud_code {o : Obj} {vs : Array Value} (hc : o.cls = .type "code") (hd : o.data = .fields vs) : ¬ quiet o := fun h => by
  rcases h with h | h
  · exact h vs hd
  · exact h.2 hc
theorem loud_tab {vs : Array Value} : ¬ quiet (tab vs) := fun h => by
  rcases h with h | h
  · exact h vs rfl
  · exact h.1 rfl
theorem CodeK.loud {h h' : Heap} {c : Addr} {q : Str} (x : CodeK h c q) (k : ∀ b o, h.get? b = some o → ¬ quiet o → h'.get? b = some o) : CodeK h' c q :=
  let ⟨o, vs, t, e, hc, hd, hv⟩ := x; ⟨o, vs, t, k _ _ e (loud_code hc hd), hc, hd, hv⟩
theorem CodeK.ext {h h' : Heap} {c P : Addr} {q : Str} {ps : Array Value} (x : CodeK h c q) (hP : h.get? P = some (tab ps)) (k : Heap.ExtBut P h h') : CodeK h' c q :=
  let ⟨o, vs, t, e, hc, hd, hv⟩ := x; ⟨o, vs, t, k _ _ (fun z => by rw [z, hP] at e; cases e; cases hc) e, hc, hd, hv⟩
theorem CodeK.rec {h : Heap} {c : Addr} {q : Str} (x : CodeK h c q) : h.CodeRec (.ref c) q := let ⟨o, vs, t, e, hc, hd, hv⟩ := x; ⟨c, o, vs, t, rfl, e, hd, hv⟩
theorem codeHd_loud {h h' : Heap} {c P : Addr} (x : CodeHd h c P) (k : ∀ b o, h.get? b = some o → ¬ quiet o → h'.get? b = some o) : CodeHd h' c P :=
  let ⟨o, vs, file, tf, flags, tg, inF, text, tt, e, hc, hd, r⟩ := x; ⟨o, vs, file, tf, flags, tg, inF, text, tt, k _ _ e (loud_code hc hd), hc, hd, r⟩
theorem codeHd_ext {h h' : Heap} {c P P' : Addr} {ps : Array Value} (x : CodeHd h c P') (hP : h.get? P = some (tab ps)) (k : Heap.ExtBut P h h') : CodeHd h' c P' :=
  let ⟨o, vs, file, tf, flags, tg, inF, text, tt, e, hc, hd, r⟩ := x; ⟨o, vs, file, tf, flags, tg, inF, text, tt, k _ _ (fun z => by rw [z, hP] at e; cases e; cases hc) e, hc, hd, r⟩
/-- the makers: the code of the outer def, the places, the names of what is made -/
structure Cs where
  c0 : Addr
  pS : Pos
  pP : Pos
  pH : Pos
  pN : Pos
  qS : Str
  qP : Str
  qH : Str
  qN : Str
noncomputable def Leaf (V : Heap) (ps : Array Value) (p : Pos) (q : Str) : Prop := ∀ cv, codeAmong p ps.toList = some cv → ∃ c, cv = .ref c ∧ CodeK V c q
noncomputable def In1 (h0 : Heap) (K : Cs) (V h : Heap) (c : Addr) : Prop := ∃ P ps, CodeHd h c P ∧ h.get? P = some (tab ps) ∧ TriplesOk ps.toList ∧ h0.get? P = none ∧ Leaf V ps K.pH K.qH ∧ Leaf V ps K.pN K.qN
noncomputable def In0 (h0 : Heap) (P0 : Addr) (K : Cs) (V h : Heap) : Prop := ∃ ps, CodeHd h K.c0 P0 ∧ h.get? P0 = some (tab ps) ∧ TriplesOk ps.toList ∧ Leaf V ps K.pP K.qP ∧
  ∀ cv, codeAmong K.pS ps.toList = some cv → ∃ c, cv = .ref c ∧ CodeK V c K.qS ∧ h0.get? c = none
noncomputable def mkI (h0 : Heap) (P0 : Addr) (K : Cs) (V h : Heap) : Prop := In0 h0 P0 K V h ∧ ∀ c, CodeK V c K.qS → h0.get? c = none → In1 h0 K V h c
theorem CodeK.sub {h h' : Heap} {c : Addr} {q : Str} (x : CodeK h c q) (k : Sub h h') : CodeK h' c q := x.loud fun b o e _ => k b o e
theorem Leaf.sub {V V' : Heap} {ps : Array Value} {p : Pos} {q : Str} (x : Leaf V ps p q) (k : Sub V V') : Leaf V' ps p q := fun cv e => let ⟨c, e1, e2⟩ := x cv e; ⟨c, e1, e2.sub k⟩
theorem In1.loud {h0 V V' h h' : Heap} {K : Cs} {c : Addr} (x : In1 h0 K V h c) (kv : Sub V V') (k : ∀ b o, h.get? b = some o → ¬ quiet o → h'.get? b = some o) : In1 h0 K V' h' c :=
  let ⟨P, ps, a, b, t, n, l1, l2⟩ := x; ⟨P, ps, codeHd_loud a k, k _ _ b loud_tab, t, n, l1.sub kv, l2.sub kv⟩
theorem mkI.loud {h0 : Heap} {P0 : Addr} {K : Cs} {V V' h h' : Heap} (x : mkI h0 P0 K V h) (kv : Sub V V') (k : ∀ b o, h.get? b = some o → ¬ quiet o → h'.get? b = some o) (nv : ∀ b o, V'.get? b = some o → ¬ quiet o → V.get? b = some o) : mkI h0 P0 K V' h' := by
  obtain ⟨⟨ps, a, b, t, l, f⟩, g⟩ := x
  refine ⟨⟨ps, codeHd_loud a k, k _ _ b loud_tab, t, l.sub kv, fun cv e => ?_⟩, fun c hc hn => (g c (hc.loud nv) hn).loud kv k⟩
  obtain ⟨c, e1, e2, e3⟩ := f cv e
  exact ⟨c, e1, e2.sub kv, e3⟩
theorem codeAmong_snoc_ne {q pos : Pos} {c : Value} (hne : ¬ (pos.line = q.line ∧ pos.col = q.col)) (l : List Value) (h : TriplesOk l) : codeAmong q (l ++ [rawInt pos.line, rawInt pos.col, c]) = codeAmong q l := by
  fun_induction TriplesOk l with
  | case1 =>
    simp only [List.nil_append, codeAmong, rawInt]
    rw [if_neg]
    simp only [Bool.and_eq_true, beq_iff_eq, Int.natCast_inj]
    exact hne
  | case2 a t b u x rest ih =>
    simp only [List.cons_append, codeAmong]
    rw [ih h]
  | case3 l h1 h2 => exact h.elim
theorem Leaf.snoc {h : Heap} {ps : Array Value} {p pos : Pos} {q : Str} {c : Addr} (x : Leaf h ps p q) (ht : TriplesOk ps.toList) (hc : pos.line = p.line ∧ pos.col = p.col → CodeK h c q) (hnf : codeAmong pos ps.toList = none) : Leaf h (ps ++ #[rawInt pos.line, rawInt pos.col, .ref c]) p q := fun cv e => by
  have hl : (ps ++ #[rawInt pos.line, rawInt pos.col, Value.ref c]).toList = ps.toList ++ [rawInt pos.line, rawInt pos.col, .ref c] := by simp
  rw [hl] at e
  by_cases hp : pos.line = p.line ∧ pos.col = p.col
  · have e2 : codeAmong p (ps.toList ++ [rawInt pos.line, rawInt pos.col, .ref c]) = some (.ref c) := by
      have := codeAmong_snoc (pos := p) (c := .ref c) ps.toList ht (by
        rw [← hnf]
        clear e hl hnf x
        generalize ps.toList = l at ht ⊢
        fun_induction TriplesOk l with
        | case1 => rfl
        | case2 a t b u x rest ih => simp only [codeAmong]; rw [ih ht, hp.1, hp.2]
        | case3 l h1 h2 => exact ht.elim)
      rw [hp.1, hp.2]; exact this
    rw [e2] at e; cases e
    exact ⟨c, rfl, hc hp⟩
  · rw [codeAmong_snoc_ne hp _ ht] at e
    exact x cv e
theorem triples_snoc {ps : Array Value} {a b : Nat} {c : Value} (ht : TriplesOk ps.toList) : TriplesOk (ps ++ #[rawInt a, rawInt b, c]).toList := by
  have hl : (ps ++ #[rawInt a, rawInt b, c]).toList = ps.toList ++ [rawInt a, rawInt b, c] := by simp
  rw [hl]; exact TriplesOk_snoc _ _ _ _ ht
/-- a function object as makeFunction makes it -/
noncomputable abbrev fnm (name qual : Str) (params : Arguments) (body : FuncBody) (scope : Scope) (clos : List (Str × Addr)) (dV pm cdv ct : Value) : FuncData :=
  { name, qualname := qual, params, body, scope, globals := mainGlobals, closure := clos, defaults := dV, kwdefaults := .none, doc := .none, pyModule := pm, annotations := none, code := cdv, closureTuple := ct, builtins := builtinsNs }
section
variable {M : Model} {A : Around} {E : Value → Shared → Prop} {s : Shared} {name qual : Str} {params : Arguments} {body : FuncBody} {scope : Scope} {env : Env} {c P : Addr} {ps : Array Value} {pos : Pos} {firstLine : Nat} {mg : Str → Option Value}
  {clos : List (Str × Addr)} {Q : Value → Shared → Prop} {dV : Value}
theorem made (hdoc : (match body with | .stmts b => docOf b | .expr _ => none) = none) (hcl : closureFor scope env = pure clos) (hge0 : env.globals = mainGlobals) (hg : s.heap.Ns mainGlobals mg) (hcode : env.code = .ref c) (C : CodeHd s.heap c P) (hP : s.heap.get? P = some (tab ps)) (ht : TriplesOk ps.toList)
    (hgP : mainGlobals ≠ P) (hb : s.heap.BuiltinsAt mg P)
    (hit : ∀ cv ctv h' tk, codeAmong pos ps.toList = some cv → Sub s.heap h' → s.heap.objs.size ≤ h'.objs.size →
      Q (.ref h'.objs.size) { s with heap := h'.push { cls := .type "function", data := .func (fnm name qual params body scope clos dV ((mg "__name__").getD .none) cv ctv) }, toks := tk })
    (new : ∀ c' P' ctv h' tk, codeAmong pos ps.toList = none → Heap.ExtBut P s.heap h' → s.heap.objs.size ≤ c' → s.heap.objs.size ≤ P' → CodeHd h' c' P' → h'.get? P' = some (tab #[]) → h'.CodeRec (.ref c') qual → h'.get? P = some (tab (ps ++ #[rawInt pos.line, rawInt pos.col, .ref c'])) → c' < h'.objs.size →
      Q (.ref h'.objs.size) { s with heap := h'.push { cls := .type "function", data := .func (fnm name qual params body scope clos dV ((mg "__name__").getD .none) (.ref c') ctv) }, toks := tk }) :
    wpAny M A (makeTail name qual params body scope env dV .none none pos firstLine) Q E s := by
  obtain ⟨bm, ob, hbm, hne0, _, hneP, hbo, hcls, hdict, hdata⟩ := hb
  unfold makeTail
  rw [hcl, hge0]
  refine wpAny_bind (wpAny_pure ?_)
  have key : ∀ (ctv : Value) (h1 : Heap), Sub s.heap h1 → s.heap.objs.size ≤ h1.objs.size →
      wpAny M A (do
        let fd : FuncData := { name, qualname := qual, params, body, scope, globals := mainGlobals, closure := clos, closureTuple := ctv, code := (← functionCode env pos firstLine name qual params scope body), builtins := (← builtinsFor mainGlobals env.builtins), defaults := dV, kwdefaults := .none, annotations := none, pyModule := (← nsGet mainGlobals "__name__").getD .none, doc := (← match body with | .stmts b => (match docOf b with | some s => mkText s | none => pure .none) | .expr _ => pure .none) }
        newObj (.type "function") (.func fd)) Q E { s with heap := h1 } := fun ctv h1 k1 z1 => by
    have C1 := C.keeps k1
    have hP1 := k1 _ _ hP
    cases hf : codeAmong pos ps.toList with
    | some cv =>
      refine wpAny_bind (wpAny_functionCode_hit hcode (C1.code hP1 ht) hf ?_)
      refine wpAny_bind (wpAny_builtinsFor (hg.keeps k1) hbm hne0 (k1 _ _ hbo) hcls hdict hdata ?_)
      refine wpAny_bind (wpAny_nsGet (hg.keeps k1) ?_)
      cases body with
      | stmts b => dsimp only at hdoc ⊢; rw [hdoc]; exact wpAny_bind (wpAny_pure (wpAny_newObj_type (hit cv ctv h1 s.toks hf k1 z1) (by size_fits)))
      | expr e => exact wpAny_bind (wpAny_pure (wpAny_newObj_type (hit cv ctv h1 s.toks hf k1 z1) (by size_fits)))
    | none =>
      refine wpAny_bind (wpAny_functionCodeX hcode (C1.code hP1 ht) (C1.tab hP1) hf fun c' h' tk hx hge hlt _ hrec htb ⟨P', hP', i1, i2⟩ => ?_)
      have hg' := (hg.keeps k1).extBut hx hgP
      refine wpAny_bind (wpAny_builtinsFor hg' hbm hne0 (hx _ _ hneP (k1 _ _ hbo)) hcls hdict hdata ?_)
      refine wpAny_bind (wpAny_nsGet hg' ?_)
      have new' := new c' P' ctv h' tk hf (fun b o hb e => hx b o hb (k1 b o e)) (Nat.le_trans z1 hge) (Nat.le_trans z1 hP') (CodeHd.of i1 i2) i2.2 hrec htb.2 hlt
      cases body with
      | stmts b => dsimp only at hdoc ⊢; rw [hdoc]; exact wpAny_bind (wpAny_pure (wpAny_newObj_type new' (by size_fits)))
      | expr e => exact wpAny_bind (wpAny_pure (wpAny_newObj_type new' (by size_fits)))
  cases clos with
  | nil =>
    simp only [List.isEmpty_nil, if_true]
    exact wpAny_bind (wpAny_pure (key .none s.heap (fun _ _ e => e) (Nat.le_refl _)))
  | cons q r =>
    simp only [List.isEmpty_cons, Bool.false_eq_true, if_false]
    exact wpAny_bind (wpAny_newTextTuple (key _ _ (fun b o e => Heap.get?_push_of_some _ e) (by rw [Heap.size_push]; exact Nat.le_succ _)))
end
end Mine
end
section
open PySem PySem.W PySem.Calls PyProof.Rows
namespace Mine
structure Ok2 (X : Fix) (K : Cs) : Prop where
  I : X.I = mkI X.h0 X.P0 K
  b0 : X.base.get? X.P0 = none
  b1 : ∀ b o, X.base.get? b = some o → ∃ o', X.h0.get? b = some o'
  p0 : ∃ o, X.h0.get? X.P0 = some o
  dP : ¬ (K.pP.line = K.pS.line ∧ K.pP.col = K.pS.col)
  dN : ¬ (K.pH.line = K.pN.line ∧ K.pH.col = K.pN.col)
  qP : K.qP ≠ K.qS
  qH : K.qH ≠ K.qS
  qN : K.qN ≠ K.qS
section
variable {X : Fix} (O : X.Ok) {K : Cs} (O2 : Ok2 X K) {A : Around} {E : Value → Shared → Prop} {V : Heap} {s : Shared} {name qual : Str} {params : Arguments} {body : FuncBody} {scope : Scope} {env : Env} {c P : Addr} {ps : Array Value} {pos : Pos} {firstLine : Nat}
  {clos : List (Str × Addr)} {Q : Value → Shared → Prop} {dV : Value}
include O
theorem grown {more : Array Value} {h' : Heap} {fo : Obj} {tk : Nat} {c' P' : Addr} (S : St X V s) (hP : s.heap.get? P = some (tab ps)) (hV : V.get? P = none) (hc : P = X.P0 ∨ X.h0.get? P = none) (hx : Heap.ExtBut P s.heap h') (hP' : h'.get? P = some (tab (ps ++ more)))
    (C' : CodeHd h' c' P') (z : s.heap.get? c' = none)
    (iv : ∀ V', Sub V V' → (∀ q, CodeK h' c' q → CodeK V' c' q) → (∀ b o, V'.get? b = some o → b = c' ∨ V.get? b = some o) → X.I V s.heap → X.I V' h') :
    ∃ V', Gr X V s V' { s with heap := h'.push fo, toks := tk } ∧ (∀ q, CodeK h' c' q → CodeK V' c' q) ∧ ∀ b o, V'.get? b = some o → b = c' ∨ V.get? b = some o := by
  have le : Sub V (h'.push fo) := fun b o e => Heap.get?_push_of_some _ (hx b o (fun z => by rw [z, hV] at e; cases e) (S.le b o e))
  obtain ⟨oc, vs, file, tf, flags, tg, inF, text, tt, e1, e2, e3, _⟩ := C'
  have e1' : (h'.push fo).get? c' = some oc := Heap.get?_push_of_some _ e1
  let V' := restr (h'.push fo) fun b => b == c' || (V.get? b).isSome
  have k1 : Sub V V' := fun b o e => by show (restr _ _).get? b = _; rw [restr_get, e]; simp; exact le b o e
  have k2 : Sub V' (h'.push fo) := fun b o e => by
    replace e : (restr _ _).get? b = _ := e
    rw [restr_get] at e
    split at e
    · exact e
    · cases e
  have k3 : V'.get? c' = some oc := by show (restr _ _).get? c' = _; rw [restr_get]; simpa using e1'
  have k4 : ∀ b o, V'.get? b = some o → b = c' ∨ V.get? b = some o := fun b o e => by
    have e' := k2 b o e
    replace e : (restr _ _).get? b = _ := e
    rw [restr_get] at e
    split at e
    · rename_i p
      rcases (Bool.or_eq_true _ _).mp p with p | p
      · exact .inl (beq_iff_eq.mp p)
      · obtain ⟨o', q⟩ := Option.isSome_iff_exists.mp p
        have := le b o' q
        rw [e'] at this; cases this
        exact .inr q
    · cases e
  have k5 : ∀ q, CodeK h' c' q → CodeK V' c' q := fun q ⟨o, vs', t, f1, f2⟩ => by
    rw [e1] at f1; cases f1
    exact ⟨oc, vs', t, k3, f2⟩
  refine ⟨V', ⟨k1, k2, fun b o e => ?_, fun b o e n => ?_, fun b vs e => ?_, fun i => O.I _ _ _ _ (iv V' k1 k5 k4 i) (fun _ _ e => e) (fun b o e _ => Heap.get?_push_of_some _ e) (fun _ _ e _ => e), rfl, rfl, fun b vs e => ?_⟩, k5, k4⟩
  · rcases k4 b o e with rfl | q
    · exact .inr z
    · exact .inl q
  · exact Heap.get?_push_of_some _ (hx b o (fun z => by rw [z, hP] at e; cases e; exact n _ rfl) e)
  · by_cases hb : b = P
    · subst hb
      rw [hP] at e; cases e
      refine ⟨more, Heap.get?_push_of_some _ hP', fun n k => ?_⟩
      rcases hc with hc | hc
      · exact absurd hc n
      · rw [hc] at k; cases k
    · exact ⟨#[], by simpa using Heap.get?_push_of_some fo (hx b _ hb e), fun _ _ => rfl⟩
  · rcases k4 b _ e with rfl | q
    · rw [k3] at e; cases e; cases e2
    · exact q
include O2
theorem hidden (S : St X V s) (hP : s.heap.get? P = some (tab ps)) (hc : P = X.P0 ∨ X.h0.get? P = none) : V.get? P = none := by
  cases q : V.get? P with
  | none => rfl
  | some o =>
    have e := S.le _ _ q
    rw [hP] at e; cases e
    have e2 := S.nt _ _ q
    rcases hc with hc | hc
    · rw [hc, O2.b0] at e2; cases e2
    · obtain ⟨o', e3⟩ := O2.b1 _ _ e2
      rw [hc] at e3; cases e3
omit O2 in
theorem ground (S : St X V s) (hP : s.heap.get? P = some (tab ps)) : s.heap.Ns mainGlobals X.mg ∧ mainGlobals ≠ P ∧ s.heap.BuiltinsAt X.mg P := by
  have hg := O.g.keeps S.bh
  obtain ⟨bm, ob, b1, b2, b3, b4, b5, b6⟩ := O.bm
  have hgP : mainGlobals ≠ P := fun q => by
    obtain ⟨o, es, ep, e, hd, _⟩ := hg
    rw [q, hP] at e; cases e; cases hd
  have hbG : bm ≠ mainGlobals := fun q => by
    obtain ⟨o, es, ep, e, hd, _⟩ := O.g
    rw [q, e] at b3; cases b3; rw [hd] at b6; cases b6
  have hbP : bm ≠ P := fun q => by
    have e := S.bh _ _ b3
    rw [q, hP] at e; cases e; cases b4
  exact ⟨hg, hgP, bm, ob, b1, b2, hbG, hbP, S.bh _ _ b3, b4, b5, b6⟩
omit O O2 in
theorem fresh_h0 (S : St X V s) {b : Addr} (h : s.heap.objs.size ≤ b) : X.h0.get? b = none := by
  cases q : X.h0.get? b with
  | none => rfl
  | some o => obtain ⟨o', e⟩ := S.n0 _ _ q; exact absurd (Heap.lt_size e) (Nat.not_lt.mpr h)
omit O O2 in
theorem fresh_s {b : Addr} (h : s.heap.objs.size ≤ b) : s.heap.get? b = none := by
  cases q : s.heap.get? b with
  | none => rfl
  | some o => exact absurd (Heap.lt_size q) (Nat.not_lt.mpr h)
omit O O2 in
theorem codeK_of {h : Heap} {c P : Addr} {q : Str} (C : CodeHd h c P) (R : h.CodeRec (.ref c) q) : CodeK h c q := by
  obtain ⟨o, vs, file, tf, flags, tg, inF, text, tt, e, hc, hd, _⟩ := C
  obtain ⟨c2, o2, vs2, t2, e2, g2, d2, v2⟩ := R
  cases e2
  rw [e] at g2; cases g2
  rw [hd] at d2; cases d2
  exact ⟨o, vs, t2, e, hc, hd, v2⟩
omit O O2 in
theorem vfresh (S : St X V s) {b : Addr} (h : s.heap.objs.size ≤ b) : V.get? b = none := by
  cases q : V.get? b with
  | none => rfl
  | some o => exact absurd (Heap.lt_size (S.le _ _ q)) (Nat.not_lt.mpr h)
omit O O2 in
theorem vnew {V' : Heap} {c' b : Addr} (nv : ∀ b o, V'.get? b = some o → b = c' ∨ V.get? b = some o) (h : V.get? b = none) (hl : c' < b) : V'.get? b = none := by
  cases q : V'.get? b with
  | none => rfl
  | some o =>
    rcases nv _ _ q with e | e
    · exact absurd (e ▸ hl) (Nat.lt_irrefl _)
    · rw [h] at e; cases e
omit O O2 in
theorem In1.step {h0 V V' h h' : Heap} {c cn : Addr} (x : In1 h0 K V h c) (kv : Sub V V') (hP : h.get? P = some (tab ps)) (hx : Heap.ExtBut P h h') (hP' : h'.get? P = some (tab (ps ++ #[rawInt pos.line, rawInt pos.col, .ref cn]))) (hnf : codeAmong pos ps.toList = none)
    (l1 : pos.line = K.pH.line ∧ pos.col = K.pH.col → CodeK V' cn K.qH) (l2 : pos.line = K.pN.line ∧ pos.col = K.pN.col → CodeK V' cn K.qN) : In1 h0 K V' h' c := by
  obtain ⟨P2, ps2, a, b, t, n, m1, m2⟩ := x
  by_cases hPP : P2 = P
  · subst hPP
    rw [hP] at b; cases b
    exact ⟨P2, _, codeHd_ext a hP hx, hP', triples_snoc t, n, (m1.sub kv).snoc t l1 hnf, (m2.sub kv).snoc t l2 hnf⟩
  · exact ⟨P2, ps2, codeHd_ext a hP hx, hx _ _ hPP b, t, n, m1.sub kv, m2.sub kv⟩
omit O O2 in
theorem In1.away {h0 V V' h h' : Heap} {c : Addr} (x : In1 h0 K V h c) (kv : Sub V V') (hP : h.get? P = some (tab ps)) (hx : Heap.ExtBut P h h') (hn : ∃ o, h0.get? P = some o) : In1 h0 K V' h' c := by
  obtain ⟨P2, ps2, a, b, t, n, m1, m2⟩ := x
  have hPP : P2 ≠ P := fun z => by obtain ⟨o, e⟩ := hn; rw [z] at n; rw [n] at e; cases e
  exact ⟨P2, ps2, codeHd_ext a hP hx, hx _ _ hPP b, t, n, m1.sub kv, m2.sub kv⟩
omit O O2 in
theorem CodeK.same {h : Heap} {c : Addr} {q q' : Str} (x : CodeK h c q) (y : CodeK h c q') : q = q' := by
  obtain ⟨o, vs, t, e, _, d, v⟩ := x
  obtain ⟨o', vs', t', e', _, d', v'⟩ := y
  rw [e] at e'; cases e'
  rw [d] at d'; cases d'
  rw [v] at v'; cases v'; rfl
/-- the lambda of the outer def -/
theorem mk_P (S : St X V s) (hpos : pos = K.pP) (hq : qual = K.qP) (hdoc : (match body with | .stmts b => docOf b | .expr _ => none) = none) (hcl : closureFor scope env = pure clos) (hge0 : env.globals = mainGlobals) (hcode : env.code = .ref K.c0)
    (h : ∀ f c' ctv h' tk V', Gr X V s V' { s with heap := h', toks := tk } → s.heap.get? f = none → V'.get? f = none → h'.get? f = some { cls := .type "function", data := .func (fnm name qual params body scope clos dV ((X.mg "__name__").getD .none) (.ref c') ctv) } → Q (.ref f) { s with heap := h', toks := tk }) :
    wpAny (model X.prog X.w) A (makeTail name qual params body scope env dV .none none pos firstLine) Q E s := by
  have iv := S.iv
  rw [O2.I] at iv
  obtain ⟨⟨ps, C, hP, ht, lf, ls⟩, g⟩ := iv
  obtain ⟨hg, hgP, hb⟩ := ground O S hP
  refine made hdoc hcl hge0 hg hcode C hP ht hgP hb (fun cv ctv h' tk hf k z => ?_) (fun c' P' ctv h' tk hf hx z1 z2 C' hP2 hr hP' zl => ?_)
  · obtain ⟨c', rfl, ck⟩ := lf cv (by rw [← hpos]; exact hf)
    have gr : Gr X V s V { s with heap := h'.push { cls := .type "function", data := .func (fnm name qual params body scope clos dV ((X.mg "__name__").getD .none) (.ref c') ctv) }, toks := tk } := Gr.of_keeps O S.le (fun b o e => Heap.get?_push_of_some _ (k b o e)) rfl rfl
    exact h _ c' ctv _ tk V gr (fresh_s z) (vfresh S z) (Heap.get?_push_size _ rfl)
  · have cK : CodeK h' c' K.qP := by rw [← hq]; exact codeK_of C' hr
    have zf : s.heap.objs.size ≤ h'.objs.size := Nat.le_of_lt (Nat.lt_of_le_of_lt z1 zl)
    obtain ⟨V', gr, kc, nv⟩ := grown (more := #[rawInt pos.line, rawInt pos.col, .ref c']) (fo := { cls := .type "function", data := .func (fnm name qual params body scope clos dV ((X.mg "__name__").getD .none) (.ref c') ctv) }) (tk := tk) O S hP (hidden O O2 S hP (.inl rfl)) (.inl rfl) hx hP' C' (fresh_s z1) fun V' kv kc nv _ => by
      rw [O2.I]
      refine ⟨⟨_, codeHd_ext C hP hx, hP', triples_snoc ht, (lf.sub kv).snoc ht (fun _ => kc _ cK) hf, fun cv e => ?_⟩, fun c hc hn => ?_⟩
      · have hl : (ps ++ #[rawInt pos.line, rawInt pos.col, Value.ref c']).toList = ps.toList ++ [rawInt pos.line, rawInt pos.col, .ref c'] := by simp
        rw [hl, codeAmong_snoc_ne (by rw [hpos]; exact O2.dP) _ ht] at e
        obtain ⟨c2, e1, e2, e3⟩ := ls cv e
        exact ⟨c2, e1, e2.sub kv, e3⟩
      · have hc' := hc
        obtain ⟨o, vs, t, e, _⟩ := hc'
        rcases nv _ _ e with rfl | q
        · exact absurd ((kc _ cK).same hc) O2.qP
        · refine (g c ?_ hn).away kv hP hx O2.p0
          obtain ⟨o', vs', t', e', r⟩ := hc
          rw [e] at e'; cases e'
          exact ⟨_, vs', t', q, r⟩
    exact h _ c' ctv _ tk V' gr (fresh_s zf) (vnew nv (vfresh S zf) zl) (Heap.get?_push_size _ rfl)
/-- the inner def -/
theorem mk_S (S : St X V s) (hpos : pos = K.pS) (hq : qual = K.qS) (hdoc : (match body with | .stmts b => docOf b | .expr _ => none) = none) (hcl : closureFor scope env = pure clos) (hge0 : env.globals = mainGlobals) (hcode : env.code = .ref K.c0)
    (h : ∀ f c' ctv h' tk V', Gr X V s V' { s with heap := h', toks := tk } → s.heap.get? f = none → V'.get? f = none → h'.get? f = some { cls := .type "function", data := .func (fnm name qual params body scope clos dV ((X.mg "__name__").getD .none) (.ref c') ctv) } →
      CodeK V' c' K.qS → X.h0.get? c' = none → Q (.ref f) { s with heap := h', toks := tk }) :
    wpAny (model X.prog X.w) A (makeTail name qual params body scope env dV .none none pos firstLine) Q E s := by
  have iv := S.iv
  rw [O2.I] at iv
  obtain ⟨⟨ps, C, hP, ht, lf, ls⟩, g⟩ := iv
  obtain ⟨hg, hgP, hb⟩ := ground O S hP
  refine made hdoc hcl hge0 hg hcode C hP ht hgP hb (fun cv ctv h' tk hf k z => ?_) (fun c' P' ctv h' tk hf hx z1 z2 C' hP2 hr hP' zl => ?_)
  · obtain ⟨c', rfl, ck, cn⟩ := ls cv (by rw [← hpos]; exact hf)
    have gr : Gr X V s V { s with heap := h'.push { cls := .type "function", data := .func (fnm name qual params body scope clos dV ((X.mg "__name__").getD .none) (.ref c') ctv) }, toks := tk } := Gr.of_keeps O S.le (fun b o e => Heap.get?_push_of_some _ (k b o e)) rfl rfl
    exact h _ c' ctv _ tk V gr (fresh_s z) (vfresh S z) (Heap.get?_push_size _ rfl) ck cn
  · have cK : CodeK h' c' K.qS := by rw [← hq]; exact codeK_of C' hr
    have zf : s.heap.objs.size ≤ h'.objs.size := Nat.le_of_lt (Nat.lt_of_le_of_lt z1 zl)
    obtain ⟨V', gr, kc, nv⟩ := grown (more := #[rawInt pos.line, rawInt pos.col, .ref c']) (fo := { cls := .type "function", data := .func (fnm name qual params body scope clos dV ((X.mg "__name__").getD .none) (.ref c') ctv) }) (tk := tk) O S hP (hidden O O2 S hP (.inl rfl)) (.inl rfl) hx hP' C' (fresh_s z1) fun V' kv kc nv _ => by
      rw [O2.I]
      have hl : (ps ++ #[rawInt pos.line, rawInt pos.col, Value.ref c']).toList = ps.toList ++ [rawInt pos.line, rawInt pos.col, .ref c'] := by simp
      refine ⟨⟨_, codeHd_ext C hP hx, hP', triples_snoc ht, (lf.sub kv).snoc ht (fun e => by rw [hpos] at e; exact absurd (And.intro e.1.symm e.2.symm) O2.dP) hf, fun cv e => ?_⟩, fun c hc hn => ?_⟩
      · rw [hl, ← hpos, codeAmong_snoc _ ht hf] at e
        cases e
        exact ⟨c', rfl, kc _ cK, fresh_h0 S z1⟩
      · have hc' := hc
        obtain ⟨o, vs, t, e, _⟩ := hc'
        rcases nv _ _ e with rfl | q
        · exact ⟨P', #[], C', hP2, trivial, fresh_h0 S z2, (fun cv e => nomatch e), (fun cv e => nomatch e)⟩
        · refine (g c ?_ hn).away kv hP hx O2.p0
          obtain ⟨o', vs', t', e', r⟩ := hc
          rw [e] at e'; cases e'
          exact ⟨_, vs', t', q, r⟩
    exact h _ c' ctv _ tk V' gr (fresh_s zf) (vnew nv (vfresh S zf) zl) (Heap.get?_push_size _ rfl) (kc _ cK) (fresh_h0 S z1)
/-- the lambdas of the inner def -/
theorem mk_L (S : St X V s) (hc1 : CodeK V c K.qS) (hc0 : X.h0.get? c = none) (hpq : (pos = K.pH ∧ qual = K.qH) ∨ (pos = K.pN ∧ qual = K.qN)) (hdoc : (match body with | .stmts b => docOf b | .expr _ => none) = none) (hcl : closureFor scope env = pure clos) (hge0 : env.globals = mainGlobals) (hcode : env.code = .ref c)
    (h : ∀ f c' ctv h' tk V', Gr X V s V' { s with heap := h', toks := tk } → s.heap.get? f = none → V'.get? f = none → h'.get? f = some { cls := .type "function", data := .func (fnm name qual params body scope clos dV ((X.mg "__name__").getD .none) (.ref c') ctv) } →
      CodeK V' c' qual → Q (.ref f) { s with heap := h', toks := tk }) :
    wpAny (model X.prog X.w) A (makeTail name qual params body scope env dV .none none pos firstLine) Q E s := by
  have iv := S.iv
  rw [O2.I] at iv
  obtain ⟨⟨ps0, C0, hP0, ht0, lf, ls⟩, g⟩ := iv
  obtain ⟨P, ps, C, hP, ht, nP, m1, m2⟩ := g c hc1 hc0
  obtain ⟨hg, hgP, hb⟩ := ground O S hP
  have hPP : P ≠ X.P0 := fun z => by obtain ⟨o, e⟩ := O2.p0; rw [← z, nP] at e; cases e
  refine made hdoc hcl hge0 hg hcode C hP ht hgP hb (fun cv ctv h' tk hf k z => ?_) (fun c' P' ctv h' tk hf hx z1 z2 C' hP2 hr hP' zl => ?_)
  · obtain ⟨c', rfl, ck⟩ : ∃ c', cv = .ref c' ∧ CodeK V c' qual := by
      rcases hpq with ⟨e1, e2⟩ | ⟨e1, e2⟩
      · rw [e2]; exact m1 cv (by rw [← e1]; exact hf)
      · rw [e2]; exact m2 cv (by rw [← e1]; exact hf)
    have gr : Gr X V s V { s with heap := h'.push { cls := .type "function", data := .func (fnm name qual params body scope clos dV ((X.mg "__name__").getD .none) (.ref c') ctv) }, toks := tk } := Gr.of_keeps O S.le (fun b o e => Heap.get?_push_of_some _ (k b o e)) rfl rfl
    exact h _ c' ctv _ tk V gr (fresh_s z) (vfresh S z) (Heap.get?_push_size _ rfl) ck
  · have cK : CodeK h' c' qual := codeK_of C' hr
    have qq : qual ≠ K.qS := by
      rcases hpq with ⟨e1, e2⟩ | ⟨e1, e2⟩
      · rw [e2]; exact O2.qH
      · rw [e2]; exact O2.qN
    have zf : s.heap.objs.size ≤ h'.objs.size := Nat.le_of_lt (Nat.lt_of_le_of_lt z1 zl)
    obtain ⟨V', gr, kc, nv⟩ := grown (more := #[rawInt pos.line, rawInt pos.col, .ref c']) (fo := { cls := .type "function", data := .func (fnm name qual params body scope clos dV ((X.mg "__name__").getD .none) (.ref c') ctv) }) (tk := tk) O S hP (hidden O O2 S hP (.inr nP)) (.inr nP) hx hP' C' (fresh_s z1) fun V' kv kc nv _ => by
      rw [O2.I]
      refine ⟨⟨ps0, codeHd_ext C0 hP hx, hx _ _ (Ne.symm hPP) hP0, ht0, lf.sub kv, fun cv e => ?_⟩, fun d hd hn => ?_⟩
      · obtain ⟨c2, e1, e2, e3⟩ := ls cv e
        exact ⟨c2, e1, e2.sub kv, e3⟩
      · have hc' := hd
        obtain ⟨o, vs, t, e, _⟩ := hc'
        rcases nv _ _ e with rfl | q
        · exact absurd ((kc _ cK).same hd) qq
        · have hdV : CodeK V d K.qS := by
            obtain ⟨o', vs', t', e', r⟩ := hd
            rw [e] at e'; cases e'
            exact ⟨_, vs', t', q, r⟩
          refine (g d hdV hn).step kv hP hx hP' hf (fun e => ?_) (fun e => ?_)
          · rcases hpq with ⟨e1, e2⟩ | ⟨e1, e2⟩
            · rw [← e2]; exact kc _ cK
            · rw [e1] at e; exact absurd ⟨e.1.symm, e.2.symm⟩ O2.dN
          · rcases hpq with ⟨e1, e2⟩ | ⟨e1, e2⟩
            · rw [e1] at e; exact absurd e O2.dN
            · rw [← e2]; exact kc _ cK
    exact h _ c' ctv _ tk V' gr (fresh_s zf) (vnew nv (vfresh S zf) zl) (Heap.get?_push_size _ rfl) (kc _ cK)
end
end Mine
end
section
open PySem PySem.W PySem.Calls PyProof.Rows
namespace Mine
/-- the defs of the text, by place -/
noncomputable def fdef (i : Nat) : Str × Arguments × List Stmt × Scope := match PySem.Challenge.pw_mr0092_01.main.body[i]? with
  | some (.FunctionDef n a b _ _ _ sc _ _ _) => (n, a, b, sc)
  | _ => default
noncomputable abbrev fname (i : Nat) : Str := (fdef i).1
noncomputable abbrev fargs (i : Nat) : Arguments := (fdef i).2.1
noncomputable abbrev fbody (i : Nat) : List Stmt := (fdef i).2.2.1
noncomputable abbrev fscope (i : Nat) : Scope := (fdef i).2.2.2
/-- the inner def of the outer def at place 15, and the lambdas -/
noncomputable def dS : Arguments × List Stmt × Scope × Pos := match (List.head? (fbody 15) : Option Stmt) with
  | some (.FunctionDef _ a b _ _ _ sc _ _ p) => (a, b, sc, p)
  | _ => default
noncomputable def lamOf (st : Option Stmt) : Arguments × Expr × Scope × Pos := match st with
  | some (.Assign _ (.Lambda a e sc p) _) => (a, e, sc, p)
  | _ => default
noncomputable def lP := lamOf ((fbody 15).tail.head?)
noncomputable def lH := lamOf (dS.2.1.tail.head?)
noncomputable def lN := lamOf (dS.2.1.tail.tail.head?)
noncomputable def HitK (V : Heap) (i : Int) (a : Addr) : Prop := ∃ o fd dx mA f of pm c' ctv cl t qn, V.get? a = some o ∧ o.cls = .type "function" ∧ o.data = .func fd ∧ o.dict = some dx ∧ V.Ns dx mA ∧ mA "span" = some (.ref f) ∧ V.get? f = some of ∧
  of.data = .func (fnm "<lambda>" qn lN.1 (.expr lN.2.1) lN.2.2.1 [("first", cl)] .none pm (.ref c') ctv) ∧ V.IsCell cl (some (.int i t)) ∧ CodeK V c' qn
noncomputable def PrgK (h0 : Heap) (K : Cs) (V : Heap) (w : Str) (a : Addr) : Prop := ∃ o fd dx mA f of pm c1 T tT ctv cl t, V.get? a = some o ∧ o.cls = .type "function" ∧ o.data = .func fd ∧ o.dict = some dx ∧ V.Ns dx mA ∧ mA "search" = some (.ref f) ∧ V.get? f = some of ∧
  of.data = .func (fnm "_law_search" K.qS dS.1 (.stmts dS.2.1) dS.2.2.1 [("word", cl)] (.ref T) pm (.ref c1) ctv) ∧ V.get? T = some { cls := .type "tuple", data := .seq #[.int 0 tT] } ∧ V.IsCell cl (some (.str w t)) ∧ CodeK V c1 K.qS ∧ h0.get? c1 = none
theorem HitK.mono {V V' : Heap} {i : Int} {a : Addr} (x : HitK V i a) (k : Sub V V') : HitK V' i a := by
  obtain ⟨o, fd, dx, mA, f, of, pm, c', ctv, cl, t, qn, e1, e2, e3, e4, e5, e6, e7, e8, e9, e10⟩ := x
  exact ⟨o, fd, dx, mA, f, of, pm, c', ctv, cl, t, qn, k _ _ e1, e2, e3, e4, e5.keeps k, e6, k _ _ e7, e8, e9.keeps k, e10.sub k⟩
theorem PrgK.mono {h0 : Heap} {K : Cs} {V V' : Heap} {w : Str} {a : Addr} (x : PrgK h0 K V w a) (k : Sub V V') : PrgK h0 K V' w a := by
  obtain ⟨o, fd, dx, mA, f, of, pm, c', T, tT, ctv, cl, t, e1, e2, e3, e4, e5, e6, e7, e8, e9, e10, e11, e12⟩ := x
  exact ⟨o, fd, dx, mA, f, of, pm, c', T, tT, ctv, cl, t, k _ _ e1, e2, e3, e4, e5.keeps k, e6, k _ _ e7, e8, k _ _ e9, e10.keeps k, e11.sub k, e12⟩
section
variable {X : Fix} (O : X.Ok) {k : Nat} (hH : X.Hit = HitK)
include O
noncomputable def mFirst (i : Int) : Str → Option D := fun x => if x = "first" then some (.int i) else none
theorem ev_span (i : Int) : Ev X k lN.2.2.1 (mFirst i) lN.2.1 (.tup [.int i, .int (i + 7)]) := by
  refine ev_tuple O ?_ (by simp)
  refine evl_cons O (ev_name rfl rfl) (evl_cons O (ev_bin O (ev_name rfl rfl) ev_int (op_add_ii i 7)) (evl_nil O) (fun _ => rfl)) (fun _ => rfl)
include hH
theorem mt_span (i : Int) : Mt X (k + 1) "span" (.hit i) [] (.tup [.int i, .int (i + 7)]) := fun A V s v0 pl Q E hA S r h => by
  obtain ⟨a, rfl, r'⟩ := r.hit_inv
  rw [hH] at r'
  obtain ⟨o, fd, dx, mA, f, of, pm, c', ctv, cl, t, qn, e1, e2, e3, e4, e5, e6, e7, e8, e9, e10⟩ := r'
  refine getMethod_fn lk_fn_span (by decide) (S.le _ _ e1) e2 e3 e4 (e5.keeps S.le) e6 ?_
  refine h (.ref f) [] _ V ((Gr.refl S.le).tok _) (.inr (.inr ⟨f, of, _, rfl, e7, e8⟩)) fun A2 V2 s2 vs Q2 E2 hA2 S2 sub rv hQ => ?_
  obtain rfl := rv.nil_inv
  have up : Sub V s2.heap := fun b o e => S2.le b o (sub b o e)
  refine wpAny_call (kla_callFunE (by have := hA2.dp; show A2.depth < 1000; (first | lia | omega)) (up _ _ e7) e8 rfl rfl rfl (e10.sub up).rec ?_)
  show wpAny _ _ (bindArgs (fnm "<lambda>" qn lN.1 (.expr lN.2.1) lN.2.2.1 [("first", cl)] .none pm (.ref c') ctv) ⟨[], []⟩) _ _ _
  rw [show bindArgs (fnm "<lambda>" qn lN.1 (.expr lN.2.1) lN.2.2.1 [("first", cl)] .none pm (.ref c') ctv) ⟨[], []⟩ = pure [] from rfl]
  refine wpAny_pure (wpAny_newFunctionEnv (show ∀ x ∈ lN.2.2.1.names, x.2 ≠ .cell by decide) (fun x hx => by cases hx) (fun h' hn hs => ?_))
  have kp : Sub s2.heap h' := fun b o e => hs.extBut b o (Nat.ne_of_lt (Heap.lt_size e)) (Heap.get?_push_of_some _ e)
  have g : Gr X V2 s2 V2 { s2 with heap := h', toks := s2.toks + ([] : List (Str × Value)).length } := Gr.of_keeps O S2.le kp rfl rfl
  refine ⟨O.lim.keeps fun b o e => kp b o (S2.bh b o e), kla_codeExpr ?_⟩
  refine ev_span O i _ _ V2 _ _ _ rfl (hA2.deeper _) (S2.go g) ⟨rfl, rfl, rfl, ⟨_, hn, fun x d hx hk => ?_⟩, fun x hk => ?_, fun x d hx hk => ?_⟩ fun v s' V' g' r' => hQ v s' V' (g.trans g') r'
  · unfold mFirst at hx
    split at hx
    · subst x; exact absurd hk (show ¬ (lN.2.2.1.names.lookup ("first" : Str) = some .local) by decide)
    · cases hx
  · exact absurd rfl ((show ∀ x ∈ lN.2.2.1.names, x.2 ≠ .cell by decide) _ (PySem.mem_of_lookup (show lN.2.2.1.names.lookup x = some .cell from hk)))
  · unfold mFirst at hx
    split at hx
    · subst x
      cases hx
      exact ⟨.inr ⟨show lN.2.2.1.names.lookup ("first" : Str) = some .free by decide, rfl⟩, cl, .int i t, rfl, (e9.keeps sub).keeps fun b o e => kp b o (S2.le b o e), .int i t⟩
    · cases hx
end
end Mine
end
section
open PySem PySem.W PySem.Calls PyProof.Rows
namespace Mine
section
variable {X : Fix} (O : X.Ok) {K : Cs} (O2 : Ok2 X K) {k : Nat} {env : Env} {A : Around} {V0 V : Heap} {s0 s : Shared} {m : Str → Option D} {x : Str} {v : Value}
theorem lam_make {a : Arguments} {e : Expr} {sc : Scope} {p : Pos} {Q : Value → Shared → Prop} {E : Value → Shared → Prop} (hdef : defaultsOf a env = ([], [])) (h : wpAny (model X.prog X.w) A (makeTail "<lambda>" (env.qual ++ "<lambda>") a (.expr e) sc env .none .none none p p.line) Q E s) :
    wpAny (model X.prog X.w) A (eval (.Lambda a e sc p) env) Q E s := by
  refine kla_eval hdef ?_
  rw [makeFunction_eq]
  simp only [List.zip_nil_right, List.filterMap_nil, List.isEmpty_nil, if_true, pure_bind]
  exact h
include O
theorem raw_local {Q : Unit → Shared → Prop} {E : Value → Shared → Prop} (F : Fs X env V0 s0 m none V s) (hk : env.kindOf x = some .local) (hm : m x = none)
    (h : ∀ h' ml, Fs X env V0 s0 m none V { s with heap := h', toks := s.toks + 1 } → h'.Ns env.locals ml → ml x = some v → Heap.SameBut env.locals s.heap h' → (∀ ml0, s.heap.Ns env.locals ml0 → ∀ y, y ≠ x → ml y = ml0 y) → Q () { s with heap := h', toks := s.toks + 1 }) : wpAny (model X.prog X.w) A (storeName env x v) Q E s := by
  obtain ⟨ml, hn, lm⟩ := F.lo.ns
  have hn0 := hn
  obtain ⟨oL, es, ep, eL, dL, rL⟩ := hn0
  refine wpAny_storeName_local hk hn (fun h' hn' hs' => ?_) (by rw [F.lo.fn]; rfl)
  have g : Gr X V0 s0 V { s with heap := h', toks := s.toks + 1 } := F.gr.own O env.locals F.nL F.vL hs'.extBut (fun o e => by rw [eL] at e; cases e; exact quiet_dict dL)
  have ncell : ∀ c w, s.heap.IsCell c w → c ≠ env.locals := fun c w ⟨o, e1, e2⟩ z => by rw [z, eL] at e1; cases e1; rw [dL] at e2; cases e2
  refine h h' _ ⟨F.t0, g, ⟨F.lo.fn, F.lo.gl, F.lo.bl, ⟨_, hn', fun y e hy hky => ?_⟩, F.lo.cl, fun y e hy hky => ?_⟩, F.vL, F.nL, fun y c h1 h2 => ?_, F.ap, fun y l e => by cases e⟩ hn' (by simp) hs' (fun ml0 h0 y hy => by rw [Ns_unique h0 hn]; simp only [hy, if_false])
  · by_cases hyx : y = x
    · cases hyx.symm; rw [hm] at hy; cases hy
    · simp only [hyx, if_false]; exact lm y e hy hky
  · obtain ⟨q0, c, w, q1, q2, q3⟩ := F.lo.ce y e hy hky
    have nc := ncell c _ q2
    obtain ⟨o, q4, q5⟩ := q2
    exact ⟨q0, c, w, q1, ⟨o, hs'.extBut _ _ nc q4, q5⟩, q3⟩
  · obtain ⟨q1, q2, w, q3⟩ := F.ce y c h1 h2
    have nc := ncell c _ q3
    obtain ⟨o, q4, q5⟩ := q3
    exact ⟨q1, q2, w, o, hs'.extBut _ _ nc q4, q5⟩
include O2
theorem srch_tail (hH : X.Hit = HitK) {c cf : Addr} {i : Int} {Q : Flow → Shared → Prop} {E : Value → Shared → Prop} (hsc : env.scope = dS.2.2.1) (hcode : env.code = .ref c) (hq1 : env.qual ++ "<lambda>" = K.qH) (hq2 : K.qN = K.qH) (hpH : lH.2.2.2 = K.pH) (hpN : lN.2.2.2 = K.pN)
    (hA : Ar k A) (F : Fs X env V0 s0 m none V s) (hc1 : CodeK V c K.qS) (hc0 : X.h0.get? c = none) (hi : m "first" = some (.int i)) (hh : m "hit" = none) (hcf : env.cells.lookup ("first" : Str) = some cf)
    (hQ : ∀ v V' s', Gr X V0 s0 V' s' → Rd X V' (if 0 ≤ i then .hit i else .none) v → Q (.ret v) s') : wpAny (model X.prog X.w) A (execs dS.2.1.tail env) Q E s := by
  obtain ⟨p1, p2, p3, p4, p5, p6, p7, p8, p9, p10, p11, p12, n1, n2, hb⟩ : ∃ p1 p2 p3 p4 p5 p6 p7 p8 p9 p10 p11 p12 n1 n2, dS.2.1.tail = [.Assign [.Name "hit" p1] (.Lambda lH.1 lH.2.1 lH.2.2.1 lH.2.2.2) p2, .Assign [.Attribute (.Name "hit" p3) "span" p4] (.Lambda lN.1 lN.2.1 lN.2.2.1 lN.2.2.2) p5,
      .Return (some (.IfExp (.Compare (.Name "first" p6) [.GtE] [.Constant (.int 0) n1 p7] p8) (.Name "hit" p9) (.Constant .none n2 p10) p11)) p12] := ⟨_, _, _, _, _, _, _, _, _, _, _, _, _, _, rfl⟩
  rw [hb]
  have kh : env.kindOf "hit" = some .local := by unfold Env.kindOf; rw [hsc]; rfl
  have kf : env.kindOf "first" = some .cell := by unfold Env.kindOf; rw [hsc]; rfl
  have hg : env.globals = mainGlobals := F.lo.gl
  refine wpAny_execs_cons (wpAny_Assign_Name (lam_make rfl ?_) ?_)
  · refine mk_L O O2 F.st hc1 hc0 (.inl ⟨hpH, hq1⟩) rfl (clos := []) rfl hg hcode fun f c' ctv h' tk V' g n1 n2 e1 ck => ?_
    have F1 := F.go O g
    refine raw_local O F1 kh hh fun h2 ml F2 hn2 hv2 hs2 _ => ?_
    have fL : f ≠ env.locals := ns_ne F1.lo.ns.choose_spec.1 e1 (by intro es n h; cases h)
    have e2 := hs2.extBut _ _ fL e1
    have kc : closureFor lN.2.2.1 env = pure [(("first" : Str), cf)] := by
      unfold closureFor
      rw [show lN.2.2.1.names = [(("first" : Str), .free)] from rfl]
      simp [cellOf, hcf]
    refine wpAny_execs_cons (plainObj_wpAny_Assign_Attribute (lam_make rfl ?_) rfl)
    refine mk_L O O2 F2.st (hc1.sub g.vk) hc0 (.inr ⟨hpN, by rw [hq1, hq2]⟩) rfl (clos := [("first", cf)]) kc hg hcode fun f2 c2 ctv2 h3 tk3 V3 g3 n3 n4 e3 ck3 => ?_
    have F3 := F2.go O g3
    have e4 : h3.get? f = some _ := g3.kp _ _ e2 (not_tab_func rfl)
    have hn3 : h3.Ns env.locals ml := g3.ns hn2
    refine wpAny_Name (wpAny_loadName_local F.lo.fn kh hn3 hv2 ?_) rfl
    refine setAttr_fn lk_fn_span e4 rfl rfl rfl fun h4 tk4 q1 q2 q3 => ?_
    have f0 : s0.heap.get? f = none := F.gr.none n1
    have f3v : V3.get? f = none := g3.vnone e2 n2
    have F4 := F3.own O f f0 f3v (tk := tk4) (fun b o hb e => q3 b o hb e) (fun o e => by dsimp only at e; rw [e4] at e; cases e; exact quiet_func rfl) fL
      (fun w ⟨o, c1, c2⟩ => by dsimp only at c1; rw [e4] at c1; cases c1; cases c2) (fun w ⟨n, c1⟩ => by dsimp only at c1; rw [e4] at c1; have := congrArg Obj.data (Option.some.inj c1); cases this)
    have hn4 : h4.Ns env.locals ml := hn3.extBut (fun b o hb e => q3 b o hb e) (Ne.symm fL)
    have f2f : f2 ≠ f := fun z => by rw [z] at n3; dsimp only at n3; rw [e2] at n3; cases n3
    have e5 := q3 _ _ f2f e3
    obtain ⟨-, c0, w, hw⟩ := F4.ce "first" cf kf hcf
    have hci : ∃ t, h4.IsCell cf (some (.int i t)) := by
      obtain ⟨_, c, v, a1, a2, a3⟩ := F4.lo.ce "first" _ hi (by rw [kf]; simp)
      rw [hcf] at a1; cases a1
      cases a3
      exact ⟨_, a2⟩
    obtain ⟨tf, hci⟩ := hci
    refine wpAny_execs_cons (wpAny_Return_some (wpAny_IfExp ?_))
    refine ts_cmp (c := decide (i ≥ 0)) O (ev_name hi rfl) ev_int (cmp_ge_ii i 0) rfl env A V3 _ _ E rfl hA F4.st F4.lo fun s5 V5 g5 => ?_
    have F5 := F4.go O g5
    by_cases h0 : 0 ≤ i
    · rw [if_pos (by simpa using h0)]
      rw [if_pos h0] at hQ
      have hn5 : s5.heap.Ns env.locals ml := g5.ns hn4
      refine wpAny_Name (wpAny_loadName_local F.lo.fn kh hn5 hv2 ?_) rfl
      obtain ⟨oD, esD, epD, eD, dD, rD⟩ := q2
      obtain ⟨oC, eC, dC⟩ := hci
      have u1 := g5.kp _ _ q1 (not_tab_func rfl)
      have u2 := g5.kp _ _ e5 (not_tab_func rfl)
      have u3 := g5.kp _ _ eD (not_tab_dict dD)
      have u4 := g5.kp _ _ eC (not_tab_cell dC)
      obtain ⟨V6, g6, sv, ev, nv⟩ := F5.gr.show O (fun b => b == f || b == f2 || b == h3.objs.size || b == cf) (fun b hb => by
        simp only [Bool.or_eq_true, beq_iff_eq] at hb
        rcases hb with ((h | h) | h) | h
        · rw [h]; exact f0
        · rw [h]; exact F2.gr.none n3
        · rw [h]; exact F3.gr.none (get_size _)
        · rw [h]; exact c0) (fun b o hb e => by
        simp only [Bool.or_eq_true, beq_iff_eq] at hb
        rcases hb with ((h | h) | h) | h
        · rw [h, u1] at e; cases e; exact quiet_func rfl
        · rw [h, u2] at e; cases e; exact quiet_func rfl
        · rw [h, u3] at e; cases e; exact quiet_dict dD
        · rw [h, u4] at e; cases e; exact quiet_cell dC)
      refine hQ (.ref f) V6 s5 g6 (.hit ?_)
      rw [hH]
      exact ⟨_, _, h3.objs.size, _, f2, _, _, c2, ctv2, cf, tf, _, ev _ _ (by simp) u1, rfl, rfl, rfl, ⟨oD, esD, epD, ev _ _ (by simp) u3, dD, rD⟩, rfl, ev _ _ (by simp) u2, rfl, ⟨oC, ev _ _ (by simp) u4, dC⟩, (ck3.sub g5.vk).sub sv⟩
    · rw [if_neg (by simpa using h0)]
      rw [if_neg h0] at hQ
      exact wpAny_pure (hQ .none V5 s5 F5.gr .none)
  · rfl
end
end Mine
end
section
open PySem PySem.W PySem.Calls PyProof.Rows
namespace Mine
section
variable {X : Fix} (O : X.Ok) {K : Cs} (O2 : Ok2 X K) {k : Nat} {sc : Scope} {m : Str → Option D}
theorem mt_find (x y : Str) (i : Int) : Mt X k "find" (.str x) [.str y, .int i] (.int (Txt.find3 x y i)) := fun A V s v0 pl Q E hA S r h => by
  obtain ⟨t0, rfl⟩ := r.str_inv
  refine GM.find (h _ _ _ V (Gr.refl S.le) (.inl ⟨_, rfl⟩) fun A2 V2 s2 vs Q2 E2 hA2 S2 sub rv hQ => ?_)
  obtain ⟨v1, v2, rfl, r1, r2⟩ := rv.two_inv
  obtain ⟨t1, rfl⟩ := r1.str_inv
  obtain ⟨t2, rfl⟩ := r2.int_inv
  exact SC.find3 (hQ _ _ _ ((Gr.refl S2.le).tok _) (.int _ _))
theorem strs_of {V : Heap} : ∀ {ys : List Str} {vs : List Value}, RdL X V (ys.map .str) vs → StrsAre vs ys
  | [], _, r => by rw [r.nil_inv]; exact .nil
  | y :: ys, _, r0 => by
    obtain ⟨v, vs, rfl, r1, r2⟩ := RdL.cons_inv r0
    obtain ⟨t, rfl⟩ := r1.str_inv
    exact .cons _ _ (strs_of r2)
theorem mt_join (x : Str) (ys : List Str) (hok : (ys.map (·.length)).sum + ys.length * x.length ≤ 16777216) : Mt X k "join" (.str x) [.lst (ys.map .str)] (.str (Txt.join x ys)) := fun A V s v0 pl Q E hA S r h => by
  obtain ⟨t0, rfl⟩ := r.str_inv
  refine GM.join (h _ _ _ V (Gr.refl S.le) (.inl ⟨_, rfl⟩) fun A2 V2 s2 vs Q2 E2 hA2 S2 sub rv hQ => ?_)
  obtain ⟨v1, rfl, r1⟩ := rv.one_inv
  obtain ⟨a, items, rfl, hl, hr⟩ := r1.lst_inv
  exact join_list (isList_keeps hl S2.le) (strs_of hr) hok fun t' k' => hQ _ _ _ ((Gr.refl S2.le).tok _) (.str _ _)
/-- truth of a name that holds none, or a hit -/
theorem ts_none {x : Str} {pos : Pos} (hm : m x = some .none) (hd : (x == ("__debug__" : Str)) = false) : Ts X k sc m (.Name x pos) false := fun env A V s Q E hs hA S lo h => by
  refine wpAny_isTrue_value (ev_name (k := k) hm hd env A V s _ E hs hA S lo fun v s' V' g r => ?_) rfl
  obtain rfl := r.none_inv
  exact wpAny_pure (h _ _ g)
theorem ts_hit (hH : X.Hit = HitK) {x : Str} {pos : Pos} {i : Int} (hm : m x = some (.hit i)) (hd : (x == ("__debug__" : Str)) = false) : Ts X k sc m (.Name x pos) true := fun env A V s Q E hs hA S lo h => by
  refine wpAny_isTrue_value (ev_name (k := k) hm hd env A V s _ E hs hA S lo fun v s' V' g r => ?_) rfl
  obtain ⟨a, rfl, r'⟩ := r.hit_inv
  rw [hH] at r'
  obtain ⟨o, fd, dx, mA, f, of, pm, c', ctv, cl, t, qn, e1, e2, e3⟩ := r'
  exact truthy_fn (g.le _ _ e1) e2 (h _ _ g)
noncomputable def mWord (w : Str) : Str → Option D := fun x => if x = "word" then some (.str w) else none
include O
theorem env_S {w x : Str} {j : Int} {cl a : Addr} {cd : Value} {t : Tok} {qual : Str} {A : Around} {V : Heap} {s : Shared} {v1 v2 : Value} {Q : Env → Shared → Prop} {E : Value → Shared → Prop} (S : St X V s) (hc : V.IsCell cl (some (.str w t))) (r1 : Rd X V (.str x) v1) (r2 : Rd X V (.int j) v2)
    (h : ∀ env s' cf, env.scope = dS.2.2.1 → env.code = cd → env.qual = qual → env.cells.lookup ("first" : Str) = some cf → Fs X env V s (up (up (mWord w) "chars" (.str x)) "begin" (.int j)) none V s' → Q env s') :
    wpAny (model X.prog X.w) A (newFunctionEnv dS.2.2.1 mainGlobals [("word", cl)] [("chars", v1), ("begin", v2)] qual (some a) cd none builtinsNs) Q E s := by
  simp only [newFunctionEnv, Option.isSome_none, Bool.false_eq_true, if_false]
  refine wpAny_bind (wpAny_alloc ?_)
  refine wpAny_bind (wpAny_layCells _ (fun name kind cells => by cases hkc : kind == NameKind.cell <;> simp [hkc]) _ _ _ _ ?_)
  dsimp only
  rw [show ∀ n : Nat, cellsFrom n dS.2.2.1.names [(("word" : Str), cl)] = [(("first" : Str), n), ("word", cl)] from fun _ => rfl, show ∀ hh : Heap, pushCells hh dS.2.2.1.names = hh.push { cls := .type "cell", data := .cell none } from fun _ => rfl, Heap.size_push]
  generalize he : ({ scope := dS.2.2.1, locals := s.heap.objs.size, globals := mainGlobals, cells := [(("first" : Str), s.heap.objs.size + 1), ("word", cl)], qual := qual, func := some a, code := cd, frame := some s.heap.objs.size, builtins := builtinsNs } : Env) = env
  have e1 : env.scope = dS.2.2.1 := by rw [← he]
  have e2 : env.globals = mainGlobals := by rw [← he]
  have e3 : env.builtins = builtinsNs := by rw [← he]
  have e4 : env.locals = s.heap.objs.size := by rw [← he]
  have e5 : env.cells = [(("first" : Str), s.heap.objs.size + 1), ("word", cl)] := by rw [← he]
  have e6 : env.code = cd := by rw [← he]
  have e7 : env.qual = qual := by rw [← he]
  have e8 : ∀ y, env.kindOf y = dS.2.2.1.names.lookup y := fun y => by unfold Env.kindOf; rw [e1]
  have lw : env.cells.lookup ("word" : Str) = some cl := by rw [e5]; rfl
  have lf : env.cells.lookup ("first" : Str) = some (s.heap.objs.size + 1) := by rw [e5]; rfl
  have onlyF : ∀ y, env.kindOf y = some .cell → y = "first" := fun y hy => by
    rw [e8] at hy
    exact (show ∀ p ∈ dS.2.2.1.names, p.2 = .cell → p.1 = "first" by decide) _ (PySem.mem_of_lookup hy) rfl
  have kp : Sub s.heap ((s.heap.push { cls := .type "frame", data := .dict #[] }).push { cls := .type "cell", data := .cell none }) := fun b o e => Heap.get?_push_of_some _ (Heap.get?_push_of_some _ e)
  have hcl : cl < s.heap.objs.size := by obtain ⟨o, q1, q2⟩ := hc; exact Heap.lt_size (S.le _ _ q1)
  have F0 : Fs X env V s (mWord w) none V { s with heap := (s.heap.push { cls := .type "frame", data := .dict #[] }).push { cls := .type "cell", data := .cell none } } := by
    refine ⟨S, Gr.of_keeps O S.le kp rfl rfl, ⟨by rw [e1]; rfl, e2, e3, ⟨fun _ => none, by rw [e4]; exact (Heap.Ns.new s.heap (.type "frame")).push _, fun y d hy hk => ?_⟩, fun y hy => ?_, fun y d hy hk => ?_⟩, ?_, ?_, fun y c h1 h2 => ?_, fun y z c h1 h2 h3 => ?_, fun y l e => by cases e⟩
    · unfold mWord at hy
      split at hy
      · subst y; rw [e8] at hk; exact absurd hk (show ¬ (dS.2.2.1.names.lookup ("word" : Str) = some .local) by decide)
      · cases hy
    · rw [onlyF y hy]; exact ⟨_, lf⟩
    · unfold mWord at hy
      split at hy
      · subst y
        cases hy
        obtain ⟨o, q1, q2⟩ := hc
        exact ⟨.inr ⟨by rw [e8]; rfl, rfl⟩, cl, _, lw, ⟨o, kp _ _ (S.le _ _ q1), q2⟩, .str w t⟩
      · cases hy
    · rw [e4]; exact vfresh S (Nat.le_refl _)
    · rw [e4]; exact get_size _
    · have := onlyF y h1
      subst this
      rw [lf] at h2; cases h2
      refine ⟨fun _ => vfresh S (Nat.le_succ _), fresh_s (Nat.le_succ _), none, ⟨{ cls := .type "cell", data := .cell none }, ?_, rfl⟩⟩
      have := Heap.get?_push_size (h := s.heap.push { cls := .type "frame", data := .dict #[] }) (o := { cls := .type "cell", data := .cell none }) rfl
      rw [Heap.size_push] at this
      exact this
    · have := onlyF y h1
      subst this
      rw [lf] at h2; cases h2
      rw [e5, List.lookup_cons] at h3
      cases hb : z == ("first" : Str) with
      | true => exact eq_of_beq hb
      | false =>
        rw [hb] at h3
        simp only [List.lookup_cons] at h3
        cases hb2 : z == ("word" : Str) with
        | true => rw [hb2] at h3; cases h3; exact absurd hcl (Nat.not_lt.mpr (Nat.le_succ _))
        | false => rw [hb2] at h3; cases h3
  rw [List.forIn_cons]
  refine wpAny_bind (wpAny_bind (wpAny_bind (store_ok O F0 r1 (.inl (by rw [e8]; rfl)) (fun y l e => by cases e) fun h1 tk1 F1 _ => wpAny_pure ?_)))
  dsimp only
  rw [List.forIn_cons]
  refine wpAny_bind (wpAny_bind (store_ok O F1 r2 (.inl (by rw [e8]; rfl)) (fun y l e => by cases e) fun h2 tk2 F2 _ => wpAny_pure ?_))
  dsimp only
  rw [List.forIn_nil]
  refine wpAny_pure (wpAny_pure (h env _ _ e1 e6 e7 lf F2))
end
end Mine
end
section
open PySem PySem.W PySem.Calls PyProof.Rows
namespace Mine
noncomputable def qOut : Str := ("_law_found" : Str) ++ ".<locals>."
noncomputable def qIn : Str := qOut ++ "_law_search"
noncomputable def theK (c0 : Addr) : Cs := { c0, pS := dS.2.2.2, pP := lP.2.2.2, pH := lH.2.2.2, pN := lN.2.2.2, qS := qIn, qP := qOut ++ "<lambda>", qH := qIn ++ ".<locals>." ++ "<lambda>", qN := qIn ++ ".<locals>." ++ "<lambda>" }
structure Ok3 (X : Fix) : Prop where
  ok : ∃ c0, Ok2 X (theK c0) ∧ X.Prg = PrgK X.h0 (theK c0)
  hit : X.Hit = HitK
noncomputable def hitD (i : Int) : D := if 0 ≤ i then .hit i else .none
section
variable {X : Fix} (O : X.Ok) (O3 : Ok3 X) {k : Nat} {sc : Scope} {m : Str → Option D}
include O O3
theorem call_search {w x : Str} {j : Int} {A : Around} {V : Heap} {s : Shared} {args v1 v2 : Value} {vs : List Value} {Q : Value → Shared → Prop} {E : Value → Shared → Prop} {c0 f T cl c1 : Addr} {of : Obj} {pm ctv : Value} {tT t : Tok} (O2 : Ok2 X (theK c0)) (hA : Ar (k + 1) A) (S : St X V s)
    (e7 : V.get? f = some of) (e8 : of.data = .func (fnm "_law_search" (theK c0).qS dS.1 (.stmts dS.2.1) dS.2.2.1 [("word", cl)] (.ref T) pm (.ref c1) ctv)) (e10 : V.IsCell cl (some (.str w t))) (e11 : CodeK V c1 (theK c0).qS) (e12 : X.h0.get? c1 = none)
    (hb : BindsTo s (fnm "_law_search" (theK c0).qS dS.1 (.stmts dS.2.1) dS.2.2.1 [("word", cl)] (.ref T) pm (.ref c1) ctv) ⟨vs, []⟩ [("chars", v1), ("begin", v2)]) (r1 : Rd X V (.str x) v1) (r2 : Rd X V (.int j) v2)
    (hQ : ∀ v s' V', Gr X V s V' s' → Rd X V' (hitD (Txt.find3 x w j)) v → Q v s') : wpAny (model X.prog X.w) A (call (.ref f) vs) Q E s := by
  refine wpAny_call (codeAny_call_function (by have := hA.dp; show A.depth < 1000; (first | lia | omega)) (S.le _ _ e7) e8 rfl rfl rfl (e11.sub S.le).rec ?_)
  refine hb _ _ _ _ ?_
  show wpAny _ _ (newFunctionEnv dS.2.2.1 mainGlobals [("word", cl)] [("chars", v1), ("begin", v2)] (qIn ++ ".<locals>.") (some f) (.ref c1) none builtinsNs) _ _ _
  refine env_S O S e10 r1 r2 fun env s' cf h1 h2 h3 h4 F => ⟨O.lim.keeps F.st.bh, codeAny_func ?_⟩
  show wpAny _ _ (execs dS.2.1 env) _ _ _
  obtain ⟨p1, p2, p3, p4, p5, p6, p7, hb⟩ : ∃ p1 p2 p3 p4 p5 p6 p7, dS.2.1 = .Assign [.Name "first" p1] (.Call (.Attribute (.Name "chars" p2) "find" p3) [.Name "word" p4, .Name "begin" p5] [] p6) p7 :: dS.2.1.tail ∧ (p3.endLine == p6.line) = true := ⟨_, _, _, _, _, _, _, rfl, rfl⟩
  rw [hb.1]
  refine wpAny_execs_cons (ex_assign (k := k) (sc := dS.2.2.1) O (d := .int (Txt.find3 x w j)) (ev_meth O (ev_name rfl rfl) (evl_cons O (ev_name rfl rfl) (evl_cons O (ev_name rfl rfl) (evl_nil O) (fun _ => rfl)) (fun _ => rfl)) (mt_find x w j) (fun _ _ => rfl) hb.2 (by simp)) (.inr rfl) (fun y l e => by cases e) (fun _ _ => rfl) rfl env _ V s V s' _ _ h1 (hA.deeper env) F fun fl V1 s1 F1 k1 hf => ?_)
  have hf' : fl = .next := hf
  subst hf'
  refine srch_tail O O2 O3.hit h1 h2 (by rw [h3]; rfl) rfl rfl rfl (hA.deeper env) F1 (e11.sub k1.sub) e12 rfl rfl h4 fun v V' s'' g r => ?_
  exact hQ v s'' V' g r
theorem mt_prg {w : Str} {ds : List D} {d : D} (hc : ∀ (A2 : Around) (V2 : Heap) (s2 : Shared) (vs : List Value) (Q2 : Value → Shared → Prop) (E2 : Value → Shared → Prop) (c0 f T cl c1 : Addr) (of : Obj) (pm ctv : Value) (tT t : Tok), Ok2 X (theK c0) → Ar (k + 1) A2 → St X V2 s2 → V2.get? f = some of →
      of.data = .func (fnm "_law_search" (theK c0).qS dS.1 (.stmts dS.2.1) dS.2.2.1 [("word", cl)] (.ref T) pm (.ref c1) ctv) → V2.get? T = some { cls := .type "tuple", data := .seq #[.int 0 tT] } → V2.IsCell cl (some (.str w t)) → CodeK V2 c1 (theK c0).qS → X.h0.get? c1 = none → RdL X V2 ds vs →
      (∀ v s' V', Gr X V2 s2 V' s' → Rd X V' d v → Q2 v s') → wpAny (model X.prog X.w) A2 (call (.ref f) vs) Q2 E2 s2) : Mt X (k + 1) "search" (.prg w) ds d := fun A V s v0 pl Q E hA S r h => by
  obtain ⟨a, rfl, r'⟩ := r.prg_inv
  obtain ⟨c0, O2, hP⟩ := O3.ok
  rw [hP] at r'
  obtain ⟨o, fd, dx, mA, f, of, pm, c1, T, tT, ctv, cl, t, e1, e2, e3, e4, e5, e6, e7, e8, e9, e10, e11, e12⟩ := r'
  refine getMethod_fn lk_fn_search (by decide) (S.le _ _ e1) e2 e3 e4 (e5.keeps S.le) e6 ?_
  exact h (.ref f) [] _ V ((Gr.refl S.le).tok _) (.inr (.inr ⟨f, of, _, rfl, e7, e8⟩)) fun A2 V2 s2 vs Q2 E2 hA2 S2 sub rv hQ => hc A2 V2 s2 vs Q2 E2 c0 f T cl c1 of pm ctv tT t O2 hA2 S2 (sub _ _ e7) e8 (sub _ _ e9) (e10.keeps sub) (e11.sub sub) e12 rv hQ
theorem mt_search1 (w x : Str) : Mt X (k + 1) "search" (.prg w) [.str x] (hitD (Txt.find3 x w 0)) := mt_prg O O3 fun A2 V2 s2 vs Q2 E2 c0 f T cl c1 of pm ctv tT t O2 hA2 S2 e7 e8 e9 e10 e11 e12 rv hQ => by
  obtain ⟨v1, rfl, r1⟩ := rv.one_inv
  exact call_search O O3 (v2 := .int 0 tT) (args := .none) (tT := tT) O2 hA2 S2 e7 e8 e10 e11 e12 (BindsTo.of_defaults rfl (S2.le _ _ e9) rfl rfl rfl) r1 (.int 0 tT) hQ
theorem mt_search2 (w x : Str) (j : Int) : Mt X (k + 1) "search" (.prg w) [.str x, .int j] (hitD (Txt.find3 x w j)) := mt_prg O O3 fun A2 V2 s2 vs Q2 E2 c0 f T cl c1 of pm ctv tT t O2 hA2 S2 e7 e8 e9 e10 e11 e12 rv hQ => by
  obtain ⟨v1, v2, rfl, r1, r2⟩ := rv.two_inv
  exact call_search O O3 (args := .none) (tT := tT) O2 hA2 S2 e7 e8 e10 e11 e12 (BindsTo.of_defaults rfl (S2.le _ _ e9) rfl rfl rfl) r1 r2 hQ
end
end Mine
end
section
open PySem PySem.W PySem.Calls PyProof.Rows
namespace Mine
section
variable {X : Fix} (O : X.Ok) {k : Nat} {c0 : Addr} (O2 : Ok2 X (theK c0)) (hP : X.Prg = PrgK X.h0 (theK c0)) {env : Env} {A : Around} {V0 V : Heap} {s0 s : Shared} {m : Str → Option D} {w : Str} {Q : Flow → Shared → Prop} {E : Value → Shared → Prop}
include O O2 hP
theorem found_pre (hsc : env.scope = fscope 15) (hcode : env.code = .ref c0) (hqu : env.qual = qOut) (F : Fs X env V0 s0 m none V s) (hw : m "word" = some (.str w)) (hp : m "prog" = none) (hs : m "_law_search" = none)
    (h : ∀ V' s', Fs X env V0 s0 (up m "prog" (.prg w)) none V' s' → wpAny (model X.prog X.w) A (execs (fbody 15).tail.tail.tail env) Q E s') : wpAny (model X.prog X.w) A (execs (fbody 15) env) Q E s := by
  obtain ⟨p1, p2, p3, p4, p5, p6, hb⟩ : ∃ p1 p2 p3 p4 p5 p6, fbody 15 = .FunctionDef "_law_search" dS.1 dS.2.1 [] none [] dS.2.2.1 none "_law_search" dS.2.2.2 :: .Assign [.Name "prog" p1] (.Lambda lP.1 lP.2.1 lP.2.2.1 lP.2.2.2) p2 ::
      .Assign [.Attribute (.Name "prog" p3) "search" p4] (.Name "_law_search" p5) p6 :: (fbody 15).tail.tail.tail := ⟨_, _, _, _, _, _, rfl⟩
  rw [hb]
  generalize (fbody 15).tail.tail.tail = rest at h ⊢
  have ks : env.kindOf "_law_search" = some .local := by unfold Env.kindOf; rw [hsc]; rfl
  have kpr : env.kindOf "prog" = some .local := by unfold Env.kindOf; rw [hsc]; rfl
  have kw : env.kindOf "word" = some .cell := by unfold Env.kindOf; rw [hsc]; rfl
  have hg : env.globals = mainGlobals := F.lo.gl
  have hqn : qualnameIn env "_law_search" "_law_search" = qIn := by unfold qualnameIn; rw [ks, hqu]; rfl
  obtain ⟨cw, hcw⟩ := F.lo.cl "word" kw
  refine wpAny_execs_cons ?_
  rw [exec_def, defaultsOf_eq, hqn]
  refine wpAny_bind (wpAny_standAt (wpAny_bind (wpAny_holding ?_)))
  show wpAny _ _ (evalAll (evalEach dS.1.defaults env) >>= _) _ _ _
  refine wpAny_bind (wpAny_evalAll_consts dS.1.defaults _ _ (by decide) fun vs tk hvs => ?_)
  obtain ⟨t0, rfl⟩ : ∃ t0, vs = [.int 0 t0] := by
    match vs, hvs with
    | [], z => exact False.elim z
    | [v], z => obtain ⟨t, e⟩ := z.1; exact ⟨t, by rw [e]⟩
    | v :: w :: r, z => exact False.elim z.2
  refine wpAny_bind (wpAny_holding (wpAny_pure ?_))
  refine wpAny_holding ?_
  refine wpAny_bind (wpAny_pure ?_)
  rw [makeFunction_eq]
  simp only [List.isEmpty_cons, Bool.false_eq_true, if_false, List.zip_nil_right, List.filterMap_nil, List.isEmpty_nil, if_true, pure_bind]
  refine wpAny_bind (wpAny_newTextTuple ?_)
  have gT : Gr X V s V { s with heap := s.heap.push { cls := .type "tuple", data := .seq ([.int 0 t0] : List Value).toArray }, toks := tk } := (Gr.refl F.st.le).hid O _ |>.tok tk
  have eT : (s.heap.push { cls := .type "tuple", data := .seq ([.int 0 t0] : List Value).toArray }).get? s.heap.objs.size = some { cls := .type "tuple", data := .seq ([.int 0 t0] : List Value).toArray } := Heap.get?_push_size _ rfl
  have nT : s0.heap.get? s.heap.objs.size = none := F.gr.none (get_size _)
  have vT := vfresh F.st (Nat.le_refl _)
  generalize s.heap.objs.size = T at eT nT vT ⊢
  have F1 := F.go O gT
  have kc : closureFor dS.2.2.1 env = pure [(("word" : Str), cw)] := by
    unfold closureFor
    have hnames : ∃ a b c d : Str × NameKind, (dS.2.2.1.names = [a, b, c, d, ("word", .free)]) ∧ a.2 ≠ .free ∧ b.2 ≠ .free ∧ c.2 ≠ .free ∧ d.2 ≠ .free := ⟨_, _, _, _, rfl, by decide, by decide, by decide, by decide⟩
    obtain ⟨⟨a1, a2⟩, ⟨b1, b2⟩, ⟨c1, c2⟩, ⟨d1, d2⟩, hn, ha, hb, hc, hd⟩ := hnames
    rw [hn]
    simp only at ha hb hc hd
    simp [cellOf, hcw, ha, hb, hc, hd]
  refine mk_S O O2 F1.st rfl rfl rfl (clos := [("word", cw)]) kc hg hcode fun f c' ctv h' tk' V' g n1 n2 e1 ck c0' => ?_
  have F2 := F1.go O g
  refine wpAny_bind (wpAny_standAt (wpAny_bind (wpAny_bindName (raw_local O F2 ks hs fun h2 ml F3 hn3 hv3 hs3 _ => wpAny_pure ?_))))
  have fL : f ≠ env.locals := ns_ne F2.lo.ns.choose_spec.1 e1 (by intro es n h; cases h)
  have e2 := hs3.extBut _ _ fL e1
  have TL : T ≠ env.locals := ns_ne F1.lo.ns.choose_spec.1 eT (by intro es n h; cases h)
  have eT3 := hs3.extBut _ _ TL (g.kp _ _ eT (not_tab_seq rfl))
  refine wpAny_execs_cons (wpAny_Assign_Name (lam_make rfl ?_) rfl)
  refine mk_P O O2 F3.st rfl (by rw [hqu]; rfl) rfl (clos := []) rfl hg hcode fun p cp ctvp h4 tk4 V4 g4 n4 v4 e4 => ?_
  have F4 := F3.go O g4
  refine raw_local O F4 kpr hp fun h5 ml5 F5 hn5 hv5 hs5 ho5 => ?_
  have pL : p ≠ env.locals := ns_ne F4.lo.ns.choose_spec.1 e4 (by intro es n h; cases h)
  have e5 := hs5.extBut _ _ pL e4
  have ef5 := hs5.extBut _ _ fL (g4.kp _ _ e2 (not_tab_func rfl))
  have eT5 := hs5.extBut _ _ TL (g4.kp _ _ eT3 (not_tab_seq rfl))
  have hvS : ml5 "_law_search" = some (.ref f) := by
    have hn4 : h4.Ns env.locals ml := g4.ns hn3
    rw [ho5 ml hn4 "_law_search" (by decide)]
    exact hv3
  refine wpAny_execs_cons (plainObj_wpAny_Assign_Attribute (wpAny_Name (wpAny_loadName_local F.lo.fn ks hn5 hvS ?_) rfl) rfl)
  refine wpAny_Name (wpAny_loadName_local F.lo.fn kpr hn5 hv5 ?_) rfl
  refine setAttr_fn lk_fn_search e5 rfl rfl rfl fun h6 tk6 q1 q2 q3 => ?_
  have p0 : s0.heap.get? p = none := F3.gr.none n4
  have F6 := F5.own O p p0 v4 (tk := tk6) (fun b o hb e => q3 b o hb e) (fun o e => by dsimp only at e; rw [e5] at e; cases e; exact quiet_func rfl) pL
      (fun w ⟨o, c1, c2⟩ => by dsimp only at c1; rw [e5] at c1; cases c1; cases c2) (fun w ⟨n, c1⟩ => by dsimp only at c1; rw [e5] at c1; have := congrArg Obj.data (Option.some.inj c1); cases this)
  have fp : f ≠ p := fun z => by rw [← z] at n4; dsimp only at n4; rw [e2] at n4; cases n4
  have Tp : T ≠ p := fun z => by rw [← z] at n4; dsimp only at n4; rw [eT3] at n4; cases n4
  have u1 := q3 _ _ fp ef5
  have u2 := q3 _ _ Tp eT5
  have hn6 : h6.Ns env.locals ml5 := hn5.extBut (fun b o hb e => q3 b o hb e) (Ne.symm pL)
  obtain ⟨oD, esD, epD, eD, dD, rD⟩ := q2
  obtain ⟨-, cw0, wv, hwv⟩ := F6.ce "word" cw kw hcw
  obtain ⟨tw, oC, eC, dC⟩ : ∃ t, h6.IsCell cw (some (.str w t)) := by
    obtain ⟨_, c, v, a1, a2, a3⟩ := F6.lo.ce "word" _ hw (by rw [kw]; simp)
    rw [hcw] at a1; cases a1
    cases a3
    exact ⟨_, a2⟩
  have D0 : s0.heap.get? h5.objs.size = none := F5.gr.none (get_size _)
  have f0 : s0.heap.get? f = none := F1.gr.none n1
  have nL : ∀ b o, h6.get? b = some o → (∀ es n, o.data ≠ .dict es n) → b ≠ env.locals := fun b o e hd => ns_ne hn6 e hd
  have DL : h5.objs.size ≠ env.locals := fun z => by
    obtain ⟨oL, es, ep, eL, dL, _⟩ := hn5
    have := Heap.lt_size eL
    rw [← z] at this; exact absurd this (Nat.lt_irrefl _)
  obtain ⟨V6, g6, sv, ev, nv⟩ := F6.gr.show O (fun b => b == p || b == f || b == h5.objs.size || b == cw || b == T) (fun b hb => by
    simp only [Bool.or_eq_true, beq_iff_eq] at hb
    rcases hb with (((h | h) | h) | h) | h
    · rw [h]; exact p0
    · rw [h]; exact f0
    · rw [h]; exact D0
    · rw [h]; exact cw0
    · rw [h]; exact nT) (fun b o hb e => by
    simp only [Bool.or_eq_true, beq_iff_eq] at hb
    dsimp only at e
    rcases hb with (((h | h) | h) | h) | h
    · rw [h, q1] at e; cases e; exact quiet_func rfl
    · rw [h, u1] at e; cases e; exact quiet_func rfl
    · rw [h, eD] at e; cases e; exact quiet_dict dD
    · rw [h, eC] at e; cases e; exact quiet_cell dC
    · rw [h, u2] at e; cases e; exact quiet_seq rfl)
  refine h V6 _ ⟨F.t0, g6, ⟨F.lo.fn, F.lo.gl, F.lo.bl, ⟨ml5, hn6, fun y d hy hk => ?_⟩, F.lo.cl, fun y d hy hk => ?_⟩, ?_, F.nL, fun y c a1 a2 => ?_, F.ap, fun y l e => by cases e⟩
  · unfold up at hy
    by_cases hyx : y = "prog"
    · cases hyx.symm
      rw [if_pos rfl] at hy; cases hy
      refine ⟨_, hv5, .prg ?_⟩
      rw [hP]
      exact ⟨_, _, h5.objs.size, _, f, _, _, c', T, t0, ctv, cw, tw, ev _ _ (by simp) q1, rfl, rfl, rfl, ⟨oD, esD, epD, ev _ _ (by simp) eD, dD, rD⟩, rfl, ev _ _ (by simp) u1, rfl, ev _ _ (by simp) u2, ⟨oC, ev _ _ (by simp) eC, dC⟩, (ck.sub g4.vk).sub sv, c0'⟩
    · rw [if_neg hyx] at hy
      obtain ⟨ml6, hn6', lm6⟩ := F6.lo.ns
      have := Ns_unique hn6' hn6
      subst this
      obtain ⟨v, z1, z2⟩ := lm6 y d hy hk
      exact ⟨v, z1, z2.mono O sv⟩
  · unfold up at hy
    by_cases hyx : y = "prog"
    · cases hyx.symm; exact absurd kpr hk
    · rw [if_neg hyx] at hy
      obtain ⟨q0, c, v, z1, z2, z3⟩ := F6.lo.ce y d hy hk
      exact ⟨q0, c, v, z1, z2, z3.mono O sv⟩
  · refine nv _ ?_ F6.vL
    simp only [Bool.or_eq_false_iff, beq_eq_false_iff_ne]
    exact ⟨⟨⟨⟨Ne.symm pL, Ne.symm fL⟩, Ne.symm DL⟩, Ne.symm (nL _ _ eC (by rw [dC]; simp))⟩, Ne.symm TL⟩
  · obtain ⟨z1, z2, wz, z3⟩ := F6.ce y c a1 a2
    refine ⟨fun hy => ?_, z2, wz, z3⟩
    rw [show y = "word" from ?_] at hy
    · exact absurd hy (by decide)
    · rw [Env.kindOf, hsc] at a1
      exact (show ∀ q ∈ (fscope 15).names, q.2 = .cell → q.1 = "word" by decide) _ (PySem.mem_of_lookup a1) rfl
end
end Mine
end
section
open PySem PySem.W PySem.Calls PyProof.Rows
namespace Mine
open AutoSeq1 (wpAny_loadPart')
theorem sl_map_init : Slot "map" "__init__" "object.__init__" :=
  .of (owner := "object") (n := "__init__") (by rw [typeLookup_type, builtinLookup_eq_fast]; kernel_rfl) (by decide +kernel) (by decide +kernel) (by decide +kernel)
    (by first | exact .inl (by decide +kernel) | exact .inr (by decide +kernel)) (by rw [isSubtype_type]; kernel_rfl)
theorem sl_map_iter : Slot "map" "__iter__" "map.__iter__" :=
  .of (owner := "map") (n := "__iter__") (by rw [typeLookup_type, builtinLookup_eq_fast]; kernel_rfl) (by decide +kernel) (by decide +kernel) (by decide +kernel)
    (by first | exact .inl (by decide +kernel) | exact .inr (by decide +kernel)) (by rw [isSubtype_type]; kernel_rfl)
theorem sl_map_next : Slot "map" "__next__" "map.__next__" :=
  .of (owner := "map") (n := "__next__") (by rw [typeLookup_type, builtinLookup_eq_fast]; kernel_rfl) (by decide +kernel) (by decide +kernel) (by decide +kernel)
    (by first | exact .inl (by decide +kernel) | exact .inr (by decide +kernel)) (by rw [isSubtype_type]; kernel_rfl)
theorem en_map_new : entryFor table "map.__new__" = some Builtin.«map.__new__» := entryFor_of_tree (by kernel_rfl)
theorem en_map_next : entryFor table "map.__next__" = some Builtin.«map.__next__» := entryFor_of_tree (by kernel_rfl)
theorem en_map_iter : entryFor table "map.__iter__" = some Builtin.«dict_keyiterator.__iter__» :=
  entryFor_alias (id' := "dict_keyiterator.__iter__") (by kernel_rfl) (by first | rfl | decide +kernel | (unfold String.splitOn; simp +decide [String.splitOnAux])) (by decide +kernel) (by kernel_rfl)
theorem ar_map_next (a : Value) : argsOk "map.__next__" ⟨[a], []⟩ := by kernel_rfl
theorem ar_map_iter (a : Value) : argsOk "map.__iter__" ⟨[a], []⟩ := by kernel_rfl
theorem mro_map : mroOf (.type "map") = pure [.type "map", .type "object"] := by rw [mroOf_type]; kernel_rfl
theorem lk_map_new : typeLookup (.type "map") "__new__" = pure (some (.builtin "map.__new__")) := by rw [typeLookup_type, builtinLookup_eq_fast]; kernel_rfl
theorem called_map : TypeCalled "map" "map.__new__" "object.__init__" :=
  ⟨by decide +kernel, by decide +kernel, ⟨_, _, mro_map⟩, madeBy_type mro_map lk_map_new (by decide +kernel), by decide +kernel, by rw [isSubtype_type]; kernel_rfl, sl_map_init⟩
theorem tc_map (a b : Value) : checkTypeCall "map" ⟨[a, b], []⟩ = pure () := by kernel_rfl
theorem nc_map (a b : Value) : checkBuiltinCall "map.__new__" ⟨[.type "map", a, b], []⟩ = pure () := by kernel_rfl
theorem sub_map : isSubtype (.type "map") (.type "map") = pure true := by rw [isSubtype_type]; kernel_rfl
theorem meets_map_new (l : Addr) (items : Array Value) (n : Nat) (dct : Option Addr) (sl : Array (Option Value)) (fv : Value) :
    Meets (Builtin.«map.__new__» ⟨[.type "map", fv, .ref l], []⟩) (fun _ R s => s.heap.get? l = some { cls := .type "list", dict := dct, data := .seq items n, slots := sl } ∧
      ∀ h', h' = (((s.heap.push { cls := .type "list_iterator", data := .fields #[.ref l, .int 0 0] }).push { cls := .type "tuple", data := .seq #[.ref s.heap.objs.size] }).push { cls := .type "map", data := .fields #[.ref (s.heap.objs.size + 1), fv] }) →
      R (.ok (.ret (.ref (s.heap.objs.size + 2)))) { s with heap := h' }) :=
  .of_wp fun prog w A R s h => by
    obtain ⟨hp, g, d, tk, os⟩ := s; obtain ⟨hl, h⟩ := h
    have hsub := sub_map
    have hL : Heap.IsList (Shared.heap ⟨hp, g, d, tk, os⟩) l items := ⟨_, hl, rfl, n, rfl⟩
    wp_walk using wpAny_loadPart' hl, wpAny_pyIter_list hL
    refine ⟨_, rfl, ?_⟩
    have := h _ rfl
    simpa [Heap.size_push] using this
section
variable {prog : Program} {w : World} {A : Around} {E : Value → Shared → Prop} {s : Shared}
theorem call_map {l : Addr} {items : Array Value} {fv : Value} {Q : Value → Shared → Prop} (hL : s.heap.IsList l items)
    (h : ∀ h', h'.get? (s.heap.objs.size + 2) = some { cls := .type "map", data := .fields #[.ref (s.heap.objs.size + 1), fv] } → h'.get? (s.heap.objs.size + 1) = some { cls := .type "tuple", data := .seq #[.ref s.heap.objs.size] } → h'.IsListIter s.heap.objs.size l 0 →
      Sub s.heap h' → Q (.ref (s.heap.objs.size + 2)) { s with heap := h' }) : wpAny (model prog w) A (call (.type "map") [fv, .ref l]) Q E s := by
  obtain ⟨⟨c, dct, dt, sl⟩, hl, hc, n, hd⟩ := hL
  replace hc : c = .type "list" := hc
  replace hd : dt = .seq items n := hd
  subst hc hd
  refine callType_new called_map (by decide) (tc_map _ _) (nc_map _ _) (fun obj => PySem.F.args_object_init_3 obj _ _) en_map_new (meets_map_new l items n dct sl fv) ⟨hl, fun h' e => ?_⟩
  have z1 : (s.heap.push { cls := .type "list_iterator", data := .fields #[.ref l, .int 0 0] }).objs.size = s.heap.objs.size + 1 := Heap.size_push ..
  have e1 : h'.get? (s.heap.objs.size + 2) = some { cls := .type "map", data := .fields #[.ref (s.heap.objs.size + 1), fv] } := by
    have := Heap.get?_push_size ((s.heap.push { cls := .type "list_iterator", data := .fields #[.ref l, .int 0 0] }).push { cls := .type "tuple", data := .seq #[.ref s.heap.objs.size] }) (o := { cls := .type "map", data := .fields #[.ref (s.heap.objs.size + 1), fv] }) rfl
    rw [Heap.size_push, z1] at this; rw [e]; exact this
  have e2 : h'.get? (s.heap.objs.size + 1) = some { cls := .type "tuple", data := .seq #[.ref s.heap.objs.size] } := by
    have := Heap.get?_push_size (s.heap.push { cls := .type "list_iterator", data := .fields #[.ref l, .int 0 0] }) (o := { cls := .type "tuple", data := .seq #[.ref s.heap.objs.size] }) rfl
    rw [z1] at this; rw [e]; exact Heap.get?_push_of_some _ this
  have e3 : h'.IsListIter s.heap.objs.size l 0 := ⟨_, by rw [e]; exact Heap.get?_push_of_some _ (Heap.get?_push_of_some _ (Heap.get?_push_size _ rfl)), rfl, rfl⟩
  exact ⟨⟨_, e1, rfl⟩, h h' e1 e2 e3 fun b o x => by rw [e]; exact Heap.get?_push_of_some _ (Heap.get?_push_of_some _ (Heap.get?_push_of_some _ x))⟩
theorem iter_map {e : Addr} {vs : Array Value} {Q : Value → Shared → Prop} (he : s.heap.get? e = some { cls := .type "map", data := .fields vs }) (h : Q (.ref e) s) : wpAny (model prog w) A (pyIter (.ref e)) Q E s := by
  have hT : s.TypeIs (.ref e) "map" := ⟨_, he, rfl⟩
  refine wpAny_pyIter_slot hT sl_map_iter (wpAny_call_entry sl_map_iter hT en_map_iter ?_ (ar_map_iter _))
  show wpAny _ _ (ret (.ref e)) _ _ s
  exact wpAny_pure ⟨_, rfl, "map", _, hT, sl_map_next.lookup, h⟩
theorem next_map {e tup it l : Addr} {i : Nat} {items : Array Value} {x : Str} {t : Tok} {n : Int} {Q : Option Value → Shared → Prop} (he : s.heap.get? e = some { cls := .type "map", data := .fields #[.ref tup, .type "int"] })
    (ht : s.heap.get? tup = some { cls := .type "tuple", data := .seq #[.ref it] }) (hit : s.heap.IsListIter it l i) (hl : s.heap.IsList l items) (hx : items[i]? = some (.str x t)) (hn : PySem.intText? x = some n) (hlen : x.length ≤ 640)
    (hQ : ∀ h' t', h'.IsListIter it l (i + 1) → Heap.SameBut it s.heap h' → Q (some (.int n t')) { s with heap := h', toks := s.toks + 1 }) : wpAny (model prog w) A (pyNext (.ref e)) Q E s := by
  have hT : s.TypeIs (.ref e) "map" := ⟨_, he, rfl⟩
  have hei : e ≠ it := fun z => by obtain ⟨o, q1, q2, q3⟩ := hit; rw [← z, he] at q1; cases q1; exact absurd q2 (by simp)
  unfold pyNext
  refine wpAny_bind (wpAny_attempt (wpAny_callSpecial?_slot (name := Str.ofString "__next__") hT sl_map_next (wpAny_call_entry sl_map_next hT en_map_next ?_ (ar_map_next _))))
  show wpAny _ _ (field (.ref e) 0 >>= _) _ _ _
  refine wpAny_bind (wpAny_field he rfl (x := .ref tup) rfl ?_)
  refine wpAny_bind (wpAny_seqItems ht rfl ?_)
  dsimp only
  rw [show (#[Value.ref it] : Array Value) = [Value.ref it].toArray from rfl, List.forIn_toArray, List.forIn_cons]
  refine wpAny_bind (wpAny_bind (wpAny_bind (wpAny_holding (wpAny_nextOf_list_item hit hl hx fun h₁ hit₁ hs₁ => wpAny_pure ?_))))
  dsimp only
  rw [List.forIn_nil]
  refine wpAny_pure ?_
  refine wpAny_bind (wpAny_field ((hs₁.2 e hei).trans he) rfl (x := .type "int") rfl ?_)
  refine wpAny_bind (wpAny_holding ?_)
  show wpAny _ _ (call (.type "int") [.str x t]) _ _ _
  refine KIN.call_text hn hlen ?_
  refine wpAny_bind (wpAny_letGo ?_)
  exact wpAny_pure ⟨_, rfl, wpAny_pure (hQ _ _ hit₁ hs₁)⟩
theorem end_map {e tup it l : Addr} {i : Nat} {items : Array Value} {fv : Value} {Q : Option Value → Shared → Prop} (hh : A.handled = none) (he : s.heap.get? e = some { cls := .type "map", data := .fields #[.ref tup, fv] })
    (ht : s.heap.get? tup = some { cls := .type "tuple", data := .seq #[.ref it] }) (hit : s.heap.IsListIter it l i) (hl : s.heap.IsList l items) (hx : items[i]? = none)
    (hQ : ∀ h', Heap.ExtBut it s.heap h' → Q none { s with heap := h' }) : wpAny (model prog w) A (pyNext (.ref e)) Q E s := by
  have hT : s.TypeIs (.ref e) "map" := ⟨_, he, rfl⟩
  unfold pyNext
  refine wpAny_bind (wpAny_attempt (wpAny_callSpecial?_slot (name := Str.ofString "__next__") hT sl_map_next (wpAny_call_entry sl_map_next hT en_map_next ?_ (ar_map_next _))))
  show wpAny _ _ (field (.ref e) 0 >>= _) _ _ _
  refine wpAny_bind (wpAny_field he rfl (x := .ref tup) rfl ?_)
  refine wpAny_bind (wpAny_seqItems ht rfl ?_)
  dsimp only
  rw [show (#[Value.ref it] : Array Value) = [Value.ref it].toArray from rfl, List.forIn_toArray, List.forIn_cons]
  refine wpAny_bind (wpAny_bind (wpAny_bind (wpAny_holding (wpAny_nextOf_list_end hh hit hl hx fun h' x he' hx' => ?_))))
  obtain ⟨o, ho, hc⟩ := hx'
  refine wpAny_bind (wpAny_isInstance (T := "StopIteration") (b := true) ⟨o, ho, hc⟩ isSubtype_stop ?_)
  exact wpAny_pure (hQ _ he')
end
end Mine
end
section
open PySem PySem.W PySem.Calls PyProof.Rows
namespace Mine
section
variable {X : Fix} (O : X.Ok) {k : Nat} {sc : Scope} {m : Str → Option D}
include O
theorem ld_glob {x : Str} {p : Pos} {f : Value} {env : Env} {A : Around} {V : Heap} {s : Shared} {Q : Value → Shared → Prop} {E : Value → Shared → Prop} (hg : Glo X x f) (hk : env.kindOf x = some .globalImplicit) (hd : (x == ("__debug__" : Str)) = false) (S : St X V s) (lo : Lo X env m V s.heap) (h : Q f s) :
    wpAny (model X.prog X.w) A (eval (.Name x p) env) Q E s := by
  refine Name_function_global lo.fn hk ?_ hd
  have G : s.heap.Ns env.globals X.mg := by rw [lo.gl]; exact O.g.keeps S.bh
  have B : s.heap.Ns env.builtins X.mb := by rw [lo.bl]; exact O.b.keeps S.bh
  rcases hg.at_ with e | ⟨e1, e2⟩
  · exact loadGlobal_global G e h
  · exact loadGlobal_builtin G e1 B e2 h
theorem split_ok {o : Expr} {apos pos pc : Pos} {nc : Nat} {x y : Str} {env : Env} {A : Around} {V : Heap} {s : Shared} {Q : Value → Shared → Prop} {E : Value → Shared → Prop} (h1 : Ev X k sc m o (.str x)) (hs : env.scope = sc) (hA : Ar k A) (S : St X V s) (lo : Lo X env m V s.heap) (hy : (y.length == 0) = false) (hx : x.length ≤ 1000)
    (hn : (Builtin.Str.partsBetween x (Builtin.Str.occurrences x y 0 x.length (x.length + 1)) y.length).length ≤ 1000)
    (hbase : attributeBase o "split" env (eval o env) = eval o env) (hline : (apos.endLine == pos.line) = true)
    (h : ∀ D l s1 h' tk V1, Gr X V s V1 s1 → l.map (·.1) = Txt.split x y → Sub s1.heap h' → h'.IsList D (strValues l).toArray → Q (.ref D) { s1 with heap := h', toks := tk }) :
    wpAny (model X.prog X.w) A (eval (.Call (.Attribute o "split" apos) [.Constant (.str y) nc pc] [] pos) env) Q E s := by
  have L : EvL X k sc m [.Constant (.str y) nc pc] [.str y] := evl_cons O ev_str (evl_nil O) (fun _ => rfl)
  rw [arm_eval_Call, hbase]
  refine wpAny_bind (h1 env A V s _ E hs hA S lo fun v0 s1 V1 g1 r1 => wpAny_bind (wpAny_standAt ?_))
  have hpos : methodCallPos true o env apos pos = pure pos := by unfold methodCallPos; simp [hline]
  unfold methodCall
  rw [show methodCallForm ([Expr.Constant (.str y) nc pc].length + ([] : List Keyword).length) (backTo pos (starEach [.Constant (.str y) nc pc] env)) (backToKw pos (keywordEach [] env)) = true from rfl]
  cases r1
  refine wpAny_bind (wpAny_holding (GM.split (wpAny_bind (wpAny_of_eq hpos ?_))))
  refine call_args O (.inl ⟨_, rfl⟩) L hs hA (S.go g1) (lo.go O g1) fun vs s3 V3 g3 r3 => ?_
  cases r3 with
  | cons r3 r4 =>
  cases r4
  cases r3
  refine SCH.split1 (P := fun hh => Sub s3.heap hh) (fun hh ob p b o e => Heap.get?_push_of_some _ (p b o e)) (fun _ _ e => e) hy (fun D l h' tk hl hp hI => h D l s3 h' tk V3 (g1.trans g3) hl hp hI) (by rw [sizeLine_eq]; (first | lia | omega)) (by rw [sizeLine_eq]; (first | lia | omega))
/-- line, col = map(int, index.split('.')) -/
theorem ex_linecol {m : Str → Option D} {x u v : Str} {a b : Int} (gm : Glo X "map" (.type "map")) (gi : Glo X "int" (.type "int")) (hi : m "index" = some (.str x)) (hx : x.length ≤ 1000) (hn : (Builtin.Str.partsBetween x (Builtin.Str.occurrences x "." 0 x.length (x.length + 1)) ("." : Str).length).length ≤ 1000)
    (hsp : Txt.split x "." = [u, v]) (ha : PySem.intText? u = some a) (hb : PySem.intText? v = some b) (hu : u.length ≤ 640) (hv : v.length ≤ 640) :
    ∃ st rest, fbody 5 = st :: rest ∧ Ex X k (fscope 5) m none (exec st) .next (up (up m "line" (.int a)) "col" (.int b)) none := by
  obtain ⟨p1, p2, n1, p3, p4, p5, p6, p7, n2, p8, p9, p10, p11, rest, hbd, hl⟩ : ∃ p1 p2 n1 p3 p4 p5 p6 p7 n2 p8 p9 p10 p11 rest, fbody 5 = .Assign [.Tuple [.Name "line" p1, .Name "col" p2] n1 p3] (.Call (.Name "map" p4) [.Name "int" p5, .Call (.Attribute (.Name "index" p6) "split" p7) [.Constant (.str ".") n2 p8] [] p9] [] p10) p11 :: rest ∧ (p7.endLine == p9.line) = true := ⟨_, _, _, _, _, _, _, _, _, _, _, _, _, _, rfl, rfl⟩
  refine ⟨_, _, hbd, fun env A V0 s0 V s Q E hs hA F h => ?_⟩
  have ki : env.kindOf "int" = some .globalImplicit := by unfold Env.kindOf; rw [hs]; rfl
  have km : env.kindOf "map" = some .globalImplicit := by unfold Env.kindOf; rw [hs]; rfl
  have kl : env.kindOf "line" = some .local := by unfold Env.kindOf; rw [hs]; rfl
  have kc : env.kindOf "col" = some .local := by unfold Env.kindOf; rw [hs]; rfl
  rw [exec_Assign_arm]
  refine wpAny_bind (wpAny_standAt ?_)
  refine wpAny_bind (m := swapsWithSole _ _ _ _) ?_
  show wpAny _ _ (pure false) _ _ _
  refine wpAny_pure ?_
  rw [if_neg Bool.false_ne_true]
  refine wpAny_bind ?_
  refine PyProof.Rows.Call_Name rfl (ld_glob O gm km rfl F.st F.lo ?_)
  refine PyProof.Rows.callWith_type1 (e := .Name "int" p5) ?_ rfl rfl
  refine Calls.spliced_cons (ld_glob O gi ki rfl F.st F.lo ?_)
  refine Calls.spliced_cons (split_ok (k := k) O (ev_name hi rfl) hs hA F.st F.lo rfl hx hn rfl hl fun D l s1 h1 tk1 V1 g1 hl1 kp1 hI1 => Calls.spliced_nil ?_)
  obtain ⟨tu, tv, rfl⟩ : ∃ tu tv, l = [(u, tu), (v, tv)] := by
    rw [hsp] at hl1
    match l, hl1 with
    | [(a1, b1), (a2, b2)], e => simp at e; exact ⟨b1, b2, by rw [e.1, e.2]⟩
  have F1 := F.go O g1
  have g2 : Gr X V1 s1 V1 { s1 with heap := h1, toks := tk1 } := Gr.of_keeps O F1.st.le kp1 rfl rfl
  have F2 := F1.go O g2
  show wpAny _ _ (call (.type "map") [.type "int", .ref D]) _ _ _
  refine call_map hI1 fun h2 e1 e2 e3 kp2 => ?_
  dsimp only at e1 e2 e3 kp2 ⊢
  have nit : s1.heap.get? h1.objs.size = none := g2.none (get_size h1)
  have nit0 : s0.heap.get? h1.objs.size = none := F1.gr.none nit
  have vit : V1.get? h1.objs.size = none := vfresh F2.st (Nat.le_refl _)
  generalize h1.objs.size = it at e1 e2 e3 nit nit0 vit ⊢
  have g3 : Gr X V1 { s1 with heap := h1, toks := tk1 } V1 { s1 with heap := h2, toks := tk1 } := Gr.of_keeps O F2.st.le kp2 rfl rfl
  have F3 := F2.go O g3
  have hI2 := isList_keeps hI1 kp2
  rw [show swappedStores [.Tuple [.Name "line" p1, .Name "col" p2] n1 p3] (.Call (.Name "map" p4) [.Name "int" p5, .Call (.Attribute (.Name "index" p6) "split" p7) [.Constant (.str ".") n2 p8] [] p9] [] p10) env = pure none from rfl]
  refine wpAny_bind (wpAny_pure ?_)
  show wpAny _ _ (assignAll (.ref (it + 2)) [assign (.Tuple [.Name "line" p1, .Name "col" p2] n1 p3) env] >>= fun _ => pure Flow.next) _ _ _
  refine wpAny_bind ?_
  show wpAny _ _ (standAt p3 >>= fun _ => unpack (.ref (it + 2)) (assignEach [.Name "line" p1, .Name "col" p2] env)) _ _ _
  refine wpAny_bind (wpAny_standAt ?_)
  unfold unpack
  refine wpAny_bind (wpAny_holding ?_)
  show wpAny _ _ (unpackItems (.ref (it + 2)) 2 none) _ _ _
  unfold unpackItems
  have hT : ({ s1 with heap := h2, toks := tk1 } : Shared).TypeIs (.ref (it + 2)) "map" := ⟨_, e1, rfl⟩
  refine wpAny_bind ?_
  unfold notIterableAtAll
  refine wpAny_bind (wpAny_specialOf hT sl_map_iter.lookup (wpAny_pure ?_))
  rw [if_neg Bool.false_ne_true]
  refine wpAny_bind (wpAny_holding (iter_map e1 ?_))
  have ne2 : it + 2 ≠ it := Nat.ne_of_gt (Nat.lt_add_of_pos_right (by decide))
  have ne1 : it + 1 ≠ it := Nat.succ_ne_self it
  have neD : D ≠ it := fun z => by obtain ⟨o, q1, q2, q3⟩ := e3; obtain ⟨o', q1', q2', q3'⟩ := hI2; rw [z, q1] at q1'; cases q1'; rw [q2] at q2'; exact absurd q2' (by simp)
  unfold draw draw draw
  refine wpAny_bind (wpAny_holding (wpAny_bind (next_map e1 e2 e3 hI2 (i := 0) (x := u) (t := tu) rfl ha hu fun h4 t4 i4 q4 => ?_)))
  dsimp only at q4
  have e14 := (q4.2 _ ne2).trans e1
  have e24 := (q4.2 _ ne1).trans e2
  have hI4 : h4.IsList D _ := let ⟨o, z1, z2⟩ := hI2; ⟨o, q4.extBut _ _ neD z1, z2⟩
  refine wpAny_bind (wpAny_holding (wpAny_bind (next_map e14 e24 i4 hI4 (i := 1) (x := v) (t := tv) rfl hb hv fun h5 t5 i5 q5 => ?_)))
  dsimp only at q5
  have e15 := (q5.2 _ ne2).trans e14
  have e25 := (q5.2 _ ne1).trans e24
  have hI5 : h5.IsList D _ := let ⟨o, z1, z2⟩ := hI4; ⟨o, q5.extBut _ _ neD z1, z2⟩
  refine wpAny_bind (wpAny_holding (wpAny_pure (wpAny_pure (wpAny_pure ?_))))
  rw [if_neg (by simp)]
  refine wpAny_bind (wpAny_holding (end_map hA.hd e15 e25 i5 hI5 rfl fun h6 q6 => ?_))
  rw [if_neg (by simp)]
  refine wpAny_pure ?_
  have qt : ∀ (hh : Heap) j, hh.IsListIter it D j → ∀ o, hh.get? it = some o → quiet o := fun hh j ⟨o, z1, z2, z3⟩ o' e => by rw [z1] at e; cases e; exact .inr ⟨by rw [z2]; simp, by rw [z2]; simp⟩
  have iL : it ≠ env.locals := fun z => by
    obtain ⟨ml, ⟨oL, es, ep, eL, _⟩, _⟩ := F1.lo.ns
    rw [← z, nit] at eL; cases eL
  have nc : ∀ (hh : Heap) j, hh.IsListIter it D j → ∀ w, ¬ hh.IsCell it w := fun hh j ⟨o, z1, z2, z3⟩ w ⟨o', y1, y2⟩ => by rw [z1] at y1; cases y1; rw [z3] at y2; cases y2
  have nl : ∀ (hh : Heap) j, hh.IsListIter it D j → ∀ w, ¬ hh.PlainList it w := fun hh j ⟨o, z1, z2, z3⟩ w ⟨n, y1⟩ => by rw [z1] at y1; cases y1; cases z3
  have F4 := F3.own O it nit0 vit (tk := tk1 + 1) q4.extBut (qt h2 0 e3) iL (nc h2 0 e3) (nl h2 0 e3)
  have F5 := F4.own O it nit0 vit (tk := tk1 + 1 + 1) q5.extBut (qt h4 1 i4) iL (nc h4 1 i4) (nl h4 1 i4)
  have F6 := F5.own O it nit0 vit (tk := tk1 + 1 + 1) q6 (qt h5 2 i5) iL (nc h5 2 i5) (nl h5 2 i5)
  have kd : Kd V s V1 { s1 with heap := h6, toks := tk1 + 1 + 1 } := by
    refine ⟨((g1.trans g2).trans g3).vk, fun b o vs e dd c => ?_⟩
    obtain ⟨e', v'⟩ := ((g1.trans g2).trans g3).kd.fl b o vs e dd c
    have hbi : b ≠ it := fun z => by rw [z, g1.none nit] at e; cases e
    exact ⟨q6 _ _ hbi (q5.extBut _ _ hbi (q4.extBut _ _ hbi e')), v'⟩
  refine stores_ok O [("line", p1), ("col", p2)] m _ [.int a, .int b] _ _ F6 (.cons (.int a _) (.cons (.int b _) .nil)) rfl (fun p hp => ?_) (fun p hp y l e => by cases e) (fun p hp => ?_) fun s' F' k' => wpAny_pure (h .next V1 s' F' (kd.trans k') rfl)
  · rcases List.mem_cons.mp hp with rfl | hp
    · exact .inl kl
    · rcases List.mem_cons.mp hp with rfl | hp
      · exact .inl kc
      · cases hp
  · rcases List.mem_cons.mp hp with rfl | hp
    · rfl
    · rcases List.mem_cons.mp hp with rfl | hp
      · rfl
      · cases hp
end
end Mine
end
section
open PySem PySem.W PySem.Calls PyProof.Rows
namespace Mine
structure Fn (X : Fix) (i : Nat) : Prop where
  ex : ∃ a o pmv cd doc, X.mg (fname i) = some (.ref a) ∧ X.base.get? a = some o ∧ o.data = .func (docDef (fname i) (fargs i) (fbody i) (fscope i) pmv cd doc) ∧ X.base.CodeRec cd (fname i)
/-- the def at place i: called with ds it comes to d -/
noncomputable def Con (X : Fix) (k i : Nat) (ds : List D) (d : D) : Prop := ∃ f, Glo X (fname i) f ∧ OpL X k (fun vs => call f vs) ds d
noncomputable def bis : List Str := ["max", "min", "int", "range", "round", "len", "sum", "map", "str"]
structure Env4 (X : Fix) : Prop where
  fn : ∀ i ∈ [1, 2, 4, 5, 7, 8, 9, 10, 11, 12, 13, 14], Fn X i
  bl : ∀ x ∈ bis, X.mg x = none
section
variable {X : Fix} (O : X.Ok) (G : Env4 X) {k : Nat} {sc : Scope} {m m' : Str → Option D} {ow' : Ow}
include O
theorem con_of {i : Nat} {ds : List D} {d : D} (F : Fn X i) (names : List Str) (hbind : ∀ (pmv cd doc : Value) (vs : List Value), vs.length = names.length → bindArgs (docDef (fname i) (fargs i) (fbody i) (fscope i) pmv cd doc) ⟨vs, []⟩ = pure (names.zip vs)) (hlen : ds.length = names.length)
    (hkind : ∀ x ∈ names, (fscope i).names.lookup x = some .local ∨ (fscope i).names.lookup x = some .cell) (hk : (fscope i).kind = .function) (hco : (fscope i).isCoroutine = false) (hgen : (fscope i).isGenerator = false)
    (h : Ex X k (fscope i) (pm names ds) none (execs (fbody i)) (.ret d) m' ow') : Con X (k + 1) i ds d := by
  obtain ⟨a, o, pmv, cd, doc, h1, h2, h3, h4⟩ := F.ex
  exact ⟨.ref a, ⟨.inl h1, .inr (.inr ⟨a, o, _, rfl, h2, h3⟩)⟩, call_def O h2 h3 h4 (hbind pmv cd doc) hlen hkind hk hco hgen h⟩
theorem ev_con {i : Nat} {x : Str} {p pos : Pos} {es : List Expr} {ds : List D} {d : D} (c : Con X k i ds d) (L : EvL X k sc m es ds) (hx : x = fname i) (hk : sc.names.lookup x = some .globalImplicit) (hd : (x == ("__debug__" : Str)) = false) : Ev X k sc m (.Call (.Name x p) es [] pos) d := by
  obtain ⟨f, g, c⟩ := c
  subst hx
  exact ev_call O g hk hd L c
include G
theorem glo_bi {x : Str} {f : Value} (hx : x ∈ bis) (hb : bootBuiltins x = some f) (hn : x ≠ "__name__") (hf : (∃ id, f = .builtin id) ∨ ∃ T, f = .type T) : Glo X x f :=
  ⟨.inr ⟨G.bl x hx, by rw [O.blt x hn]; exact hb⟩, by rcases hf with q | q; exact .inl q; exact .inr (.inl q)⟩
theorem glo_max : Glo X "max" (.builtin "max") := glo_bi O G (by decide) (by decide +kernel) (by decide) (.inl ⟨_, rfl⟩)
theorem glo_min : Glo X "min" (.builtin "min") := glo_bi O G (by decide) (by decide +kernel) (by decide) (.inl ⟨_, rfl⟩)
theorem glo_int : Glo X "int" (.type "int") := glo_bi O G (by decide) (by decide +kernel) (by decide) (.inr ⟨_, rfl⟩)
theorem glo_range : Glo X "range" (.type "range") := glo_bi O G (by decide) (by decide +kernel) (by decide) (.inr ⟨_, rfl⟩)
theorem glo_round : Glo X "round" (.builtin "round") := glo_bi O G (by decide) (by decide +kernel) (by decide) (.inl ⟨_, rfl⟩)
theorem glo_len : Glo X "len" (.builtin "len") := glo_bi O G (by decide) (by decide +kernel) (by decide) (.inl ⟨_, rfl⟩)
theorem glo_sum : Glo X "sum" (.builtin "sum") := glo_bi O G (by decide) (by decide +kernel) (by decide) (.inl ⟨_, rfl⟩)
theorem glo_map : Glo X "map" (.type "map") := glo_bi O G (by decide) (by decide +kernel) (by decide) (.inr ⟨_, rfl⟩)
theorem glo_str : Glo X "str" (.type "str") := glo_bi O G (by decide) (by decide +kernel) (by decide) (.inr ⟨_, rfl⟩)
noncomputable def figs (n : Int) (p c : Nat) : Int := (n.fdiv (10 ^ p)).fmod (10 ^ c)
omit O G in
theorem pow_small (p : Nat) (hp : p ≤ 20) : ((10 : Int) ^ p) ≠ 0 ∧ ((10 : Int) ^ p).natAbs < 2 ^ 100 := by
  have : ∀ p : Fin 21, ((10 : Int) ^ p.val) ≠ 0 ∧ ((10 : Int) ^ p.val).natAbs < 2 ^ 100 := by decide +kernel
  exact this ⟨p, by (first | lia | omega)⟩
omit O G in
theorem pow_bits (p : Nat) (hp : p ≤ 20) : (Builtin.Int.intBits 10 : Int) * (p : Int) ≤ 2 ^ 27 := by
  have : (Builtin.Int.intBits 10 : Int) = 4 := by decide +kernel
  rw [this]; (first | lia | omega)
theorem con_figures (n : Int) (p c : Nat) (hp : p ≤ 20) (hc : c ≤ 20) : Con X (k + 1) 7 [.int n, .int p, .int c] (.int (figs n p c)) := by
  refine con_of O (G.fn 7 (by decide)) ["number", "place", "count"] (fun pmv cd doc vs h => ?_) rfl (by decide) rfl rfl rfl (m' := pm ["number", "place", "count"] [.int n, .int p, .int c]) (ow' := none) ?_
  · obtain ⟨a, b, c, rfl⟩ := len3 h; rfl
  · refine ex_stop (ex_return O ?_) (by simp)
    refine ev_bin O (ev_bin O (ev_name rfl rfl) (ev_bin O ev_int (ev_name rfl rfl) (op_pow_ii 10 p (by (first | lia | omega)) (pow_bits p hp))) (op_fdiv_ii _ _ ?_ ?_)) (ev_bin O ev_int (ev_name rfl rfl) (op_pow_ii 10 c (by (first | lia | omega)) (pow_bits c hc))) (op_fmod_ii _ _ ?_)
    · simpa using (pow_small p hp).1
    · simpa using (pow_small p hp).2
    · simpa using (pow_small c hc).1
end
end Mine
end
section
open PySem PySem.W PySem.Calls PyProof.Rows
namespace Mine
noncomputable def gSteps (n : Int) : Int := 1 + (figs n 0 1).fmod 3
noncomputable def gShares (n : Int) : Int := 1 + (figs n 1 1).fmod 2
noncomputable def gTimes (n : Int) : Int := 1 + (figs n 2 3).fmod ((255 : Int).fdiv (gSteps n * gShares n))
noncomputable def gValue (n : Int) : Int := gSteps n * gShares n * gTimes n
theorem steps_range (n : Int) : 1 ≤ gSteps n ∧ gSteps n ≤ 3 := by
  unfold gSteps
  have h1 := Int.fmod_nonneg_of_pos (figs n 0 1) (b := 3) (by decide)
  have h2 := Int.fmod_lt_of_pos (figs n 0 1) (b := 3) (by decide)
  (first | lia | omega)
theorem shares_range (n : Int) : 1 ≤ gShares n ∧ gShares n ≤ 2 := by
  unfold gShares
  have h1 := Int.fmod_nonneg_of_pos (figs n 1 1) (b := 2) (by decide)
  have h2 := Int.fmod_lt_of_pos (figs n 1 1) (b := 2) (by decide)
  (first | lia | omega)
theorem part_range (n : Int) : 1 ≤ gSteps n * gShares n ∧ gSteps n * gShares n ≤ 6 ∧ 42 ≤ (255 : Int).fdiv (gSteps n * gShares n) ∧ (255 : Int).fdiv (gSteps n * gShares n) ≤ 255 ∧ (gSteps n * gShares n) * (255 : Int).fdiv (gSteps n * gShares n) ≤ 255 := by
  obtain ⟨a1, a2⟩ := steps_range n
  obtain ⟨b1, b2⟩ := shares_range n
  generalize gSteps n = a at *
  generalize gShares n = b at *
  have ha : a = 1 ∨ a = 2 ∨ a = 3 := by (first | lia | omega)
  have hb : b = 1 ∨ b = 2 := by (first | lia | omega)
  rcases ha with rfl | rfl | rfl <;> rcases hb with rfl | rfl <;> decide
theorem times_range (n : Int) : 1 ≤ gTimes n ∧ gTimes n ≤ 255 ∧ 1 ≤ gValue n ∧ gValue n ≤ 255 := by
  obtain ⟨a1, a2, a3, a4, a5⟩ := part_range n
  unfold gValue
  have h1 := Int.fmod_nonneg_of_pos (figs n 2 3) (b := (255 : Int).fdiv (gSteps n * gShares n)) (by (first | lia | omega))
  have h2 := Int.fmod_lt_of_pos (figs n 2 3) (b := (255 : Int).fdiv (gSteps n * gShares n)) (by (first | lia | omega))
  have hT : gTimes n = 1 + (figs n 2 3).fmod ((255 : Int).fdiv (gSteps n * gShares n)) := rfl
  have h3 : 1 ≤ gTimes n := by (first | lia | omega)
  have h4 : gTimes n ≤ (255 : Int).fdiv (gSteps n * gShares n) := by (first | lia | omega)
  refine ⟨h3, by (first | lia | omega), ?_, ?_⟩
  · have := Int.mul_le_mul a1 h3 (by (first | lia | omega)) (by (first | lia | omega))
    simpa using this
  · exact Int.le_trans (Int.mul_le_mul_of_nonneg_left h4 (by (first | lia | omega))) a5
noncomputable def gridD (n : Int) : D := .tup [.int (gSteps n), .int (gShares n), .int (gValue n)]
theorem mul_small (a b : Int) (ha : a.natAbs ≤ 2 ^ 60) (hb : b.natAbs ≤ 2 ^ 60) : IntMulOk a b := by
  refine IntMulOk.of_left ?_
  unfold Builtin.Int.intBits
  split
  · (first | lia | omega)
  · rename_i h
    have h0 : a.natAbs ≠ 0 := fun e => h (by simpa using e)
    have := (Nat.log2_lt h0 (k := 61)).mpr (by (first | lia | omega))
    (first | lia | omega)
theorem mul_l (a b : Int) (ha : a.natAbs ≤ 2 ^ 60) : IntMulOk a b := by
  refine IntMulOk.of_left ?_
  unfold Builtin.Int.intBits
  split
  · (first | lia | omega)
  · rename_i h
    have h0 : a.natAbs ≠ 0 := fun e => h (by simpa using e)
    have := (Nat.log2_lt h0 (k := 61)).mpr (by (first | lia | omega))
    (first | lia | omega)
/-- a run of statements that ends in a return -/
noncomputable def Rt (X : Fix) (k : Nat) (sc : Scope) (m : Str → Option D) (ow : Ow) (body : List Stmt) (d : D) : Prop := ∃ m' ow', Ex X k sc m ow (execs body) (.ret d) m' ow'
section
variable {X : Fix} {k : Nat} {sc : Scope} {m m' : Str → Option D} {ow ow' : Ow} {d : D}
theorem rt_cons {st : Stmt} {rest : List Stmt} (h1 : Ex X k sc m ow (exec st) .next m' ow') (h2 : Rt X k sc m' ow' rest d) : Rt X k sc m ow (st :: rest) d := let ⟨a, b, h⟩ := h2; ⟨a, b, ex_cons h1 h⟩
theorem rt_stop {st : Stmt} {rest : List Stmt} (h1 : Ex X k sc m ow (exec st) (.ret d) m' ow') : Rt X k sc m ow (st :: rest) d := ⟨m', ow', ex_stop h1 (by simp)⟩
theorem rt_return (O : X.Ok) {e : Expr} {pos : Pos} {rest : List Stmt} (h1 : Ev X k sc m e d) : Rt X k sc m ow (.Return (some e) pos :: rest) d := rt_stop (ex_return O h1)
theorem rt_if (O : X.Ok) {t : Expr} {b o rest : List Stmt} {pos : Pos} (h1 : Ts X k sc m t true) (h2 : Rt X k sc m ow b d) : Rt X k sc m ow (.If t b o pos :: rest) d := let ⟨a, c, h⟩ := h2; rt_stop (ex_if O h1 (fun _ => h) (fun e => by cases e))
theorem rt_else (O : X.Ok) {t : Expr} {b o rest : List Stmt} {pos : Pos} (h1 : Ts X k sc m t false) (h2 : Rt X k sc m ow o d) : Rt X k sc m ow (.If t b o pos :: rest) d := let ⟨a, c, h⟩ := h2; rt_stop (ex_if O h1 (fun e => by cases e) (fun _ => h))
theorem rt_skip (O : X.Ok) {t : Expr} {b rest : List Stmt} {pos : Pos} (h1 : Ts X k sc m t false) (h2 : Rt X k sc m ow rest d) : Rt X k sc m ow (.If t b [] pos :: rest) d := rt_cons (ex_if O h1 (fun e => by cases e) (fun _ => ex_nil)) h2
theorem con_rt (O : X.Ok) {i : Nat} {ds : List D} (F : Fn X i) (names : List Str) (hbind : ∀ (pmv cd doc : Value) (vs : List Value), vs.length = names.length → bindArgs (docDef (fname i) (fargs i) (fbody i) (fscope i) pmv cd doc) ⟨vs, []⟩ = pure (names.zip vs)) (hlen : ds.length = names.length)
    (hkind : ∀ x ∈ names, (fscope i).names.lookup x = some .local ∨ (fscope i).names.lookup x = some .cell) (hk : (fscope i).kind = .function) (hco : (fscope i).isCoroutine = false) (hgen : (fscope i).isGenerator = false)
    (h : Rt X k (fscope i) (pm names ds) none (fbody i) d) : Con X (k + 1) i ds d := let ⟨_, _, h⟩ := h; con_of O F names hbind hlen hkind hk hco hgen h
end
section
variable {X : Fix} (O : X.Ok) (G : Env4 X) {k : Nat} {sc : Scope} {m m' : Str → Option D} {ow' : Ow}
include O G
theorem con_grid (n : Int) : Con X (k + 2) 8 [.int n] (gridD n) := by
  obtain ⟨a1, a2⟩ := steps_range n
  obtain ⟨b1, b2⟩ := shares_range n
  obtain ⟨c1, c2, c3, c4, c5⟩ := part_range n
  obtain ⟨d1, d2, d3, d4⟩ := times_range n
  refine con_rt O (G.fn 8 (by decide)) ["number"] (fun pmv cd doc vs h => ?_) rfl (by decide) rfl rfl rfl ?_
  · obtain ⟨a, rfl⟩ := len1 h; rfl
  have figE : ∀ {m : Str → Option D} {p1 p2 p3 p4 pos : Pos} {n1 n2 : Nat} {a b : Nat} {x : Str}, m "number" = some (.int n) → x = fname 7 → a ≤ 20 → b ≤ 20 → Ev X (k + 1) (fscope 8) m (.Call (.Name x p1) [.Name "number" p2, .Constant (.int a) n1 p3, .Constant (.int b) n2 p4] [] pos) (.int (figs n a b)) := fun hm hx ha hb =>
    ev_con O (con_figures O G n _ _ ha hb) (evl_cons O (ev_name hm rfl) (evl_cons O ev_int (evl_cons O ev_int (evl_nil O) (fun _ => rfl)) (fun _ => rfl)) (fun _ => rfl)) hx (by rw [hx]; rfl) (by rw [hx]; rfl)
  refine rt_cons (ex_assign O (d := .int (gSteps n)) (ev_bin O ev_int (ev_bin O (figE rfl rfl (by decide) (by decide)) ev_int (op_fmod_ii _ _ (by decide))) (op_add_ii _ _)) (.inl rfl) (fun _ _ e => by cases e) (fun _ _ => rfl)) ?_
  refine rt_cons (ex_assign O (d := .int (gShares n)) (ev_bin O ev_int (ev_bin O (figE rfl rfl (by decide) (by decide)) ev_int (op_fmod_ii _ _ (by decide))) (op_add_ii _ _)) (.inl rfl) (fun _ _ e => by cases e) (fun _ _ => rfl)) ?_
  refine rt_cons (ex_assign O (d := .int (gTimes n)) (ev_bin O ev_int (ev_bin O (figE rfl rfl (by decide) (by decide)) (ev_bin O ev_int (ev_bin O (ev_name rfl rfl) (ev_name rfl rfl) (op_mul_ii _ _ (mul_small _ _ (by (first | lia | omega)) (by (first | lia | omega))))) (op_fdiv_ii _ _ (by (first | lia | omega)) (by (first | lia | omega)))) (op_fmod_ii _ _ (by (first | lia | omega)))) (op_add_ii _ _)) (.inl rfl) (fun _ _ e => by cases e) (fun _ _ => rfl)) ?_
  refine rt_return O (ev_tuple O (evl_cons O (ev_name rfl rfl) (evl_cons O (ev_name rfl rfl) (evl_cons O (ev_bin O (ev_bin O (ev_name rfl rfl) (ev_name rfl rfl) (op_mul_ii _ _ (mul_small _ _ (by (first | lia | omega)) (by (first | lia | omega))))) (ev_name rfl rfl) (op_mul_ii _ _ (mul_small _ _ (by (first | lia | omega)) (by (first | lia | omega))))) (evl_nil O) (fun _ => rfl)) (fun _ => rfl)) (fun _ => rfl)) (by simp))
end
end Mine
end
section
open PySem PySem.W PySem.Calls PyProof.Rows
namespace Mine
noncomputable def onI (g : Int → D) : D → D
  | .int n => g n
  | _ => .none
noncomputable def onB (p : Int → Bool) : D → Bool
  | .int n => p n
  | _ => false
theorem filter_onB (p : Int → Bool) : ∀ xs : List Int, (xs.map D.int).filter (onB p) = (xs.filter p).map D.int
  | [] => rfl
  | x :: xs => by
    simp only [List.map_cons, List.filter_cons, onB]
    by_cases h : p x = true <;> simp [h, filter_onB p xs]
theorem items_rng (N : Nat) (h : N ≤ 100000) : itemsOf (.rng (N : Int)) = some (((List.range N).map fun (i : Nat) => (i : Int)).map D.int) := by
  simp only [itemsOf]
  rw [if_pos ⟨by (first | lia | omega), by (first | lia | omega)⟩, Int.toNat_natCast, List.map_map]
  rfl
section
variable {X : Fix} (O : X.Ok) {k : Nat} {sc : Scope} {m m' : Str → Option D} {ow ow' : Ow}
include O
theorem ev_comp_i {elt iter : Expr} {x : Str} {px : Pos} {ifs : List Expr} {scope : Scope} {pos : Pos} {di : D} (xs : List Int) (p : Int → Bool) (g : Int → D)
    (h1 : Ev X k sc m iter di) (hi : itemsOf di = some (xs.map D.int)) (hlen : xs.length ≤ 100000)
    (hfr : ∀ y ∈ scope.names, y.2 = .free → sc.names.lookup y.1 = some .cell) (hcell : ∀ y ∈ scope.names, y.2 ≠ .cell) (hkind : scope.kind = .function) (hx : scope.names.lookup x = some .local)
    (hnames : ∀ y ∈ scope.names, y.2 = .local → scope.names.lookup y.1 = some .local)
    (ht : ∀ n ∈ xs, TsL X k (relab scope sc) (inM (relab scope sc) x (.int n) m) ifs (p n)) (he : ∀ n ∈ xs, p n = true → Ev X k (relab scope sc) (inM (relab scope sc) x (.int n) m) elt (g n))
    (hs' : ∀ env v, foldedSetIterable iter env v = pure v := by intro _ _; rfl) :
    Ev X k sc m (.ListComp elt [⟨.Name x px, iter, ifs, 0⟩] scope pos) (.lst ((xs.filter p).map g)) := by
  have := ev_comp (xs := xs.map D.int) O (onB p) (onI g) h1 hi (by simpa using hlen) hfr hcell hkind hx hnames (ifs := ifs) (elt := elt) (px := px) (pos := pos) (fun d hd => ?_) (fun d hd hp => ?_) hs'
  · rw [filter_onB, List.map_map] at this
    exact this
  · obtain ⟨n, hn, rfl⟩ := List.mem_map.mp hd
    exact ht n hn
  · obtain ⟨n, hn, rfl⟩ := List.mem_map.mp hd
    exact he n hn hp
/-- [elt for x in range(N)] -/
theorem ev_comp_r {elt iter : Expr} {x : Str} {px : Pos} {scope : Scope} {pos : Pos} (N : Nat) (hN : N ≤ 100000) (g : Nat → D)
    (h1 : Ev X k sc m iter (.rng (N : Int)))
    (hfr : ∀ y ∈ scope.names, y.2 = .free → sc.names.lookup y.1 = some .cell) (hcell : ∀ y ∈ scope.names, y.2 ≠ .cell) (hkind : scope.kind = .function) (hx : scope.names.lookup x = some .local)
    (hnames : ∀ y ∈ scope.names, y.2 = .local → scope.names.lookup y.1 = some .local)
    (he : ∀ n < N, Ev X k (relab scope sc) (inM (relab scope sc) x (.int (n : Int)) m) elt (g n))
    (hs' : ∀ env v, foldedSetIterable iter env v = pure v := by intro _ _; rfl) :
    Ev X k sc m (.ListComp elt [⟨.Name x px, iter, [], 0⟩] scope pos) (.lst ((List.range N).map g)) := by
  have := ev_comp_i O ((List.range N).map fun (i : Nat) => (i : Int)) (fun _ => true) (fun n => g n.toNat) h1 (items_rng N hN) (by simpa using hN) hfr hcell hkind hx hnames (elt := elt) (px := px) (pos := pos) (fun n hn => tsl_nil) (fun n hn _ => ?_) hs'
  · rw [List.filter_eq_self.mpr (by simp), List.map_map] at this
    have e : (List.range N).map ((fun n : Int => g n.toNat) ∘ fun (i : Nat) => (i : Int)) = (List.range N).map g := by
      apply List.map_congr_left; intro a _; simp
    rw [e] at this; exact this
  · obtain ⟨i, hi, rfl⟩ := List.mem_map.mp hn
    have := he i (List.mem_range.mp hi)
    simpa using this
end
noncomputable def cSpot (n : Int) : Int := (figs n 3 1).fmod 5
noncomputable def cFresh (n : Int) : Int := (figs n 4 3).fmod 256
/-- the colour with one part changed -/
noncomputable def chg (n : Int) (c : List Int) : List Int := (List.range 3).map fun (k : Nat) => if (k : Int) = cSpot n then cFresh n else c.getD k 0
section
variable {X : Fix} (O : X.Ok) (G : Env4 X) {k : Nat}
include O G
theorem con_changed (n : Int) (c : List Int) (hc : c.length = 3) : Con X (k + 2) 10 [.lst (c.map D.int), .int n] (.lst ((chg n c).map D.int)) := by
  refine con_rt O (G.fn 10 (by decide)) ["colour", "number"] (fun pmv cd doc vs h => ?_) rfl (by decide) rfl rfl rfl ?_
  · obtain ⟨a, b, rfl⟩ := len2 h; rfl
  have figE : ∀ {m : Str → Option D} {p1 p2 p3 p4 pos : Pos} {n1 n2 : Nat} {a b : Nat} {x : Str}, m "number" = some (.int n) → x = fname 7 → a ≤ 20 → b ≤ 20 → Ev X (k + 1) (fscope 10) m (.Call (.Name x p1) [.Name "number" p2, .Constant (.int a) n1 p3, .Constant (.int b) n2 p4] [] pos) (.int (figs n a b)) := fun hm hx ha hb =>
    ev_con O (con_figures O G n _ _ ha hb) (evl_cons O (ev_name hm rfl) (evl_cons O ev_int (evl_cons O ev_int (evl_nil O) (fun _ => rfl)) (fun _ => rfl)) (fun _ => rfl)) hx (by rw [hx]; rfl) (by rw [hx]; rfl)
  refine rt_cons (ex_assign O (d := .int (cSpot n)) (ev_bin O (figE rfl rfl (by decide) (by decide)) ev_int (op_fmod_ii _ _ (by decide))) (.inr rfl) (fun _ _ e => by cases e) (fun _ _ => rfl)) ?_
  refine rt_cons (ex_assign O (d := .int (cFresh n)) (ev_bin O (figE rfl rfl (by decide) (by decide)) ev_int (op_fmod_ii _ _ (by decide))) (.inr rfl) (fun _ _ e => by cases e) (fun _ _ => rfl)) ?_
  refine rt_return O ?_
  have e : (chg n c).map D.int = (List.range 3).map fun (k : Nat) => D.int (if (k : Int) = cSpot n then cFresh n else c.getD k 0) := by unfold chg; rw [List.map_map]; rfl
  rw [e]
  refine ev_comp_r O 3 (by decide) _ (ev_call O (glo_range O G) rfl rfl (evl_cons O ev_int (evl_nil O) (fun _ => rfl)) (bi_range O 3)) (by decide) (by decide) rfl rfl (by decide) fun j hj => ?_
  refine ev_ifexp O (c := decide ((j : Int) = cSpot n)) (ts_cmp O (ev_name rfl rfl) (ev_name rfl rfl) (cmp_eq_ii _ _) rfl) (fun h => ?_) (fun h => ?_)
  · rw [if_pos (by simpa using h)]; exact ev_name rfl rfl
  · rw [if_neg (by simpa using h)]
    refine ev_item_lst O (ev_name rfl rfl) (ev_name rfl rfl) (j := j) ?_ ?_ (by (first | lia | omega))
    · have : ([D.int 0, D.int 0, D.int 0] : List D).length = 3 := rfl
      rw [List.length_map, hc]
      have h3 : j = 0 ∨ j = 1 ∨ j = 2 := by (first | lia | omega)
      rcases h3 with rfl | rfl | rfl <;> rfl
    · rw [List.getElem?_map, List.getD_eq_getElem?_getD]
      have : j < c.length := by (first | lia | omega)
      simp [this]
end
end Mine
end
section
open PySem PySem.W PySem.Calls PyProof.Rows
namespace Mine
noncomputable def signs : Str := "0123456789abcdef"
noncomputable def sg (i : Int) : Str := ⟨#[signs.cps.getD i.toNat 0]⟩
noncomputable def hex2 (p : Int) : Str := sg (p.fdiv 16) ++ sg (p.fmod 16)
noncomputable def wordS (c : List Int) : Str := ("#" : Str) ++ Txt.join "" (c.map hex2)
theorem sg_ok (n : Int) (h0 : 0 ≤ n) (h1 : n < 16) : (seqIndex? n signs.length).bind (signs.cps[·]?) = some (signs.cps.getD n.toNat 0) := by
  have : ∀ j : Fin 16, (seqIndex? (j.val : Int) signs.length).bind (signs.cps[·]?) = some (signs.cps.getD (j.val : Int).toNat 0) := by decide +kernel
  have h2 := this ⟨n.toNat, by (first | lia | omega)⟩
  have e : ((n.toNat : Nat) : Int) = n := by (first | lia | omega)
  simp only [e] at h2
  exact h2
theorem hex2_len (p : Int) : (hex2 p).length = 2 := by
  unfold hex2 sg
  rfl
theorem div16 (p : Int) (h : 0 ≤ p ∧ p ≤ 255) : 0 ≤ p.fdiv 16 ∧ p.fdiv 16 < 16 ∧ 0 ≤ p.fmod 16 ∧ p.fmod 16 < 16 := by
  rw [Int.fdiv_eq_ediv_of_nonneg _ (by decide), Int.fmod_eq_emod_of_nonneg _ (by decide)]
  (first | lia | omega)
theorem cat_len (ys : List Str) : (Txt.join "" ys).length = (ys.map (·.length)).sum := by
  show (Builtin.Str.glued "" ys).length = _
  rw [PySem.size_glued, show ("" : Str).length = 0 from rfl, Nat.mul_zero, Nat.add_zero]
theorem hexs_len (c : List Int) (hc : c.length = 3) : ((c.map hex2).map (·.length)).sum = 6 := by
  match c, hc with
  | [a, b, d], _ => simp [hex2_len]
theorem wordS_len (c : List Int) (hc : c.length = 3) : (wordS c).length = 7 := by
  have h : (Txt.join "" (c.map hex2)).length = 6 := by rw [cat_len, hexs_len c hc]
  unfold wordS
  show (("#" : Str).cps ++ (Txt.join "" (c.map hex2)).cps).size = 7
  rw [Array.size_append]
  have h2 : (Txt.join "" (c.map hex2)).cps.size = 6 := h
  rw [h2]; rfl
section
variable {X : Fix} (O : X.Ok) {k : Nat} {sc : Scope} {m : Str → Option D}
include O
theorem ev_comp_a {elt iter : Expr} {x : Str} {px : Pos} {scope : Scope} {pos : Pos} {di : D} (xs : List Int) (g : Int → D)
    (h1 : Ev X k sc m iter di) (hi : itemsOf di = some (xs.map D.int)) (hlen : xs.length ≤ 100000)
    (hfr : ∀ y ∈ scope.names, y.2 = .free → sc.names.lookup y.1 = some .cell) (hcell : ∀ y ∈ scope.names, y.2 ≠ .cell) (hkind : scope.kind = .function) (hx : scope.names.lookup x = some .local)
    (hnames : ∀ y ∈ scope.names, y.2 = .local → scope.names.lookup y.1 = some .local)
    (he : ∀ n ∈ xs, Ev X k (relab scope sc) (inM (relab scope sc) x (.int n) m) elt (g n))
    (hs' : ∀ env v, foldedSetIterable iter env v = pure v := by intro _ _; rfl) :
    Ev X k sc m (.ListComp elt [⟨.Name x px, iter, [], 0⟩] scope pos) (.lst (xs.map g)) := by
  have := ev_comp_i O xs (fun _ => true) g h1 hi hlen hfr hcell hkind hx hnames (elt := elt) (px := px) (pos := pos) (fun n hn => tsl_nil) (fun n hn _ => he n hn) hs'
  rw [List.filter_eq_self.mpr (by simp)] at this
  exact this
end
section
variable {X : Fix} (O : X.Ok) (G : Env4 X) {k : Nat}
include O G
theorem con_word (c : List Int) (hc : c.length = 3) (hb : ∀ p ∈ c, 0 ≤ p ∧ p ≤ 255) : Con X (k + 1) 11 [.lst (c.map D.int)] (.str (wordS c)) := by
  refine con_rt O (G.fn 11 (by decide)) ["colour"] (fun pmv cd doc vs h => ?_) rfl (by decide) rfl rfl rfl ?_
  · obtain ⟨a, rfl⟩ := len1 h; rfl
  refine rt_cons (ex_assign O (d := .str signs) ev_str (.inr rfl) (fun _ _ e => by cases e) (fun _ _ => rfl)) ?_
  have hj : Txt.join "" (c.map hex2) = Txt.join "" (c.map hex2) := rfl
  have hlen : (c.map hex2).map (·.length) = c.map fun _ => 2 := by rw [List.map_map]; apply List.map_congr_left; intro a _; exact hex2_len a
  refine rt_return O (ev_bin O ev_str (ev_meth O ev_str (evl_cons O ?_ (evl_nil O) (fun _ => rfl)) (mt_join "" (c.map hex2) ?_) (fun _ _ => rfl) rfl (by simp)) (op_add_ss _ _ ?_))
  · rw [List.map_map]
    refine ev_comp_a O c _ (ev_name rfl rfl) rfl (by (first | lia | omega)) (by decide) (by decide) rfl rfl (by decide) fun n hn => ?_
    obtain ⟨d1, d2, d3, d4⟩ := div16 n (hb n hn)
    refine ev_bin O (ev_item_str O (ev_name rfl rfl) (ev_bin O (ev_name rfl rfl) ev_int (op_fdiv_ii n 16 (by decide) (by decide))) (sg_ok _ d1 d2) (by (first | lia | omega))) (ev_item_str O (ev_name rfl rfl) (ev_bin O (ev_name rfl rfl) ev_int (op_fmod_ii n 16 (by decide))) (sg_ok _ d3 d4) (by (first | lia | omega))) (op_add_ss _ _ ?_)
    rw [sizeLine_eq]
    exact Nat.le_trans (show (1 + 1 : Nat) ≤ 2 by decide) (by decide)
  · rw [hexs_len c hc, List.length_map, hc]; decide
  · rw [cat_len, hexs_len c hc, sizeLine_eq]; decide
end
end Mine
end
section
open PySem PySem.W PySem.Calls PyProof.Rows
namespace Mine
noncomputable def fall (a : Nat) (off : Int) : Int := min (max (min off (6 * (a : Int) - off) - a) 0) a
noncomputable def fallAt (a : Nat) (i : Int) : Int := fall a (if i < 0 then i + 6 * a else i)
noncomputable def tabRow (a b : Nat) (v : Int) (l c : Nat) : List Int := ([0, 2 * (a : Int), 4 * (a : Int)] : List Int).map fun q => v - v.fdiv ((a : Int) * b) * l * fallAt a (c - q)
noncomputable def tabLine (a b : Nat) (v : Int) (l : Nat) : List (List Int) := (List.range (6 * a)).map fun c => tabRow a b v l c
noncomputable def tabL (a b : Nat) (v : Int) : List (List Int) := (List.range (b + 1)).flatMap fun l => tabLine a b v l
noncomputable def rowD (r : List Int) : D := .lst (r.map D.int)
theorem mul_r (a b : Int) (hb : b.natAbs ≤ 2 ^ 60) : IntMulOk a b := by
  refine IntMulOk.of_right ?_
  unfold Builtin.Int.intBits
  split
  · (first | lia | omega)
  · rename_i h
    have h0 : b.natAbs ≠ 0 := fun e => h (by simpa using e)
    have := (Nat.log2_lt h0 (k := 61)).mpr (by (first | lia | omega))
    (first | lia | omega)
theorem len_fm (f : Nat → List D) (N : Nat) (h : ∀ l, (f l).length = N) : ∀ i, ((List.range i).flatMap f).length = i * N
  | 0 => by simp
  | i + 1 => by rw [List.range_succ, List.flatMap_append, List.length_append, len_fm f N h i]; simp [h, Nat.add_mul]
theorem fall_range (a : Nat) (x : Int) : 0 ≤ fall a x ∧ fall a x ≤ a := by
  unfold fall
  (first | lia | omega)
noncomputable def accL (l : List D) (f : Nat → D) (j : Nat) : List D := (List.range j).foldl (fun t c => t ++ [f c]) l
theorem accL_succ (l : List D) (f : Nat → D) (j : Nat) : accL l f (j + 1) = accL l f j ++ [f j] := by unfold accL; rw [List.range_succ, List.foldl_append]; rfl
theorem accL_eq (l : List D) (f : Nat → D) : ∀ j, accL l f j = l ++ (List.range j).map f
  | 0 => by simp [accL]
  | j + 1 => by rw [accL_succ, accL_eq l f j, List.range_succ, List.map_append, List.append_assoc]; rfl
section
variable {X : Fix} (O : X.Ok) {k : Nat} {sc : Scope} {m : Str → Option D}
include O
theorem ex_for_r {x : Str} {iter : Expr} {px pos : Pos} {body : List Stmt} (N : Nat) (hN : N ≤ 100000) (M : Nat → Str → Option D) (W : Nat → Ow) (h1 : Ev X k sc (M 0) iter (.rng (N : Int)))
    (hk : sc.names.lookup x = some .local ∨ sc.names.lookup x = some .cell) (hw : ∀ i y l, W i = some (y, l) → x ≠ y)
    (hb : ∀ i, i < N → Ex X k sc (up (M i) x (.int (i : Int))) (W i) (execs body) .next (M (i + 1)) (W (i + 1)))
    (hs' : ∀ env v, foldedSetIterable iter env v = pure v := by intro _ _; rfl) (hse : (x == ("word" : Str)) = false := by rfl) :
    Ex X k sc (M 0) (W 0) (exec (.For (.Name x px) iter body [] pos)) .next (M N) (W N) := by
  have := ex_for (px := px) (pos := pos) (body := body) O M W h1 (items_rng N hN) hk hw (fun i d hd => ?_) hs' hse
  · simpa using this
  · rw [List.map_map, List.getElem?_map] at hd
    have hi : i < N := by
      cases q : (List.range N)[i]? with
      | none => rw [q] at hd; cases hd
      | some j => have := (List.getElem?_eq_some_iff.mp q).1; simpa using this
    have : d = .int i := by simp [hi] at hd; exact hd.symm
    subst this
    exact hb i hi
omit O in
theorem less_up {m : Str → Option D} {x : Str} {d : D} (h : m x = none) : ∀ y e, m y = some e → up m x d y = some e := fun y e he => by
  unfold up
  by_cases hy : y = x
  · subst hy; rw [h] at he; cases he
  · rw [if_neg hy]; exact he
end
section
variable {X : Fix} (O : X.Ok) (G : Env4 X) {k : Nat}
include O G
theorem con_table (a b : Nat) (v : Int) (ha : 1 ≤ a ∧ a ≤ 3) (hb : 1 ≤ b ∧ b ≤ 2) (hv : 1 ≤ v ∧ v ≤ 255) : Con X (k + 1) 9 [.tup [.int a, .int b, .int v]] (.lst ((tabL a b v).map rowD)) := by
  refine con_rt O (G.fn 9 (by decide)) ["grid"] (fun pmv cd doc vs h => ?_) rfl (by decide) rfl rfl rfl ?_
  · obtain ⟨a, rfl⟩ := len1 h; rfl
  refine rt_cons (ex_unpack O [("steps", _), ("shares", _), ("value", _)] rfl (ev_name rfl rfl) (.inr rfl) rfl ?_ (fun _ _ _ _ e => by cases e)) ?_
  · intro p hp
    rcases List.mem_cons.mp hp with rfl | hp
    · first | exact .inl rfl | exact .inr rfl
    rcases List.mem_cons.mp hp with rfl | hp
    · first | exact .inl rfl | exact .inr rfl
    rcases List.mem_cons.mp hp with rfl | hp
    · first | exact .inl rfl | exact .inr rfl
    cases hp
  have hab : 1 ≤ (a : Int) * b ∧ (a : Int) * b ≤ 6 := by
    have h1 : a = 1 ∨ a = 2 ∨ a = 3 := by (first | lia | omega)
    have h2 : b = 1 ∨ b = 2 := by (first | lia | omega)
    rcases h1 with rfl | rfl | rfl <;> rcases h2 with rfl | rfl <;> decide
  refine rt_cons (ex_assign O (d := .int (v.fdiv ((a : Int) * b))) (ev_bin O (ev_name rfl rfl) (ev_bin O (ev_name rfl rfl) (ev_name rfl rfl) (op_mul_ii _ _ (mul_l _ _ (by first | decide | omega)))) (op_fdiv_ii _ _ (by (first | lia | omega)) (by (first | lia | omega)))) (.inr rfl) (fun _ _ e => by cases e) (fun _ _ => rfl)) ?_
  have e6 : (6 : Int) * (a : Int) = ((6 * a : Nat) : Int) := by (first | lia | omega)
  have six : ∀ {sc : Scope} {m : Str → Option D} {p2 p3 p4 : Pos} {n : Nat}, m "steps" = some (.int a) → Ev X k sc m (.BinOp (.Constant (.int 6) n p2) .Mult (.Name "steps" p3) p4) (.int (6 * a)) := fun hm => ev_bin O ev_int (ev_name hm rfl) (op_mul_ii _ _ (mul_l _ _ (by first | decide | omega)))
  have rng : ∀ {sc : Scope} {m : Str → Option D} {p1 p2 p3 p4 p5 : Pos} {n : Nat}, m "steps" = some (.int a) → sc.names.lookup ("range" : Str) = some .globalImplicit → Ev X k sc m (.Call (.Name "range" p1) [.BinOp (.Constant (.int 6) n p2) .Mult (.Name "steps" p3) p4] [] p5) (.rng ((6 * a : Nat) : Int)) := fun hm hk => by
    rw [← e6]
    exact ev_call O (glo_range O G) hk rfl (evl_cons O (six hm) (evl_nil O) (fun _ => rfl)) (bi_range O _)
  refine rt_cons (ex_assign O (d := .lst ((List.range (6 * a)).map fun (i : Nat) => D.int (fall a i))) ?_ (.inr rfl) (fun _ _ e => by cases e) (fun env hs => by cases env; cases hs; rfl)) ?_
  · refine ev_comp_r O (6 * a) (by (first | lia | omega)) _ (rng rfl rfl) (by decide) (by decide) rfl rfl (by decide) fun j hj => ?_
    refine ev_call O (glo_min O G) rfl rfl (evl_cons O (ev_call O (glo_max O G) rfl rfl (evl_cons O (ev_bin O (ev_call O (glo_min O G) rfl rfl (evl_cons O (ev_name rfl rfl) (evl_cons O (ev_bin O (six rfl) (ev_name rfl rfl) (op_sub_ii _ _)) (evl_nil O) (fun _ => rfl)) (fun _ => rfl)) (bi_min_ii O _ _)) (ev_name rfl rfl) (op_sub_ii _ _)) (evl_cons O ev_int (evl_nil O) (fun _ => rfl)) (fun _ => rfl)) (bi_max_ii O _ _)) (evl_cons O (ev_name rfl rfl) (evl_nil O) (fun _ => rfl)) (fun _ => rfl)) (bi_min_ii O _ _)
  refine rt_cons (ex_own O (evl_nil O) (by simp) rfl) ?_
  have hb1 : ((b : Int) + 1) = ((b + 1 : Nat) : Int) := by (first | lia | omega)
  refine rt_cons (ex_for_r O (b + 1) (by (first | lia | omega)) (fun _ => _) (fun i => some ("table", (List.range i).flatMap fun l => (tabLine a b v l).map rowD)) ?_ (.inr rfl) (fun i y l e => by cases e; decide) fun i hi => ?_) ?_
  · rw [← hb1]
    exact ev_call O (glo_range O G) rfl rfl (evl_cons O (ev_bin O (ev_name rfl rfl) ev_int (op_add_ii _ _)) (evl_nil O) (fun _ => rfl)) (bi_range O _)
  · refine ex_less ?_ (less_up (x := "line") (d := .int (i : Int)) rfl)
    refine ex_cons (ex_for_r O (6 * a) (by (first | lia | omega)) (fun _ => _) (fun j => some ("table", accL ((List.range i).flatMap fun l => (tabLine a b v l).map rowD) (fun c => rowD (tabRow a b v i c)) j)) (rng rfl rfl) (.inr rfl) (fun i y l e => by cases e; decide) fun j hj => ?_) ?_
    · refine ex_less ?_ (less_up (x := "column") (d := .int (j : Int)) rfl)
      rw [accL_succ]
      refine ex_cons (ex_append O (d := rowD (tabRow a b v i j)) ?_ (fun _ => rfl) ?_ rfl rfl) ex_nil
      · have er : rowD (tabRow a b v i j) = .lst (([0, 2 * (a : Int), 4 * (a : Int)] : List Int).map fun q => D.int (v - v.fdiv ((a : Int) * b) * i * fallAt a (j - q))) := by unfold rowD tabRow; rw [List.map_map]; rfl
        rw [er]
        refine ev_comp_a O [0, 2 * (a : Int), 4 * (a : Int)] _ (ev_list O (evl_cons O ev_int (evl_cons O (ev_bin O ev_int (ev_name rfl rfl) (op_mul_ii _ _ (mul_l _ _ (by first | decide | omega)))) (evl_cons O (ev_bin O ev_int (ev_name rfl rfl) (op_mul_ii _ _ (mul_l _ _ (by first | decide | omega)))) (evl_nil O) (fun _ => rfl)) (fun _ => rfl)) (fun _ => rfl)) (by simp)) rfl (by simp) (by decide) (by decide) rfl rfl (by decide) fun q hq => ?_
        have hq' : q = 0 ∨ q = 2 * (a : Int) ∨ q = 4 * (a : Int) := by simpa using hq
        have fr := fall_range a (if (j : Int) - q < 0 then (j : Int) - q + 6 * a else (j : Int) - q)
        refine ev_bin O (ev_name rfl rfl) (ev_bin O (ev_bin O (ev_name rfl rfl) (ev_name rfl rfl) (op_mul_ii _ _ (mul_r _ _ (by (first | lia | omega))))) (ev_item_lst (d := .int (fallAt a ((j : Int) - q))) (j := (if (j : Int) - q < 0 then (j : Int) - q + 6 * a else (j : Int) - q).toNat) O (ev_name rfl rfl) (ev_bin O (ev_name rfl rfl) (ev_name rfl rfl) (op_sub_ii _ _)) ?_ ?_ (by (first | lia | omega))) (op_mul_ii _ _ (mul_r _ _ ?_))) (op_sub_ii _ _)
        · rw [List.length_map, List.length_range]
          unfold seqIndex?
          have e : (if (j : Int) - q < 0 then (j : Int) - q + ((6 * a : Nat) : Int) else (j : Int) - q) = (if (j : Int) - q < 0 then (j : Int) - q + 6 * a else (j : Int) - q) := by
            rw [← e6]
          dsimp only
          rw [e, if_pos]
          simp only [Bool.and_eq_true, decide_eq_true_eq]
          split <;> (first | lia | omega)
        · rw [List.getElem?_map, List.getElem?_range (by split <;> (first | lia | omega))]
          unfold fallAt
          simp only [Option.map_some]
          rw [Int.toNat_of_nonneg (by split <;> (first | lia | omega))]
        · unfold fallAt; (first | lia | omega)
      · rw [accL_eq, List.length_append, len_fm _ (6 * a) (fun l => by unfold tabLine; simp)]
        have : i * (6 * a) ≤ 2 * (6 * 3) := Nat.mul_le_mul (by (first | lia | omega)) (by (first | lia | omega))
        simp only [List.length_map, List.length_range]
        (first | lia | omega)
    · have : some (("table" : Str), accL ((List.range i).flatMap fun l => (tabLine a b v l).map rowD) (fun c => rowD (tabRow a b v i c)) (6 * a)) = some (("table" : Str), (List.range (i + 1)).flatMap fun l => (tabLine a b v l).map rowD) := by
        rw [accL_eq, List.range_succ, List.flatMap_append]
        simp [tabLine, List.map_map, Function.comp_def]
      rw [← this]
      exact ex_nil
  · refine (fun ⟨a1, b1, h⟩ => ⟨a1, b1, ex_freeze O h⟩) (rt_return O (ev_name ?_ rfl))
    show some (D.lst ((List.range (b + 1)).flatMap fun l => (tabLine a b v l).map rowD)) = _
    unfold tabL
    rw [List.map_flatMap]
end
end Mine
end
section
open PySem PySem.W PySem.Calls PyProof.Rows
namespace Mine
open Float64 (ofInt)
noncomputable def c0 : UInt64 := 0
noncomputable def c1 : UInt64 := 0x3ff0000000000000
noncomputable def c2 : UInt64 := 0x4000000000000000
noncomputable def c4 : UInt64 := 0x4010000000000000
noncomputable def c6 : UInt64 := 0x4018000000000000
noncomputable def hsvI (h : UInt64) : Int := PySem.Flt.toInt Float64.truncOf (Float64.mul h c6)
noncomputable def hsvFr (h : UInt64) : UInt64 := Float64.sub (Float64.mul h c6) (ofInt (hsvI h))
noncomputable def hsvP (s v : UInt64) : UInt64 := Float64.mul v (Float64.sub c1 s)
noncomputable def hsvQ (h s v : UInt64) : UInt64 := Float64.mul v (Float64.sub c1 (Float64.mul s (hsvFr h)))
noncomputable def hsvT (h s v : UInt64) : UInt64 := Float64.mul v (Float64.sub c1 (Float64.mul s (Float64.sub c1 (hsvFr h))))
noncomputable def hsvPick (i : Int) (v p q t : UInt64) : List UInt64 :=
  if i = 0 then [v, t, p] else if i = 1 then [q, v, p] else if i = 2 then [p, v, t] else if i = 3 then [p, q, v] else if i = 4 then [t, p, v] else [v, p, q]
noncomputable def hsvF (h s v : UInt64) : List UInt64 :=
  if (Float64.cmp s c0 == some .eq) = true then [v, v, v] else hsvPick ((hsvI h).fmod 6) v (hsvP s v) (hsvQ h s v) (hsvT h s v)
section
variable {X : Fix} (O : X.Ok) (G : Env4 X) {k : Nat} {sc : Scope} {m : Str → Option D}
include O
theorem ev_tup3 {e1 e2 e3 : Expr} {n : Nat} {pos : Pos} {d1 d2 d3 : D} (h1 : Ev X k sc m e1 d1) (h2 : Ev X k sc m e2 d2) (h3 : Ev X k sc m e3 d3) (hst : ∀ env, starEach [e1, e2, e3] env = [(false, eval e1 env), (false, eval e2 env), (false, eval e3 env)] := by intro _; rfl)
    (hst2 : ∀ env, starEach [e2, e3] env = [(false, eval e2 env), (false, eval e3 env)] := by intro _; rfl) (hst3 : ∀ env, starEach [e3] env = [(false, eval e3 env)] := by intro _; rfl) : Ev X k sc m (.Tuple [e1, e2, e3] n pos) (.tup [d1, d2, d3]) :=
  ev_tuple O (evl_cons O h1 (evl_cons O h2 (evl_cons O h3 (evl_nil O) (fun env => by rw [hst3]; rfl)) (fun env => by rw [hst2, hst3])) (fun env => by rw [hst, hst2])) (by simp)
include G
theorem con_hsv (h s v : UInt64) (hf : Float64.isFinite (Float64.mul h c6) = true) (hi : (hsvI h).natAbs < 2 ^ 1023) : Con X (k + 1) 2 [.flt h, .flt s, .flt v] (.tup ((hsvF h s v).map .flt)) := by
  refine con_rt O (G.fn 2 (by decide)) ["h", "s", "v"] (fun pmv cd doc vs h => ?_) rfl (by decide) rfl rfl rfl ?_
  · obtain ⟨a, b, c, rfl⟩ := len3 h; rfl
  unfold hsvF
  cases hc : (Float64.cmp s c0 == some .eq) with
  | true =>
    rw [if_pos rfl]
    exact rt_if O (ts_cmp O (ev_name rfl rfl) ev_flt (by have := cmp_eq_ff (X := X) (k := k) s c0; rw [hc] at this; exact this) rfl) (rt_return O (ev_tup3 O (ev_name rfl rfl) (ev_name rfl rfl) (ev_name rfl rfl)))
  | false =>
    rw [if_neg Bool.false_ne_true]
    refine rt_skip O (ts_cmp O (ev_name rfl rfl) ev_flt (by have := cmp_eq_ff (X := X) (k := k) s c0; rw [hc] at this; exact this) rfl) ?_
    refine rt_cons (ex_assign O (d := .int (hsvI h)) (ev_call O (glo_int O G) rfl rfl (evl_cons O (ev_bin O (ev_name rfl rfl) ev_flt (op_mul_ff h c6)) (evl_nil O) (fun _ => rfl)) (bi_int_flt O _ hf)) (.inl rfl) (fun _ _ e => by cases e) (fun _ _ => rfl)) ?_
    refine rt_cons (ex_assign O (d := .flt (hsvFr h)) (ev_bin O (ev_bin O (ev_name rfl rfl) ev_flt (op_mul_ff h c6)) (ev_name rfl rfl) (op_sub_fi _ _ hi)) (.inl rfl) (fun _ _ e => by cases e) (fun _ _ => rfl)) ?_
    refine rt_cons (ex_assign O (d := .flt (hsvP s v)) (ev_bin O (ev_name rfl rfl) (ev_bin O ev_flt (ev_name rfl rfl) (op_sub_ff c1 s)) (op_mul_ff _ _)) (.inl rfl) (fun _ _ e => by cases e) (fun _ _ => rfl)) ?_
    refine rt_cons (ex_assign O (d := .flt (hsvQ h s v)) (ev_bin O (ev_name rfl rfl) (ev_bin O ev_flt (ev_bin O (ev_name rfl rfl) (ev_name rfl rfl) (op_mul_ff _ _)) (op_sub_ff c1 _)) (op_mul_ff _ _)) (.inl rfl) (fun _ _ e => by cases e) (fun _ _ => rfl)) ?_
    refine rt_cons (ex_assign O (d := .flt (hsvT h s v)) (ev_bin O (ev_name rfl rfl) (ev_bin O ev_flt (ev_bin O (ev_name rfl rfl) (ev_bin O ev_flt (ev_name rfl rfl) (op_sub_ff c1 _)) (op_mul_ff _ _)) (op_sub_ff c1 _)) (op_mul_ff _ _)) (.inl rfl) (fun _ _ e => by cases e) (fun _ _ => rfl)) ?_
    refine rt_cons (ex_assign O (d := .int ((hsvI h).fmod 6)) (ev_bin O (ev_name rfl rfl) ev_int (op_fmod_ii _ 6 (by decide))) (.inl rfl) (fun _ _ e => by cases e) (fun _ _ => rfl)) ?_
    have r1 := Int.fmod_nonneg_of_pos (hsvI h) (b := 6) (by decide)
    have r2 := Int.fmod_lt_of_pos (hsvI h) (b := 6) (by decide)
    have ht : ∀ {m : Str → Option D} (j : Int) (b : Bool) {p1 p2 p3 : Pos} {n1 : Nat}, m "i" = some (.int ((hsvI h).fmod 6)) → ((hsvI h).fmod 6 == j) = b → Ts X k (fscope 2) m (.Compare (.Name "i" p1) [.Eq] [.Constant (.int j) n1 p2] p3) b := fun j b p1 p2 p3 n1 hm hb =>
      hb ▸ ts_cmp O (ev_name hm rfl) ev_int (cmp_eq_ii _ j) rfl
    generalize (hsvI h).fmod 6 = i at *
    have hh : i = 0 ∨ i = 1 ∨ i = 2 ∨ i = 3 ∨ i = 4 ∨ i = 5 := by (first | lia | omega)
    rcases hh with rfl | rfl | rfl | rfl | rfl | rfl
    · exact rt_if O (ht 0 true rfl rfl) (rt_return O (ev_tup3 O (ev_name rfl rfl) (ev_name rfl rfl) (ev_name rfl rfl)))
    · exact rt_skip O (ht 0 false rfl rfl) (rt_if O (ht 1 true rfl rfl) (rt_return O (ev_tup3 O (ev_name rfl rfl) (ev_name rfl rfl) (ev_name rfl rfl))))
    · exact rt_skip O (ht 0 false rfl rfl) (rt_skip O (ht 1 false rfl rfl) (rt_if O (ht 2 true rfl rfl) (rt_return O (ev_tup3 O (ev_name rfl rfl) (ev_name rfl rfl) (ev_name rfl rfl)))))
    · exact rt_skip O (ht 0 false rfl rfl) (rt_skip O (ht 1 false rfl rfl) (rt_skip O (ht 2 false rfl rfl) (rt_if O (ht 3 true rfl rfl) (rt_return O (ev_tup3 O (ev_name rfl rfl) (ev_name rfl rfl) (ev_name rfl rfl))))))
    · exact rt_skip O (ht 0 false rfl rfl) (rt_skip O (ht 1 false rfl rfl) (rt_skip O (ht 2 false rfl rfl) (rt_skip O (ht 3 false rfl rfl) (rt_if O (ht 4 true rfl rfl) (rt_return O (ev_tup3 O (ev_name rfl rfl) (ev_name rfl rfl) (ev_name rfl rfl)))))))
    · exact rt_skip O (ht 0 false rfl rfl) (rt_skip O (ht 1 false rfl rfl) (rt_skip O (ht 2 false rfl rfl) (rt_skip O (ht 3 false rfl rfl) (rt_skip O (ht 4 false rfl rfl) (rt_if O (ht 5 true rfl rfl) (rt_return O (ev_tup3 O (ev_name rfl rfl) (ev_name rfl rfl) (ev_name rfl rfl))))))))
end
end Mine
end
section
open PySem PySem.W PySem.Calls PyProof.Rows
namespace Mine
open Float64 (ofInt)
noncomputable def rMax (r g b : UInt64) : UInt64 := maxF (maxF r g) b
noncomputable def rMin (r g b : UInt64) : UInt64 := minF (minF r g) b
noncomputable def rRan (r g b : UInt64) : UInt64 := Float64.sub (rMax r g b) (rMin r g b)
/-- how far a component lies below the greatest, of the range -/
noncomputable def rPart (r g b x : UInt64) : UInt64 := Float64.div (Float64.sub (rMax r g b) x) (rRan r g b)
noncomputable def rH (r g b : UInt64) : UInt64 :=
  if (Float64.cmp r (rMax r g b) == some .eq) = true then Float64.sub (rPart r g b b) (rPart r g b g)
  else if (Float64.cmp g (rMax r g b) == some .eq) = true then Float64.sub (Float64.add c2 (rPart r g b r)) (rPart r g b b)
  else Float64.sub (Float64.add c4 (rPart r g b g)) (rPart r g b r)
noncomputable def rHue (r g b : UInt64) : UInt64 := (Float64.divmod (Float64.div (rH r g b) c6) c1).snd
noncomputable def rSat (r g b : UInt64) : UInt64 := Float64.div (rRan r g b) (rMax r g b)
noncomputable def rgbF (r g b : UInt64) : List UInt64 :=
  if (Float64.cmp (rMin r g b) (rMax r g b) == some .eq) = true then [c0, c0, rMax r g b] else [rHue r g b, rSat r g b, rMax r g b]
section
variable {X : Fix} (O : X.Ok) (G : Env4 X) {k : Nat} {sc : Scope} {m : Str → Option D}
theorem rt_ifup {X : Fix} (O : X.Ok) {k : Nat} {sc : Scope} {m : Str → Option D} {ow : Ow} {t : Expr} {b o rest : List Stmt} {pos : Pos} {c : Bool} {d e : D} (x : Str) (h1 : Ts X k sc m t c) (h2 : c = true → Ex X k sc m ow (execs b) .next (up m x e) ow) (h3 : c = false → Ex X k sc m ow (execs o) .next (up m x e) ow)
    (h4 : Rt X k sc (up m x e) ow rest d) : Rt X k sc m ow (.If t b o pos :: rest) d := rt_cons (ex_if O h1 h2 h3) h4
include O G
theorem con_rgb (r g b : UInt64) (hz : ¬ (Float64.cmp (rMin r g b) (rMax r g b) == some .eq) = true → ¬ Float64.isZero (rMax r g b) = true ∧ ¬ Float64.isZero (rRan r g b) = true) : Con X (k + 1) 1 [.flt r, .flt g, .flt b] (.tup ((rgbF r g b).map .flt)) := by
  refine con_rt O (G.fn 1 (by decide)) ["r", "g", "b"] (fun pmv cd doc vs h => ?_) rfl (by decide) rfl rfl rfl ?_
  · obtain ⟨a, b, c, rfl⟩ := len3 h; rfl
  refine rt_cons (ex_assign O (d := .flt (rMax r g b)) (ev_call O (glo_max O G) rfl rfl (evl_cons O (ev_name rfl rfl) (evl_cons O (ev_name rfl rfl) (evl_cons O (ev_name rfl rfl) (evl_nil O) (fun _ => rfl)) (fun _ => rfl)) (fun _ => rfl)) (bi_max_fff O _ _ _)) (.inl rfl) (fun _ _ e => by cases e) (fun _ _ => rfl)) ?_
  refine rt_cons (ex_assign O (d := .flt (rMin r g b)) (ev_call O (glo_min O G) rfl rfl (evl_cons O (ev_name rfl rfl) (evl_cons O (ev_name rfl rfl) (evl_cons O (ev_name rfl rfl) (evl_nil O) (fun _ => rfl)) (fun _ => rfl)) (fun _ => rfl)) (bi_min_fff O _ _ _)) (.inl rfl) (fun _ _ e => by cases e) (fun _ _ => rfl)) ?_
  refine rt_cons (ex_assign O (d := .flt (rRan r g b)) (ev_bin O (ev_name rfl rfl) (ev_name rfl rfl) (op_sub_ff _ _)) (.inl rfl) (fun _ _ e => by cases e) (fun _ _ => rfl)) ?_
  refine rt_cons (ex_assign O (d := .flt (rMax r g b)) (ev_name rfl rfl) (.inl rfl) (fun _ _ e => by cases e) (fun _ _ => rfl)) ?_
  unfold rgbF
  cases hc : (Float64.cmp (rMin r g b) (rMax r g b) == some .eq) with
  | true =>
    rw [if_pos rfl]
    exact rt_if O (ts_cmp O (ev_name rfl rfl) (ev_name rfl rfl) (by have := cmp_eq_ff (X := X) (k := k) (rMin r g b) (rMax r g b); rw [hc] at this; exact this) rfl) (rt_return O (ev_tup3 O ev_flt ev_flt (ev_name rfl rfl)))
  | false =>
    obtain ⟨z1, z2⟩ := hz (by rw [hc]; exact Bool.false_ne_true)
    rw [if_neg Bool.false_ne_true]
    refine rt_skip O (ts_cmp O (ev_name rfl rfl) (ev_name rfl rfl) (by have := cmp_eq_ff (X := X) (k := k) (rMin r g b) (rMax r g b); rw [hc] at this; exact this) rfl) ?_
    refine rt_cons (ex_assign O (d := .flt (rSat r g b)) (ev_bin O (ev_name rfl rfl) (ev_name rfl rfl) (op_div_ff _ _ z1)) (.inl rfl) (fun _ _ e => by cases e) (fun _ _ => rfl)) ?_
    refine rt_cons (ex_assign O (d := .flt (rPart r g b r)) (ev_bin O (ev_bin O (ev_name rfl rfl) (ev_name rfl rfl) (op_sub_ff _ _)) (ev_name rfl rfl) (op_div_ff _ _ z2)) (.inl rfl) (fun _ _ e => by cases e) (fun _ _ => rfl)) ?_
    refine rt_cons (ex_assign O (d := .flt (rPart r g b g)) (ev_bin O (ev_bin O (ev_name rfl rfl) (ev_name rfl rfl) (op_sub_ff _ _)) (ev_name rfl rfl) (op_div_ff _ _ z2)) (.inl rfl) (fun _ _ e => by cases e) (fun _ _ => rfl)) ?_
    refine rt_cons (ex_assign O (d := .flt (rPart r g b b)) (ev_bin O (ev_bin O (ev_name rfl rfl) (ev_name rfl rfl) (op_sub_ff _ _)) (ev_name rfl rfl) (op_div_ff _ _ z2)) (.inl rfl) (fun _ _ e => by cases e) (fun _ _ => rfl)) ?_
    refine rt_ifup O (e := .flt (rH r g b)) "h" (c := (Float64.cmp r (rMax r g b) == some .eq)) (ts_cmp O (ev_name rfl rfl) (ev_name rfl rfl) (cmp_eq_ff _ _) rfl) (fun e1 => ?_) (fun e1 => ?_) ?_
    · have : rH r g b = Float64.sub (rPart r g b b) (rPart r g b g) := by unfold rH; rw [if_pos e1]
      rw [this]
      exact ex_cons (ex_assign O (ev_bin O (ev_name rfl rfl) (ev_name rfl rfl) (op_sub_ff _ _)) (.inl rfl) (fun _ _ e => by cases e) (fun _ _ => rfl)) ex_nil
    · refine ex_cons (ex_if O (c := (Float64.cmp g (rMax r g b) == some .eq)) (ts_cmp O (ev_name rfl rfl) (ev_name rfl rfl) (cmp_eq_ff _ _) rfl) (fun e2 => ?_) (fun e2 => ?_)) ex_nil
      · have : rH r g b = Float64.sub (Float64.add c2 (rPart r g b r)) (rPart r g b b) := by unfold rH; rw [if_neg (by rw [e1]; exact Bool.false_ne_true), if_pos e2]
        rw [this]
        exact ex_cons (ex_assign O (ev_bin O (ev_bin O ev_flt (ev_name rfl rfl) (op_add_ff c2 _)) (ev_name rfl rfl) (op_sub_ff _ _)) (.inl rfl) (fun _ _ e => by cases e) (fun _ _ => rfl)) ex_nil
      · have : rH r g b = Float64.sub (Float64.add c4 (rPart r g b g)) (rPart r g b r) := by unfold rH; rw [if_neg (by rw [e1]; exact Bool.false_ne_true), if_neg (by rw [e2]; exact Bool.false_ne_true)]
        rw [this]
        exact ex_cons (ex_assign O (ev_bin O (ev_bin O ev_flt (ev_name rfl rfl) (op_add_ff c4 _)) (ev_name rfl rfl) (op_sub_ff _ _)) (.inl rfl) (fun _ _ e => by cases e) (fun _ _ => rfl)) ex_nil
    · refine rt_cons (ex_assign O (d := .flt (rHue r g b)) (ev_bin O (ev_bin O (ev_name rfl rfl) ev_flt (op_div_ff _ c6 (by decide +kernel))) ev_flt (op_mod_ff _ c1 (by decide +kernel))) (.inl rfl) (fun _ _ e => by cases e) (fun _ _ => rfl)) ?_
      exact rt_return O (ev_tup3 O (ev_name rfl rfl) (ev_name rfl rfl) (ev_name rfl rfl))
end
end Mine
end
section
open PySem PySem.W PySem.Calls PyProof.Rows
namespace Mine
open Float64 (ofInt)
noncomputable def hueF (a : Nat) (T : Int) (c : Nat) : UInt64 := Float64.add (ofInt T) (Float64.ofFrac false c (6 * a))
noncomputable def shareF (l b : Nat) : UInt64 := Float64.ofFrac false l b
noncomputable def valF (v : Int) : UInt64 := Float64.ofFrac false v.natAbs 255
noncomputable def rnd255 (x : UInt64) : Int := PySem.Flt.toInt Float64.nearestOf (Float64.mul (ofInt 255) x)
/-- the column is painted as whole numbers put it -/
structure Painted (a b : Nat) (v : Int) (l : Nat) (T : Int) (c : Nat) : Prop where
  hf : Float64.isFinite (Float64.mul (hueF a T c) c6) = true
  hi : (hsvI (hueF a T c)).natAbs < 2 ^ 1023
  he : ∀ x ∈ hsvF (hueF a T c) (shareF l b) (valF v), Float64.isFinite (Float64.mul (ofInt 255) x) = true
  hr : (hsvF (hueF a T c) (shareF l b) (valF v)).map rnd255 = tabRow a b v l c
noncomputable def onF (g : UInt64 → D) : D → D
  | .flt n => g n
  | _ => .none
noncomputable def lineS (a b : Nat) (v : Int) (l : Nat) : Str := Txt.join "" ((List.range (6 * a)).map fun c => wordS (tabRow a b v l c))
theorem small1023 (n : Nat) (h : n < 1000) : n < 2 ^ 1023 := Nat.lt_of_lt_of_le (show n < 2 ^ 10 by (first | lia | omega)) (Nat.pow_le_pow_right (by decide) (by decide))
theorem sum7 : ∀ n : Nat, ((List.range n).map fun _ => 7).sum = 7 * n
  | 0 => rfl
  | n + 1 => by rw [List.range_succ, List.map_append, List.sum_append, sum7 n]; simp; (first | lia | omega)
theorem tabRow_len (a b : Nat) (v : Int) (l c : Nat) : (tabRow a b v l c).length = 3 := rfl
section
variable {X : Fix} (O : X.Ok) {k : Nat} {sc : Scope} {m : Str → Option D}
include O
theorem ev_comp_f {elt iter : Expr} {x : Str} {px : Pos} {scope : Scope} {pos : Pos} {di : D} (xs : List UInt64) (g : UInt64 → D)
    (h1 : Ev X k sc m iter di) (hi : itemsOf di = some (xs.map D.flt)) (hlen : xs.length ≤ 100000)
    (hfr : ∀ y ∈ scope.names, y.2 = .free → sc.names.lookup y.1 = some .cell) (hcell : ∀ y ∈ scope.names, y.2 ≠ .cell) (hkind : scope.kind = .function) (hx : scope.names.lookup x = some .local)
    (hnames : ∀ y ∈ scope.names, y.2 = .local → scope.names.lookup y.1 = some .local)
    (he : ∀ n ∈ xs, Ev X k (relab scope sc) (inM (relab scope sc) x (.flt n) m) elt (g n))
    (hs' : ∀ env v, foldedSetIterable iter env v = pure v := by intro _ _; rfl) :
    Ev X k sc m (.ListComp elt [⟨.Name x px, iter, [], 0⟩] scope pos) (.lst (xs.map g)) := by
  have := ev_comp (xs := xs.map D.flt) O (fun _ => true) (onF g) h1 hi (by simpa using hlen) hfr hcell hkind hx hnames (ifs := []) (elt := elt) (px := px) (pos := pos) (fun d hd => tsl_nil) (fun d hd hp => ?_) hs'
  · rw [List.filter_eq_self.mpr (by simp), List.map_map] at this
    exact this
  · obtain ⟨n, hn, rfl⟩ := List.mem_map.mp hd
    exact he n hn
end
section
variable {X : Fix} (O : X.Ok) (G : Env4 X) {k : Nat} {sc : Scope} {m : Str → Option D}
include O G
set_option maxHeartbeats 2000000 in
theorem con_line (a b : Nat) (v : Int) (l : Nat) (T : Int) (ha : 1 ≤ a ∧ a ≤ 3) (hb : 1 ≤ b ∧ b ≤ 2) (hv : 1 ≤ v ∧ v ≤ 255) (hl : l ≤ 2) (hT : T.natAbs < 1000) (hr : ∀ c, c < 6 * a → ∀ p ∈ tabRow a b v l c, 0 ≤ p ∧ p ≤ 255) (hp : ∀ c, c < 6 * a → Painted a b v l T c) :
    Con X (k + 2) 12 [.tup [.int a, .int b, .int v], .int l, .int T] (.str (lineS a b v l)) := by
  refine con_rt O (G.fn 12 (by decide)) ["grid", "line", "turns"] (fun pmv cd doc vs h => ?_) rfl (by decide) rfl rfl rfl ?_
  · obtain ⟨a, b, c, rfl⟩ := len3 h; rfl
  refine rt_cons (ex_unpack O [("steps", _), ("shares", _), ("value", _)] rfl (ev_name rfl rfl) (.inr rfl) rfl ?_ (fun _ _ _ _ e => by cases e)) ?_
  · intro p hp
    rcases List.mem_cons.mp hp with rfl | hp
    · first | exact .inl rfl | exact .inr rfl
    rcases List.mem_cons.mp hp with rfl | hp
    · first | exact .inl rfl | exact .inr rfl
    rcases List.mem_cons.mp hp with rfl | hp
    · first | exact .inl rfl | exact .inr rfl
    cases hp
  have e6 : (6 : Int) * (a : Int) = ((6 * a : Nat) : Int) := by (first | lia | omega)
  have six : ∀ {sc : Scope} {m : Str → Option D} {p2 p3 p4 : Pos} {n : Nat}, m "steps" = some (.int a) → Ev X (k + 1) sc m (.BinOp (.Constant (.int 6) n p2) .Mult (.Name "steps" p3) p4) (.int (6 * a)) := fun hm => ev_bin O ev_int (ev_name hm rfl) (op_mul_ii _ _ (mul_l _ _ (by first | decide | omega)))
  have rng : ∀ {sc : Scope} {m : Str → Option D} {p1 p2 p3 p4 p5 : Pos} {n : Nat}, m "steps" = some (.int a) → sc.names.lookup ("range" : Str) = some .globalImplicit → Ev X (k + 1) sc m (.Call (.Name "range" p1) [.BinOp (.Constant (.int 6) n p2) .Mult (.Name "steps" p3) p4] [] p5) (.rng ((6 * a : Nat) : Int)) := fun hm hk => by
    rw [← e6]
    exact ev_call O (glo_range O G) hk rfl (evl_cons O (six hm) (evl_nil O) (fun _ => rfl)) (bi_range O _)
  refine rt_cons (ex_own O (evl_nil O) (by simp) rfl) ?_
  refine rt_cons (ex_for_r O (6 * a) (by (first | lia | omega)) (fun _ => _) (fun i => some ("words", accL [] (fun c => D.str (wordS (tabRow a b v l c))) i)) (rng rfl rfl) (.inl rfl) (fun i y l e => by cases e; decide) fun i hi => ?_) ?_
  · obtain ⟨h1, h2, h3, h4⟩ := hp i hi
    refine ex_less (m' := up (up _ "column" (.int (i : Int))) "painted" (.tup ((hsvF (hueF a T i) (shareF l b) (valF v)).map .flt))) ?_ (fun y e he => less_up (x := "painted") rfl y e (less_up (x := "column") (d := .int (i : Int)) rfl y e he))
    rw [accL_succ]
    refine ex_cons (ex_assign O (ev_con O (con_hsv O G (hueF a T i) (shareF l b) (valF v) h1 h2) (evl_cons O (ev_bin O (ev_name rfl rfl) (ev_bin O (ev_name rfl rfl) (six rfl) (op_div_ii _ _ ?_ ?_ ?_)) ?_) (evl_cons O (ev_bin O (ev_name rfl rfl) (ev_name rfl rfl) (op_div_ii _ _ ?_ ?_ ?_)) (evl_cons O (ev_bin O (ev_name rfl rfl) ev_int (op_div_ii _ _ ?_ ?_ ?_)) (evl_nil O) (fun _ => rfl)) (fun _ => rfl)) (fun _ => rfl)) rfl rfl rfl) (.inl rfl) (fun y l e => by cases e; decide) (fun _ _ => rfl)) ?_
    · (first | lia | omega)
    · (first | lia | omega)
    · exact small1023 _ (by (first | lia | omega))
    · have := op_add_if (X := X) (k := k + 1) T (Float64.ofFrac false ((i : Int)).natAbs (6 * (a : Int)).natAbs) (small1023 _ hT)
      have e1 : ((i : Int)).natAbs = i := by (first | lia | omega)
      have e2 : (6 * (a : Int)).natAbs = 6 * a := by (first | lia | omega)
      rw [e1, e2] at this
      rw [e1, e2]
      exact this
    · (first | lia | omega)
    · (first | lia | omega)
    · exact small1023 _ (by (first | lia | omega))
    · (first | lia | omega)
    · (first | lia | omega)
    · exact small1023 _ (by (first | lia | omega))
    · refine ex_cons (ex_append O (d := .str (wordS (tabRow a b v l i))) ?_ (fun _ => rfl) ?_ rfl rfl) ex_nil
      · refine ev_con O (con_word O G (tabRow a b v l i) rfl (hr i hi)) (evl_cons O ?_ (evl_nil O) (fun _ => rfl)) rfl rfl rfl
        rw [← h4, List.map_map]
        refine ev_comp_f O (hsvF (hueF a T i) (shareF l b) (valF v)) _ (ev_name rfl rfl) rfl ?_ (by decide) (by decide) rfl rfl (by decide) fun x hx => ?_
        · have : ((hsvF (hueF a T i) (shareF l b) (valF v)).map rnd255).length = 3 := by rw [h4]; rfl
          rw [List.length_map] at this; (first | lia | omega)
        · exact ev_call O (glo_round O G) rfl rfl (evl_cons O (ev_bin O ev_int (ev_name rfl rfl) (op_mul_if 255 x (Nat.lt_of_lt_of_le (show (255 : Int).natAbs < 2 ^ 10 by decide) (Nat.pow_le_pow_right (by decide) (by decide))))) (evl_nil O) (fun _ => rfl)) (bi_round O _ (h3 x hx))
      · rw [accL_eq, List.nil_append, List.length_map, List.length_range]; (first | lia | omega)
  · refine (fun ⟨a1, b1, h⟩ => ⟨a1, b1, ex_freeze O h⟩) (rt_return O (ev_meth O ev_str (evl_cons O (ev_name ?_ rfl) (evl_nil O) (fun _ => rfl)) (mt_join "" ((List.range (6 * a)).map fun c => wordS (tabRow a b v l c)) ?_) (fun _ _ => rfl) rfl (by simp)))
    · rw [List.map_map]
      show some (D.lst (accL [] _ (6 * a))) = _
      rw [accL_eq, List.nil_append]
      rfl
    · rw [List.map_map]
      have e : ((List.range (6 * a)).map ((fun x : Str => x.length) ∘ fun c => wordS (tabRow a b v l c))) = (List.range (6 * a)).map fun _ => 7 := by
        apply List.map_congr_left; intro c _; simp only [Function.comp]; rw [wordS_len _ (tabRow_len a b v l c)]
      rw [e, sum7, show ("" : Str).length = 0 from rfl]
      (first | lia | omega)
end
end Mine
end
section
open PySem PySem.W PySem.Calls PyProof.Rows
namespace Mine
open Float64 (ofInt)
noncomputable def near (x : UInt64) : Int := PySem.Flt.toInt Float64.nearestOf x
noncomputable def sizesF (a b : Nat) (c1 c2 c3 : Int) : List UInt64 :=
  let r := rgbF (valF c1) (valF c2) (valF c3)
  [Float64.mul (ofInt (6 * a)) (r.getD 0 0), Float64.mul (ofInt b) (r.getD 1 0), Float64.mul (ofInt 255) (r.getD 2 0)]
noncomputable def wholesF (a b : Nat) (v : Int) (c1 c2 c3 : Int) : List Int := [near ((sizesF a b c1 c2 c3).getD 0 0), near ((sizesF a b c1 c2 c3).getD 1 0), v]
noncomputable def placeF (a b : Nat) (v : Int) (c1 c2 c3 : Int) : List (Int × Int) :=
  if (sizesF a b c1 c2 c3).map (fun x => near (Float64.mul (ofInt (2 ^ 20)) x)) = (wholesF a b v c1 c2 c3).map (fun w => 2 ^ 20 * w) then [(1 + (wholesF a b v c1 c2 c3).getD 1 0, 7 * (wholesF a b v c1 c2 c3).getD 0 0)] else []
structure PlaceOk (a b : Nat) (c1 c2 c3 : Int) : Prop where
  hz : ¬ (Float64.cmp (rMin (valF c1) (valF c2) (valF c3)) (rMax (valF c1) (valF c2) (valF c3)) == some .eq) = true → ¬ Float64.isZero (rMax (valF c1) (valF c2) (valF c3)) = true ∧ ¬ Float64.isZero (rRan (valF c1) (valF c2) (valF c3)) = true
  h1 : ∀ x ∈ sizesF a b c1 c2 c3, Float64.isFinite x = true
  h2 : ∀ x ∈ sizesF a b c1 c2 c3, Float64.isFinite (Float64.mul (ofInt (2 ^ 20)) x) = true
theorem rgbF_three (r g b : UInt64) : ∃ x y z, rgbF r g b = [x, y, z] := by unfold rgbF; split <;> exact ⟨_, _, _, rfl⟩
theorem rt_ite {X : Fix} (O : X.Ok) {k : Nat} {sc : Scope} {m : Str → Option D} {ow : Ow} {t : Expr} {b rest : List Stmt} {pos : Pos} {c : Bool} {d : D} (h1 : Ts X k sc m t c) (h2 : c = true → Rt X k sc m ow b d) (h3 : c = false → Rt X k sc m ow rest d) : Rt X k sc m ow (.If t b [] pos :: rest) d := by
  cases c with
  | true => exact rt_if O h1 (h2 rfl)
  | false => exact rt_skip O h1 (h3 rfl)
section
variable {X : Fix} (O : X.Ok) (G : Env4 X) {k : Nat} {sc : Scope} {m : Str → Option D}
include O
theorem ev_list3 {e1 e2 e3 : Expr} {pos : Pos} {d1 d2 d3 : D} (h1 : Ev X k sc m e1 d1) (h2 : Ev X k sc m e2 d2) (h3 : Ev X k sc m e3 d3) (hst : ∀ env, starEach [e1, e2, e3] env = [(false, eval e1 env), (false, eval e2 env), (false, eval e3 env)] := by intro _; rfl)
    (hst2 : ∀ env, starEach [e2, e3] env = [(false, eval e2 env), (false, eval e3 env)] := by intro _; rfl) (hst3 : ∀ env, starEach [e3] env = [(false, eval e3 env)] := by intro _; rfl) : Ev X k sc m (.List [e1, e2, e3] pos) (.lst [d1, d2, d3]) :=
  ev_list O (evl_cons O h1 (evl_cons O h2 (evl_cons O h3 (evl_nil O) (fun env => by rw [hst3]; rfl)) (fun env => by rw [hst2, hst3])) (fun env => by rw [hst, hst2])) (by simp)
include G
set_option maxHeartbeats 2000000 in
theorem con_place (a b : Nat) (v : Int) (c1 c2 c3 : Int) (ha : 1 ≤ a ∧ a ≤ 3) (hb : 1 ≤ b ∧ b ≤ 2) (hc : (0 ≤ c1 ∧ c1 ≤ 255) ∧ (0 ≤ c2 ∧ c2 ≤ 255) ∧ (0 ≤ c3 ∧ c3 ≤ 255)) (hp : PlaceOk a b c1 c2 c3) :
    Con X (k + 2) 13 [.tup [.int a, .int b, .int v], .lst ([c1, c2, c3].map D.int)] (.lst ((placeF a b v c1 c2 c3).map pr)) := by
  obtain ⟨hz, h1, h2⟩ := hp
  obtain ⟨hu, sh, mo, hrgb⟩ := rgbF_three (valF c1) (valF c2) (valF c3)
  have hsz : sizesF a b c1 c2 c3 = [Float64.mul (ofInt (6 * a)) hu, Float64.mul (ofInt b) sh, Float64.mul (ofInt 255) mo] := by unfold sizesF; rw [hrgb]; rfl
  have hwh : wholesF a b v c1 c2 c3 = [near (Float64.mul (ofInt (6 * a)) hu), near (Float64.mul (ofInt b) sh), v] := by unfold wholesF; rw [hsz]; rfl
  unfold placeF
  rw [hsz] at h1 h2
  rw [hwh, hsz]
  generalize hs0 : Float64.mul (ofInt (6 * a)) hu = s0 at *
  generalize hs1 : Float64.mul (ofInt b) sh = s1 at *
  generalize hs2 : Float64.mul (ofInt 255) mo = s2 at *
  refine con_rt O (G.fn 13 (by decide)) ["grid", "colour"] (fun pmv cd doc vs h => ?_) rfl (by decide) rfl rfl rfl ?_
  · obtain ⟨a, b, rfl⟩ := len2 h; rfl
  refine rt_cons (ex_unpack O [("steps", _), ("shares", _), ("value", _)] rfl (ev_name rfl rfl) (.inr rfl) rfl ?_ (fun _ _ _ _ e => by cases e)) ?_
  · intro p hp
    rcases List.mem_cons.mp hp with rfl | hp
    · first | exact .inl rfl | exact .inr rfl
    rcases List.mem_cons.mp hp with rfl | hp
    · first | exact .inl rfl | exact .inr rfl
    rcases List.mem_cons.mp hp with rfl | hp
    · first | exact .inl rfl | exact .inr rfl
    cases hp
  refine rt_cons (ex_unpack O [("red", _), ("green", _), ("blue", _)] rfl (ev_comp_a O [c1, c2, c3] (fun c => .flt (valF c)) (ev_name rfl rfl) rfl (by simp) (by decide) (by decide) rfl rfl (by decide) fun n hn => ?_) (.inl rfl) rfl ?_ (fun _ _ _ _ e => by cases e)) ?_
  · have hn' : 0 ≤ n ∧ n ≤ 255 := by
      simp at hn
      rcases hn with rfl | rfl | rfl
      · exact hc.1
      · exact hc.2.1
      · exact hc.2.2
    exact ev_bin O (ev_name rfl rfl) ev_int (op_div_ii n 255 (by (first | lia | omega)) (by (first | lia | omega)) (small1023 _ (by (first | lia | omega))))
  · intro p hp
    rcases List.mem_cons.mp hp with rfl | hp
    · first | exact .inl rfl | exact .inr rfl
    rcases List.mem_cons.mp hp with rfl | hp
    · first | exact .inl rfl | exact .inr rfl
    rcases List.mem_cons.mp hp with rfl | hp
    · first | exact .inl rfl | exact .inr rfl
    cases hp
  have cr : Con X (k + 1) 1 [.flt (valF c1), .flt (valF c2), .flt (valF c3)] (.tup [.flt hu, .flt sh, .flt mo]) := by
    have := con_rgb (k := k) O G (valF c1) (valF c2) (valF c3) hz
    rw [hrgb] at this
    exact this
  refine rt_cons (ex_unpack O [("hue", _), ("share", _), ("most", _)] rfl (ev_con O cr (evl_cons O (ev_name rfl rfl) (evl_cons O (ev_name rfl rfl) (evl_cons O (ev_name rfl rfl) (evl_nil O) (fun _ => rfl)) (fun _ => rfl)) (fun _ => rfl)) rfl rfl rfl) (.inr rfl) rfl ?_ (fun _ _ _ _ e => by cases e)) ?_
  · intro p hp
    rcases List.mem_cons.mp hp with rfl | hp
    · first | exact .inl rfl | exact .inr rfl
    rcases List.mem_cons.mp hp with rfl | hp
    · first | exact .inl rfl | exact .inr rfl
    rcases List.mem_cons.mp hp with rfl | hp
    · first | exact .inl rfl | exact .inr rfl
    cases hp
  refine rt_cons (ex_assign O (d := .lst ([s0, s1, s2].map D.flt)) (ev_list3 O (d1 := .flt s0) (d2 := .flt s1) (d3 := .flt s2) ?_ ?_ ?_) (.inl rfl) (fun _ _ e => by cases e) (fun _ _ => rfl)) ?_
  · rw [← hs0]; exact ev_bin O (ev_bin O ev_int (ev_name rfl rfl) (op_mul_ii _ _ (mul_l _ _ (by decide)))) (ev_name rfl rfl) (op_mul_if _ _ (small1023 _ (by (first | lia | omega))))
  · rw [← hs1]; exact ev_bin O (ev_name rfl rfl) (ev_name rfl rfl) (op_mul_if _ _ (small1023 _ (by (first | lia | omega))))
  · rw [← hs2]; exact ev_bin O ev_int (ev_name rfl rfl) (op_mul_if _ _ (small1023 _ (by decide)))
  refine rt_cons (ex_assign O (d := .lst ([near s0, near s1, v].map D.int)) (ev_list3 O (d1 := .int (near s0)) (d2 := .int (near s1)) (d3 := .int v) ?_ ?_ ?_) (.inl rfl) (fun _ _ e => by cases e) (fun _ _ => rfl)) ?_
  · exact ev_call O (glo_round O G) rfl rfl (evl_cons O (ev_item_lst (j := 0) O (ev_name rfl rfl) ev_int rfl rfl (by decide)) (evl_nil O) (fun _ => rfl)) (bi_round O _ (h1 _ (by simp)))
  · exact ev_call O (glo_round O G) rfl rfl (evl_cons O (ev_item_lst (j := 1) O (ev_name rfl rfl) ev_int rfl rfl (by decide)) (evl_nil O) (fun _ => rfl)) (bi_round O _ (h1 _ (by simp)))
  · exact ev_name rfl rfl
  refine rt_ite O (c := !decide (([s0, s1, s2]).map (fun x => near (Float64.mul (ofInt (2 ^ 20)) x)) = ([near s0, near s1, v]).map (fun w => 2 ^ 20 * w))) (ts_cmp O (ev_comp_f O [s0, s1, s2] (fun x => .int (near (Float64.mul (ofInt (2 ^ 20)) x))) (ev_name rfl rfl) rfl (by simp) (by decide) (by decide) rfl rfl (by decide) fun n hn => ?_) (ev_comp_a O [near s0, near s1, v] (fun w => .int (2 ^ 20 * w)) (ev_name rfl rfl) rfl (by simp) (by decide) (by decide) rfl rfl (by decide) fun n hn => ?_) (cmp_ne_ints O ([s0, s1, s2].map (fun x => near (Float64.mul (ofInt (2 ^ 20)) x))) ([near s0, near s1, v].map (fun w => 2 ^ 20 * w))) rfl) (fun e => ?_) (fun e => ?_)
  · have pw : Op2 X (k + 1) (binaryOp .Pow) (.int 2) (.int 20) (.int (2 ^ 20)) := op_pow_ii 2 20 (by decide) (by decide +kernel)
    exact ev_call O (glo_round O G) rfl rfl (evl_cons O (ev_bin O (ev_bin O ev_int ev_int pw) (ev_name rfl rfl) (op_mul_if _ _ (Nat.lt_of_lt_of_le (show (2 ^ 20 : Int).natAbs < 2 ^ 21 by decide) (Nat.pow_le_pow_right (by decide) (by decide))))) (evl_nil O) (fun _ => rfl)) (bi_round O _ (h2 n hn))
  · have pw : Op2 X (k + 1) (binaryOp .Pow) (.int 2) (.int 20) (.int (2 ^ 20)) := op_pow_ii 2 20 (by decide) (by decide +kernel)
    exact ev_bin O (ev_bin O ev_int ev_int pw) (ev_name rfl rfl) (op_mul_ii _ _ (mul_l _ _ (by decide)))
  · rw [if_neg (of_decide_eq_false (by rw [Bool.not_eq_true'] at e; exact e))]
    exact rt_return O (ev_list O (evl_nil O) (by simp))
  · rw [if_pos (of_decide_eq_true (by rw [Bool.not_eq_false'] at e; exact e))]
    refine rt_return O (ev_list O (evl_cons O (ev_tuple O (evl_cons O (ev_bin O ev_int (ev_item_lst (j := 1) O (ev_name rfl rfl) ev_int rfl rfl (by decide)) (op_add_ii _ _)) (evl_cons O (ev_bin O ev_int (ev_item_lst (j := 0) O (ev_name rfl rfl) ev_int rfl rfl (by decide)) (op_mul_ii _ _ (mul_l _ _ (by decide)))) (evl_nil O) (fun _ => rfl)) (fun _ => rfl)) (by simp)) (evl_nil O) (fun _ => rfl)) (by simp))
end
end Mine
end
section
open PySem PySem.W PySem.Calls PyProof.Rows
namespace Mine
open Builtin.Str StrLaws
noncomputable def aheadS (j : Nat) : Str := (["", "+", "0", "+00"] : List Str).getD j ""
noncomputable def numS (n : Nat) : Str := Str.ofString (toString (n : Int))
noncomputable def preS (j n : Nat) : Str := aheadS j ++ numS n
noncomputable def okNum (j n : Nat) : Bool := decide ((preS j n).length ≤ 20) && decide ((numS n).length ≤ 20) && decide ((aheadS j).length ≤ 20) && (preS j n).cps.all (fun c => c != 46) && decide (PySem.intText? (preS j n) = some (n : Int))
theorem okNum_all : (List.range 4).all (fun j => (List.range 150).all fun n => okNum j n) = true := by decide +kernel
theorem okNum_at {j n : Nat} (hj : j < 4) (hn : n < 150) : (preS j n).length ≤ 20 ∧ (numS n).length ≤ 20 ∧ (aheadS j).length ≤ 20 ∧ (∀ c ∈ (preS j n).cps, c ≠ 46) ∧ PySem.intText? (preS j n) = some (n : Int) := by
  have h := List.all_eq_true.mp (List.all_eq_true.mp okNum_all j (List.mem_range.mpr hj)) n (List.mem_range.mpr hn)
  unfold okNum at h
  simp only [Bool.and_eq_true, decide_eq_true_eq] at h
  refine ⟨h.1.1.1.1, h.1.1.1.2, h.1.1.2, fun c hc => ?_, h.2⟩
  have := Array.all_eq_true'.mp h.1.2 c hc
  simpa using this
theorem str_append_cps (x y : Str) : (x ++ y).cps = x.cps ++ y.cps := rfl
theorem dot_cps : (("." : Str)).cps = #[46] := by decide +kernel
theorem str_ext {x y : Str} (h : x.cps = y.cps) : x = y := by cases x; cases y; cases h; rfl
theorem split_dot (u v : Str) (hu : ∀ c ∈ u.cps, c ≠ 46) (hv : ∀ c ∈ v.cps, c ≠ 46) :
    partsBetween ((u ++ ".") ++ v) (occurrences ((u ++ ".") ++ v) "." 0 ((u ++ ".") ++ v).length (((u ++ ".") ++ v).length + 1)) (("." : Str)).length = [u, v] ∧ Txt.split ((u ++ ".") ++ v) "." = [u, v] := by
  have hc : ((u ++ ".") ++ v).cps = u.cps ++ #[46] ++ v.cps := by rw [str_append_cps, str_append_cps, dot_cps]
  have dl : (("." : Str)).length = 1 := by show (("." : Str)).cps.size = 1; rw [dot_cps]; rfl
  have ul : u.length = u.cps.size := rfl
  have vl : v.length = v.cps.size := rfl
  have xl : ((u ++ ".") ++ v).length = u.cps.size + 1 + v.cps.size := by show ((u ++ ".") ++ v).cps.size = _; rw [hc]; simp
  have at_iff : ∀ i, At ((u ++ ".") ++ v) "." ((u ++ ".") ++ v).length i → i = u.cps.size := fun i ⟨h1, h2⟩ => by
    unfold subAt at h2
    rw [dl] at h1 h2
    rw [xl] at h1
    rw [dot_cps] at h2
    have h3 : ((u ++ ".") ++ v).cps.extract i (i + 1) = #[46] := by simpa using h2
    have h4 : (((u ++ ".") ++ v).cps.extract i (i + 1))[0]? = some 46 := by rw [h3]; rfl
    rw [Array.getElem?_extract] at h4
    have h5 : ((u ++ ".") ++ v).cps[i]? = some 46 := by
      split at h4
      · simpa using h4
      · cases h4
    rw [hc, Array.getElem?_append] at h5
    rcases Nat.lt_trichotomy i u.cps.size with h | h | h
    · rw [if_pos (by simp; (first | lia | omega)), Array.getElem?_append_left h] at h5
      exact absurd rfl (hu _ (Array.mem_of_getElem? h5))
    · exact h
    · rw [if_neg (by simp; (first | lia | omega))] at h5
      exact absurd rfl (hv _ (Array.mem_of_getElem? h5))
  have hat : At ((u ++ ".") ++ v) "." ((u ++ ".") ++ v).length u.cps.size := by
    refine ⟨by rw [xl, dl]; (first | lia | omega), ?_⟩
    unfold subAt
    rw [dl, hc, dot_cps]
    have : (u.cps ++ #[46] ++ v.cps).extract u.cps.size (u.cps.size + 1) = #[46] := by
      apply Array.toList_inj.mp
      simp [List.extract_eq_take_drop]
    rw [this]; rfl
  have hocc : occurrences ((u ++ ".") ++ v) "." 0 ((u ++ ".") ++ v).length (((u ++ ".") ++ v).length + 1) = [u.cps.size] := by
    obtain ⟨f, hf⟩ := occ_chain ((u ++ ".") ++ v) "." (((u ++ ".") ++ v).length + 1)
    rcases occ_head ((u ++ ".") ++ v) "." (((u ++ ".") ++ v).length + 1) (by (first | lia | omega)) with ⟨h0, hn⟩ | ⟨i, r, h0, ha, _⟩
    · exact absurd hat (hn _)
    · have hi := at_iff i ha
      subst hi
      rw [h0] at hf
      rw [h0]
      cases r with
      | nil => rfl
      | cons c r =>
        obtain ⟨_, _, q1, q2, _⟩ := hf
        have := at_iff c q2
        rw [dl] at q1
        (first | lia | omega)
  have hp : partsBetween ((u ++ ".") ++ v) [u.cps.size] (("." : Str)).length = [u, v] := by
    rw [partsBetween_eq, dl]
    show [strSub ((u ++ ".") ++ v) 0 u.cps.size, strSub ((u ++ ".") ++ v) (u.cps.size + 1) ((u ++ ".") ++ v).length] = [u, v]
    have e1 : strSub ((u ++ ".") ++ v) 0 u.cps.size = u := str_ext (by
      show ((u ++ ".") ++ v).cps.extract 0 u.cps.size = u.cps
      rw [hc, Array.append_assoc]
      simp [Array.extract_append])
    have e2 : strSub ((u ++ ".") ++ v) (u.cps.size + 1) ((u ++ ".") ++ v).length = v := str_ext (by
      show ((u ++ ".") ++ v).cps.extract (u.cps.size + 1) ((u ++ ".") ++ v).length = v.cps
      rw [hc, xl]
      simp [Array.extract_append, Nat.add_sub_cancel_left])
    rw [e1, e2]
  rw [hocc]
  refine ⟨hp, ?_⟩
  unfold Txt.split
  rw [hocc, hp]
  rw [if_neg, if_neg (by simp)]
  rw [Bool.not_eq_true, Bool.or_eq_false_iff]
  refine ⟨decide_eq_false (by rw [xl, dl]; (first | lia | omega)), decide_eq_false ?_⟩
  have : Builtin.Str.strKind "." = 1 := by decide +kernel
  rw [this]
  unfold Builtin.Str.strKind
  split
  · (first | lia | omega)
  · split <;> (first | lia | omega)
noncomputable def indexS (n : Int) (p q : Nat) : Str := ((((aheadS ((figs n 11 1).fmod 4).toNat) ++ numS p) ++ ".") ++ aheadS ((figs n 12 1).fmod 4).toNat) ++ numS q
theorem str_assoc (x y z : Str) : x ++ y ++ z = x ++ (y ++ z) := str_ext (by rw [str_append_cps, str_append_cps, str_append_cps, str_append_cps, Array.append_assoc])
theorem fmod4 (z : Int) : (z.fmod 4).toNat < 4 ∧ ((z.fmod 4).toNat : Int) = z.fmod 4 := by
  have h1 := Int.fmod_nonneg_of_pos z (b := 4) (by decide)
  have h2 := Int.fmod_lt_of_pos z (b := 4) (by decide)
  (first | lia | omega)
section
variable {X : Fix} (O : X.Ok) (G : Env4 X) {k : Nat} {sc : Scope} {m : Str → Option D}
include O G
theorem con_linecol (n : Int) (p q : Nat) (hp : p < 150) (hq : q < 150) : Con X (k + 1) 5 [.str (indexS n p q)] (.tup [.int p, .int q]) := by
  obtain ⟨i1, _⟩ := fmod4 (figs n 11 1)
  obtain ⟨j1, _⟩ := fmod4 (figs n 12 1)
  have e : indexS n p q = (preS ((figs n 11 1).fmod 4).toNat p ++ ".") ++ preS ((figs n 12 1).fmod 4).toNat q := by unfold indexS preS; rw [str_assoc]
  rw [e]
  generalize ((figs n 11 1).fmod 4).toNat = i at *
  generalize ((figs n 12 1).fmod 4).toNat = j at *
  obtain ⟨a1, a2, a3, a4, a5⟩ := okNum_at i1 hp
  obtain ⟨b1, b2, b3, b4, b5⟩ := okNum_at j1 hq
  obtain ⟨s1, s2⟩ := split_dot _ _ a4 b4
  generalize preS i p = u at *
  generalize preS j q = v at *
  have hx : ((u ++ ".") ++ v).length ≤ 1000 := by
    have dl : (("." : Str)).length = 1 := by show (("." : Str)).cps.size = 1; rw [dot_cps]; rfl
    rw [Str.length_append, Str.length_append, dl]; (first | lia | omega)
  refine con_rt O (G.fn 5 (by decide)) ["index"] (fun pmv cd doc vs h => ?_) rfl (by decide) rfl rfl rfl ?_
  · obtain ⟨a, rfl⟩ := len1 h; rfl
  obtain ⟨st, rest, hb, hex⟩ := ex_linecol (k := k) O (m := pm ["index"] [.str ((u ++ ".") ++ v)]) (glo_map O G) (glo_int O G) rfl hx (by rw [s1]; simp) s2 a5 b5 (by (first | lia | omega)) (by (first | lia | omega))
  have hr : rest = (fbody 5).tail := by rw [hb]; rfl
  rw [hb]
  refine rt_cons hex ?_
  rw [hr]
  exact rt_return O (ev_tuple O (evl_cons O (ev_name rfl rfl) (evl_cons O (ev_name rfl rfl) (evl_nil O) (fun _ => rfl)) (fun _ => rfl)) (by simp))
theorem con_index (n : Int) (p q : Nat) (hp : p < 150) (hq : q < 150) : Con X (k + 2) 14 [pr (p, q), .int n] (.str (indexS n p q)) := by
  refine con_rt O (G.fn 14 (by decide)) ["mark", "number"] (fun pmv cd doc vs h => ?_) rfl (by decide) rfl rfl rfl ?_
  · obtain ⟨a, b, rfl⟩ := len2 h; rfl
  obtain ⟨i1, i2⟩ := fmod4 (figs n 11 1)
  obtain ⟨j1, j2⟩ := fmod4 (figs n 12 1)
  have figE : ∀ {m : Str → Option D} {p1 p2 p3 p4 pos : Pos} {n1 n2 : Nat} {a b : Nat} {x : Str}, m "number" = some (.int n) → x = fname 7 → a ≤ 20 → b ≤ 20 → Ev X (k + 1) (fscope 14) m (.Call (.Name x p1) [.Name "number" p2, .Constant (.int a) n1 p3, .Constant (.int b) n2 p4] [] pos) (.int (figs n a b)) := fun hm hx ha hb =>
    ev_con O (con_figures O G n _ _ ha hb) (evl_cons O (ev_name hm rfl) (evl_cons O ev_int (evl_cons O ev_int (evl_nil O) (fun _ => rfl)) (fun _ => rfl)) (fun _ => rfl)) hx (by rw [hx]; rfl) (by rw [hx]; rfl)
  have al : ∀ j, j < 4 → seqIndex? ((j : Nat) : Int) 4 = some j ∧ (([.str "", .str "+", .str "0", .str "+00"] : List D))[j]? = some (.str (aheadS j)) := fun j hj => by
    have : j = 0 ∨ j = 1 ∨ j = 2 ∨ j = 3 := by (first | lia | omega)
    rcases this with rfl | rfl | rfl | rfl <;> exact ⟨rfl, rfl⟩
  obtain ⟨a1, a2, a3, a4, a5⟩ := okNum_at i1 hp
  obtain ⟨b1, b2, b3, b4, b5⟩ := okNum_at j1 hq
  have dl : (("." : Str)).length = 1 := by show (("." : Str)).cps.size = 1; rw [dot_cps]; rfl
  have hI : seqIndex? ((figs n 11 1).fmod 4) 4 = some ((figs n 11 1).fmod 4).toNat := by have := (al _ i1).1; rw [i2] at this; exact this
  have hJ : seqIndex? ((figs n 12 1).fmod 4) 4 = some ((figs n 12 1).fmod 4).toNat := by have := (al _ j1).1; rw [j2] at this; exact this
  have hI2 := (al _ i1).2
  have hJ2 := (al _ j1).2
  have bI : -(2 ^ 63) ≤ (figs n 11 1).fmod 4 ∧ (figs n 11 1).fmod 4 < 2 ^ 63 := by (first | lia | omega)
  have bJ : -(2 ^ 63) ≤ (figs n 12 1).fmod 4 ∧ (figs n 12 1).fmod 4 < 2 ^ 63 := by (first | lia | omega)
  unfold indexS
  generalize hi : ((figs n 11 1).fmod 4).toNat = i at *
  generalize hj : ((figs n 12 1).fmod 4).toNat = j at *
  have sz : 1000 ≤ sizeLine := by rw [sizeLine_eq]; decide
  refine rt_cons (ex_assign O (d := .lst [.str "", .str "+", .str "0", .str "+00"]) (ev_list O (evl_cons O ev_str (evl_cons O ev_str (evl_cons O ev_str (evl_cons O ev_str (evl_nil O) (fun _ => rfl)) (fun _ => rfl)) (fun _ => rfl)) (fun _ => rfl)) (by simp)) (.inl rfl) (fun _ _ e => by cases e) (fun _ _ => rfl)) ?_
  refine rt_cons (ex_assign O (d := .str (aheadS i ++ numS p)) (ev_bin O (ev_item_lst (j := i) O (ev_name rfl rfl) (ev_bin O (figE rfl rfl (by decide) (by decide)) ev_int (op_fmod_ii _ 4 (by decide))) hI hI2 bI) (ev_call O (glo_str O G) rfl rfl (evl_cons O (ev_item_tup (j := 0) O (ev_name rfl rfl) ev_int rfl rfl (by decide)) (evl_nil O) (fun _ => rfl)) (bi_str_int O p (by (first | lia | omega)))) (op_add_ss _ _ ?_)) (.inl rfl) (fun _ _ e => by cases e) (fun _ _ => rfl)) ?_
  · exact Nat.le_trans (show (aheadS i).length + (numS p).length ≤ 1000 by (first | lia | omega)) sz
  refine rt_return O (ev_bin O (ev_bin O (ev_bin O (ev_name rfl rfl) ev_str (op_add_ss _ _ ?_)) (ev_item_lst (j := j) O (ev_name rfl rfl) (ev_bin O (figE rfl rfl (by decide) (by decide)) ev_int (op_fmod_ii _ 4 (by decide))) hJ hJ2 bJ) (op_add_ss _ _ ?_)) (ev_call O (glo_str O G) rfl rfl (evl_cons O (ev_item_tup (j := 1) O (ev_name rfl rfl) ev_int rfl rfl (by decide)) (evl_nil O) (fun _ => rfl)) (bi_str_int O q (by (first | lia | omega)))) (op_add_ss _ _ ?_))
  · refine Nat.le_trans ?_ sz
    rw [Str.length_append]; rw [show (".": Str).length = 1 from dl]; (first | lia | omega)
  · refine Nat.le_trans ?_ sz
    rw [Str.length_append, Str.length_append]; rw [show (".": Str).length = 1 from dl]; (first | lia | omega)
  · refine Nat.le_trans ?_ sz
    show ((((aheadS i ++ numS p) ++ ".") ++ aheadS j)).length + (numS q).length ≤ 1000
    rw [Str.length_append, Str.length_append, Str.length_append]; rw [show (".": Str).length = 1 from dl]; (first | lia | omega)
end
end Mine
end
section
open PySem PySem.W PySem.Calls PyProof.Rows
namespace Mine
noncomputable def Fd (p : Nat → Int) : Nat → D
  | 0 => .none
  | i + 1 => .hit (p i)
noncomputable def mSr (base : Str → Option D) (a b c d : D) : Str → Option D := up (up (up (up base "m" a) "found" b) "i" c) "j" d
theorem mSr_up (base : Str → Option D) (a b c d a' b' c' d' : D) : up (up (up (up (mSr base a b c d) "found" b') "m" a') "i" c') "j" d' = mSr base a' b' c' d' := by
  funext y
  simp only [mSr, up]
  by_cases h1 : y = "j"
  · simp only [h1, if_true]
  by_cases h2 : y = "i"
  · simp only [h1, h2, if_true, if_false]
  by_cases h3 : y = "m"
  · simp only [h1, h2, h3, if_true, if_false]
    rfl
  by_cases h4 : y = "found"
  · subst h4
    rw [if_neg h1, if_neg h2, if_neg h3, if_pos rfl, if_neg h1, if_neg h2, if_pos rfl]
  simp only [h1, h2, h3, h4, if_false]
noncomputable def srB : List Stmt := match ((fbody 4)[4]? : Option Stmt) with
  | some (.While _ body _ _) => body
  | _ => []
/-- what is known of a text's places -/
structure Places (x w : Str) (p : Nat → Int) (len : Nat) : Prop where
  pos : 0 < len
  first : Txt.find3 x w 0 = p 0
  nn : ∀ i, i < len → 0 ≤ p i
  next : ∀ i, i + 1 < len → Txt.find3 x w (p i + 7) = p (i + 1)
  fin : Txt.find3 x w (p (len - 1) + 7) = -1
section
variable {X : Fix} (O : X.Ok) (O3 : Ok3 X) (G : Env4 X) {k : Nat} {sc : Scope} {m : Str → Option D}
include O O3 G
theorem con_reverse0 (w x : Str) (col : Int) (h : Txt.find3 x w 0 = -1) : Con X (k + 2) 4 [.prg w, .str x, .int col] .none := by
  refine con_rt O (G.fn 4 (by decide)) ["prog", "chars", "col"] (fun pmv cd doc vs h => ?_) rfl (by decide) rfl rfl rfl ?_
  · obtain ⟨a, b, c, rfl⟩ := len3 h; rfl
  have ms : Mt X (k + 1) "search" (.prg w) [.str x] .none := by
    have := mt_search1 (k := k) O O3 w x
    rw [h] at this
    exact this
  refine rt_cons (ex_assign O (d := .none) (ev_meth O (ev_name rfl rfl) (evl_cons O (ev_name rfl rfl) (evl_nil O) (fun _ => rfl)) ms (fun _ _ => rfl) rfl (by simp)) (.inl rfl) (fun _ _ e => by cases e) (fun _ _ => rfl)) ?_
  exact rt_if O (ts_not O (ts_none rfl rfl)) (rt_return O ev_none)
theorem con_reverse (w x : Str) (col : Int) (p : Nat → Int) (len n : Nat) (P : Places x w p len) (hn : n ≤ len) (hlt : ∀ i, i < n → p i + 7 ≤ col) (hge : n < len → ¬ p n + 7 ≤ col) : Con X (k + 2) 4 [.prg w, .str x, .int col] (Fd p n) := by
  refine con_rt O (G.fn 4 (by decide)) ["prog", "chars", "col"] (fun pmv cd doc vs h => ?_) rfl (by decide) rfl rfl rfl ?_
  · obtain ⟨a, b, c, rfl⟩ := len3 h; rfl
  have hit : ∀ q, 0 ≤ q → hitD q = .hit q := fun q hq => by unfold hitD; rw [if_pos hq]
  have ms : Mt X (k + 1) "search" (.prg w) [.str x] (.hit (p 0)) := by
    have := mt_search1 (k := k) O O3 w x
    rw [P.first, hit _ (P.nn 0 P.pos)] at this
    exact this
  have unp : ∀ {m : Str → Option D} {ow : Ow} {p1 p2 p3 p4 p5 p6 p7 : Pos} {n1 : Nat} (q : Int), m "m" = some (.hit q) → (p5.endLine == p6.line) = true → ow = none → Ex X (k + 1) (fscope 4) m ow (exec (.Assign [.Tuple [.Name "i" p1, .Name "j" p2] n1 p3] (.Call (.Attribute (.Name "m" p4) "span" p5) [] [] p6) p7)) .next (up (up m "i" (.int q)) "j" (.int (q + 7))) ow := fun {m ow p1 p2 p3 p4 p5 p6 p7 n1} q hm hl ho => by
    refine ex_unpack O [("i", p1), ("j", p2)] rfl (ev_meth O (ev_name hm rfl) (evl_nil O) (mt_span O O3.hit q) (fun _ _ => rfl) hl (by simp)) (.inr rfl) rfl ?_ (fun _ _ _ _ e => by rw [ho] at e; cases e)
    intro r hr
    rcases List.mem_cons.mp hr with rfl | hr
    · exact .inl rfl
    rcases List.mem_cons.mp hr with rfl | hr
    · exact .inl rfl
    cases hr
  refine rt_cons (ex_assign O (d := .hit (p 0)) (ev_meth O (ev_name rfl rfl) (evl_cons O (ev_name rfl rfl) (evl_nil O) (fun _ => rfl)) ms (fun _ _ => rfl) rfl (by simp)) (.inl rfl) (fun _ _ e => by cases e) (fun _ _ => rfl)) ?_
  refine rt_skip O (ts_not O (ts_hit O3.hit rfl rfl)) ?_
  refine rt_cons (ex_assign O (d := .none) ev_none (.inl rfl) (fun _ _ e => by cases e) (fun _ _ => rfl)) ?_
  refine rt_cons (unp (p 0) rfl rfl rfl) ?_
  have M0 : up (up (up (up (pm ["prog", "chars", "col"] [.prg w, .str x, .int col]) "m" (.hit (p 0))) "found" .none) "i" (.int (p 0))) "j" (.int (p 0 + 7)) = mSr (pm ["prog", "chars", "col"] [.prg w, .str x, .int col]) (.hit (p 0)) (Fd p 0) (.int (p 0)) (.int (p 0 + 7)) := rfl
  have tst : ∀ {p1 p2 p3 p4 p5 p6 p7 : Pos} (i : Nat) (b : Bool), (decide (p i + 7 ≤ col)) = b → Ts X (k + 1) (fscope 4) (mSr (pm ["prog", "chars", "col"] [.prg w, .str x, .int col]) (.hit (p i)) (Fd p i) (.int (p i)) (.int (p i + 7))) (.BoolOp .And [.Compare (.Name "i" p1) [.Lt] [.Name "col" p2] p3, .Compare (.Name "j" p4) [.LtE] [.Name "col" p5] p6] p7) b := fun {p1 p2 p3 p4 p5 p6 p7} i b hb => by
    have := ts_and (k := k + 1) (sc := fscope 4) (m := mSr (pm ["prog", "chars", "col"] [.prg w, .str x, .int col]) (.hit (p i)) (Fd p i) (.int (p i)) (.int (p i + 7))) (pos := p7) (x := .Compare (.Name "i" p1) [.Lt] [.Name "col" p2] p3) (y := .Compare (.Name "j" p4) [.LtE] [.Name "col" p5] p6) (a := decide (p i < col)) (b := decide (p i + 7 ≤ col)) O (ts_cmp O (ev_name rfl rfl) (ev_name rfl rfl) (cmp_lt_ii _ _) rfl) (fun _ => ts_cmp O (ev_name rfl rfl) (ev_name rfl rfl) (cmp_le_ii _ _) rfl) (fun h => by
      have := of_decide_eq_false h
      exact decide_eq_false (by (first | lia | omega)))
    have e : (decide (p i < col) && decide (p i + 7 ≤ col)) = b := by
      rw [← hb]
      by_cases h : p i + 7 ≤ col
      · rw [decide_eq_true h, decide_eq_true (show p i < col by (first | lia | omega))]; rfl
      · rw [decide_eq_false h, Bool.and_false]
    rw [e] at this
    exact this
  have N1 : ∀ i : Int, (i == i + 7) = false := fun i => by simp; (first | lia | omega)
  have srch : ∀ (i : Nat) (q : Int), Txt.find3 x w (p i + 7) = q → Mt X (k + 1) "search" (.prg w) [.str x, .int (p i + 7)] (hitD q) := fun i q hq => hq ▸ mt_search2 (k := k) O O3 w x (p i + 7)
  refine rt_cons (m' := fun y => if y = "found" then some (Fd p n) else none) (ow' := none) ?_ (rt_return O (ev_name rfl rfl))
  rw [M0]
  have wk : ∀ (q : Str → Option D), q "found" = some (Fd p n) → ∀ y d, (fun y => if y = ("found" : Str) then some (Fd p n) else none) y = some d → q y = some d := fun q hq y d h => by
    simp only at h
    by_cases hy : y = "found"
    · rw [if_pos hy] at h; rw [hy, hq]; exact h
    · rw [if_neg hy] at h; cases h
  generalize hB : pm ["prog", "chars", "col"] [.prg w, .str x, .int col] = B at *
  have b1 : B "prog" = some (.prg w) := by rw [← hB]; rfl
  have b2 : B "chars" = some (.str x) := by rw [← hB]; rfl
  have nb : ∀ i : Nat, i + 1 < len → Ex X (k + 1) (fscope 4) (mSr B (.hit (p i)) (Fd p i) (.int (p i)) (.int (p i + 7))) none (execs srB) .next (mSr B (.hit (p (i + 1))) (Fd p (i + 1)) (.int (p (i + 1))) (.int (p (i + 1) + 7))) none := fun i hN => by
    have hs := srch i _ (P.next i hN)
    rw [hit _ (P.nn _ hN)] at hs
    refine ex_less (m' := up (up (up (up (mSr B (.hit (p i)) (Fd p i) (.int (p i)) (.int (p i + 7))) "found" (.hit (p i))) "m" (.hit (p (i + 1)))) "i" (.int (p (i + 1)))) "j" (.int (p (i + 1) + 7))) ?_ (fun y d h => by rw [mSr_up]; exact h)
    exact ex_cons (ex_assign O (ev_name rfl rfl) (.inl rfl) (fun _ _ e => by cases e) (fun _ _ => rfl))
      (ex_cons (ex_if O (ts_cmp O (ev_name rfl rfl) (ev_name rfl rfl) (cmp_eq_ii _ _) rfl) (fun e => by rw [N1] at e; cases e) (fun _ => ex_nil))
      (ex_cons (ex_assign O (ev_meth O (ev_name b1 rfl) (evl_cons O (ev_name b2 rfl) (evl_cons O (ev_name rfl rfl) (evl_nil O) (fun _ => rfl)) (fun _ => rfl)) hs (fun _ _ => rfl) rfl (by simp)) (.inl rfl) (fun _ _ e => by cases e) (fun _ _ => rfl))
      (ex_cons (ex_if O (ts_not O (ts_hit O3.hit rfl rfl)) (fun e => by cases e) (fun _ => ex_nil)) (ex_cons (unp (p (i + 1)) rfl rfl rfl) ex_nil))))
  by_cases hc : n < len
  · refine ex_less (m' := mSr B (.hit (p n)) (Fd p n) (.int (p n)) (.int (p n + 7))) ?_ (wk _ rfl)
    refine ex_while O n (fun i => mSr B (.hit (p i)) (Fd p i) (.int (p i)) (.int (p i + 7))) (fun _ => none) (fun i hi => ⟨tst i true (decide_eq_true (hlt i hi)), ?_⟩) (.inl ⟨tst n false (decide_eq_false (hge hc)), rfl, rfl, rfl⟩)
    exact nb i (by (first | lia | omega))
  · have hn' : n = len := by (first | lia | omega)
    have hp := P.pos
    obtain ⟨N, rfl⟩ : ∃ N, n = N + 1 := ⟨n - 1, by (first | lia | omega)⟩
    have hfin : Txt.find3 x w (p N + 7) = -1 := by have := P.fin; rw [show len - 1 = N by (first | lia | omega)] at this; exact this
    refine ex_while O N (fun i => mSr B (.hit (p i)) (Fd p i) (.int (p i)) (.int (p i + 7))) (fun _ => none) (fun i hi => ⟨tst i true (decide_eq_true (hlt i (by (first | lia | omega)))), ?_⟩) (.inr (.inl ⟨tst N true (decide_eq_true (hlt N (by (first | lia | omega)))), rfl, ?_⟩))
    · exact nb i (by (first | lia | omega))
    · have hs := srch N _ hfin
      refine ex_less (m' := up (up (mSr B (.hit (p N)) (Fd p N) (.int (p N)) (.int (p N + 7))) "found" (.hit (p N))) "m" .none) ?_ (wk _ rfl)
      exact ex_cons (ex_assign O (ev_name rfl rfl) (.inl rfl) (fun _ _ e => by cases e) (fun _ _ => rfl))
        (ex_cons (ex_if O (ts_cmp O (ev_name rfl rfl) (ev_name rfl rfl) (cmp_eq_ii _ _) rfl) (fun e => by rw [N1] at e; cases e) (fun _ => ex_nil))
        (ex_cons (ex_assign O (d := .none) (ev_meth O (ev_name b1 rfl) (evl_cons O (ev_name b2 rfl) (evl_cons O (ev_name rfl rfl) (evl_nil O) (fun _ => rfl)) (fun _ => rfl)) hs (fun _ _ => rfl) rfl (by simp)) (.inl rfl) (fun _ _ e => by cases e) (fun _ _ => rfl))
        (ex_stop (ex_if O (ts_not O (ts_none rfl rfl)) (fun _ => ex_stop (ex_break O) (by simp)) (fun e => by cases e)) (by simp))))
end
end Mine
end
section
open PySem PySem.W PySem.Calls PyProof.Rows
namespace Mine
noncomputable def oD : Option Int → D
  | none => .none
  | some i => .hit i
/-- the last place by the index, line by line upwards -/
noncomputable def foundL (sr : Nat → Int → Option Int) (full : Int) : Nat → Int → List (Int × Int)
  | 0, _ => []
  | l + 1, col => match sr l col with
    | some i => [(((l + 1 : Nat) : Int), i)]
    | none => foundL sr full l full
theorem found_run (sr : Nat → Int → Option Int) (full : Int) : ∀ (p : Nat) (q : Int), ∃ N, N ≤ p ∧ (∀ i, i < N → sr (p - 1 - i) (if i = 0 then q else full) = none) ∧
    ((N = p ∧ foundL sr full p q = []) ∨ (N < p ∧ ∃ r, sr (p - 1 - N) (if N = 0 then q else full) = some r ∧ foundL sr full p q = [(((p - N : Nat) : Int), r)]))
  | 0, q => ⟨0, Nat.le_refl _, fun i h => by (first | lia | omega), .inl ⟨rfl, rfl⟩⟩
  | p + 1, q => by
    cases h : sr p q with
    | some r =>
      refine ⟨0, Nat.zero_le _, fun i h => by (first | lia | omega), .inr ⟨Nat.succ_pos _, r, ?_, ?_⟩⟩
      · simpa using h
      · simp [foundL, h]
    | none =>
      obtain ⟨N, h1, h2, h3⟩ := found_run sr full p full
      have hf : foundL sr full (p + 1) q = foundL sr full p full := by simp [foundL, h]
      refine ⟨N + 1, by (first | lia | omega), fun i hi => ?_, ?_⟩
      · cases i with
        | zero => simpa using h
        | succ i =>
          have := h2 i (by (first | lia | omega))
          rw [if_neg (by (first | lia | omega))]
          rw [ite_self] at this
          rw [show p + 1 - 1 - (i + 1) = p - 1 - i by (first | lia | omega)]
          exact this
      · rcases h3 with ⟨e, h4⟩ | ⟨e, r, h4, h5⟩
        · exact .inl ⟨by (first | lia | omega), by rw [hf, h4]⟩
        · refine .inr ⟨by (first | lia | omega), r, ?_, ?_⟩
          · rw [if_neg (by (first | lia | omega))]
            rw [ite_self] at h4
            rw [show p + 1 - 1 - (N + 1) = p - 1 - N by (first | lia | omega)]
            exact h4
          · rw [hf, h5, show p + 1 - (N + 1) = p - N by (first | lia | omega)]
theorem seqIdx (j len : Nat) (hj : j < len) : seqIndex? (j : Int) len = some j := by
  unfold seqIndex?
  have h1 : ¬ (j : Int) < 0 := by (first | lia | omega)
  simp only [h1, if_false]
  rw [if_pos (by simp; (first | lia | omega))]; simp
noncomputable def foundB : List Stmt := match ((fbody 15).tail.tail.tail[1]? : Option Stmt) with
  | some (.While _ body _ _) => body
  | _ => []
structure Fn15 (X : Fix) : Prop where
  ex : ∃ c0 a o pmv doc, Ok2 X (theK c0) ∧ X.Prg = PrgK X.h0 (theK c0) ∧ X.mg (fname 15) = some (.ref a) ∧ X.base.get? a = some o ∧ o.data = .func (docDef (fname 15) (fargs 15) (fbody 15) (fscope 15) pmv (.ref c0) doc) ∧ X.base.CodeRec (.ref c0) (fname 15)
section
variable {X : Fix} (O : X.Ok) (O3 : Ok3 X) (G : Env4 X) {k : Nat} {sc : Scope} {m : Str → Option D}
include O O3 G
theorem found_rest (w : Str) (ls : List Str) (ix : Str) (p : Nat) (q full : Int) (sr : Nat → Int → Option Int) (hp : p ≤ ls.length) (hl : ls.length ≤ 100) (hq : Con X (k + 3) 5 [.str ix] (.tup [.int p, .int q])) (hsr : ∀ l, l < p → ∀ col x, (col = q ∨ col = full) → ls[l]? = some x → Con X (k + 3) 4 [.prg w, .str x, .int col] (oD (sr l col)))
    (hfull : ∀ x, ls[0]? = some x → (x.length : Int) = full ∧ x.length ≤ 100000) :
    Rt X (k + 3) (fscope 15) (up (pm ["word", "lines", "index"] [.str w, .lst (ls.map D.str), .str ix]) "prog" (.prg w)) none (fbody 15).tail.tail.tail (.lst ((foundL sr full p q).map pr)) := by
  obtain ⟨N, h1, h2, h3⟩ := found_run sr full p q
  refine rt_cons (ex_unpack O [("line", _), ("col", _)] rfl (ev_con O hq (evl_cons O (ev_name rfl rfl) (evl_nil O) (fun _ => rfl)) rfl rfl rfl) (.inr rfl) rfl ?_ (fun _ _ _ _ e => by cases e)) ?_
  · intro r hr
    rcases List.mem_cons.mp hr with rfl | hr
    · exact .inl rfl
    rcases List.mem_cons.mp hr with rfl | hr
    · exact .inl rfl
    cases hr
  generalize hB : up (pm ["word", "lines", "index"] [.str w, .lst (ls.map D.str), .str ix]) "prog" (.prg w) = B
  have b1 : B "prog" = some (.prg w) := by rw [← hB]; rfl
  have b2 : B "lines" = some (.lst (ls.map D.str)) := by rw [← hB]; rfl
  let M : Nat → Str → Option D := fun i => up (up B "line" (.int ((p : Int) - i))) "col" (.int (if i = 0 then q else full))
  have M0 : up (up B "line" (.int (p : Int))) "col" (.int q) = M 0 := by
    show up (up B "line" (.int (p : Int))) "col" (.int q) = up (up B "line" (.int ((p : Int) - (0 : Nat)))) "col" (.int (if (0 : Nat) = 0 then q else full))
    rw [if_pos rfl, show (p : Int) - (0 : Nat) = p by (first | lia | omega)]
  show Rt X (k + 3) (fscope 15) (up (up B "line" (.int (p : Int))) "col" (.int q)) none _ _
  rw [M0]
  have tst : ∀ {p1 p2 p3 : Pos} {n1 : Nat} (i : Nat) (b : Bool), decide (0 < (p : Int) - i) = b → Ts X (k + 3) (fscope 15) (M i) (.Compare (.Name "line" p1) [.Gt] [.Constant (.int 0) n1 p2] p3) b := fun i b hb => hb ▸ ts_cmp O (ev_name rfl rfl) ev_int (cmp_gt_ii _ 0) rfl
  have srE : ∀ (i : Nat), i < p → ∃ x, ls[p - 1 - i]? = some x ∧ Con X (k + 3) 4 [.prg w, .str x, .int (if i = 0 then q else full)] (oD (sr (p - 1 - i) (if i = 0 then q else full))) ∧ seqIndex? ((p : Int) - i - 1) (ls.map D.str).length = some (p - 1 - i) ∧ (ls.map D.str)[p - 1 - i]? = some (.str x) := fun i hi => by
    have hlt : p - 1 - i < ls.length := by (first | lia | omega)
    have hx : ls[p - 1 - i]? = some ls[p - 1 - i] := by simp [hlt]
    refine ⟨_, hx, hsr _ (by (first | lia | omega)) _ _ (by by_cases h : i = 0; exact .inl (by rw [if_pos h]); exact .inr (by rw [if_neg h])) hx, ?_, by rw [List.getElem?_map, hx]; rfl⟩
    rw [show (p : Int) - i - 1 = ((p - 1 - i : Nat) : Int) by (first | lia | omega)]
    exact seqIdx _ _ (by simpa using hlt)
  have l0 : ∀ i : Nat, i < p → ∃ x, (ls.map D.str)[0]? = some (.str x) ∧ (x.length : Int) = full ∧ x.length ≤ 100000 := fun i hi => by
    have hx : ls[0]? = some (ls[0]'(by (first | lia | omega))) := by simp [show 0 < ls.length by (first | lia | omega)]
    obtain ⟨e1, e2⟩ := hfull _ hx
    exact ⟨_, by rw [List.getElem?_map, hx]; rfl, e1, e2⟩
  have none_turn : ∀ (i : Nat), i < p → sr (p - 1 - i) (if i = 0 then q else full) = none → ∀ y d, M (i + 1) y = some d → up (up (up (M i) "hit" .none) "line" (.int ((p : Int) - i - 1))) "col" (.int full) y = some d := fun i hi hsn y d h => by
    have e : up (up B "line" (.int ((p : Int) - (i + 1 : Nat)))) "col" (.int (if i + 1 = 0 then q else full)) y = some d := h
    rw [if_neg (by (first | lia | omega)), show (p : Int) - (i + 1 : Nat) = (p : Int) - i - 1 by (first | lia | omega)] at e
    show up (up (up (up (up B "line" _) "col" _) "hit" .none) "line" (.int ((p : Int) - i - 1))) "col" (.int full) y = some d
    simp only [up] at e ⊢
    by_cases h1 : y = "col"
    · rw [if_pos h1] at e ⊢; exact e
    · rw [if_neg h1] at e ⊢
      by_cases h2 : y = "line"
      · rw [if_pos h2] at e ⊢; exact e
      · rw [if_neg h2] at e ⊢
        by_cases h3 : y = "hit"
        · rw [h3, ← hB] at e; cases e
        · rw [if_neg h3, if_neg h1, if_neg h2]; exact e
  have nb : ∀ i : Nat, i < p → sr (p - 1 - i) (if i = 0 then q else full) = none → Ex X (k + 3) (fscope 15) (M i) none (execs foundB) .next (M (i + 1)) none := fun i hi hs => by
    obtain ⟨x, hx, c, q1, q2⟩ := srE i hi
    obtain ⟨x0, z1, z2, z3⟩ := l0 i hi
    rw [hs] at c
    refine ex_less ?_ (none_turn i hi hs)
    rw [← z2]
    exact ex_cons (ex_assign O (d := .none) (ev_con O c (evl_cons O (ev_name b1 rfl) (evl_cons O (ev_item_lst O (ev_name b2 rfl) (ev_bin O (ev_name rfl rfl) ev_int (op_sub_ii _ _)) q1 q2 (by (first | lia | omega))) (evl_cons O (ev_name rfl rfl) (evl_nil O) (fun _ => rfl)) (fun _ => rfl)) (fun _ => rfl)) rfl rfl rfl) (.inl rfl) (fun _ _ e => by cases e) (fun _ _ => rfl))
      (ex_cons (ex_if O (c := false) (ts_cmp O (ev_name rfl rfl) ev_none (cmp_isnot_none O) rfl) (fun e => by cases e) (fun _ => ex_nil))
      (ex_cons (ex_aug_sub O rfl ev_int (.inl rfl) (fun _ _ e => by cases e) rfl)
      (ex_cons (ex_assign O (ev_call O (glo_len O G) rfl rfl (evl_cons O (ev_item_lst (j := 0) O (ev_name b2 rfl) ev_int (seqIdx 0 _ (by simp; (first | lia | omega))) z1 (by (first | lia | omega))) (evl_nil O) (fun _ => rfl)) (bi_len_str O x0 z3)) (.inl rfl) (fun _ _ e => by cases e) (fun _ _ => rfl)) ex_nil)))
  rcases h3 with ⟨hN, hr⟩ | ⟨hN, r, h4, hr⟩
  · rw [hr]
    refine rt_cons (m' := M N) (ow' := none) (ex_while O N M (fun _ => none) (fun i hi => ⟨tst i true (decide_eq_true (by (first | lia | omega))), ?_⟩) (.inl ⟨tst N false (decide_eq_false (by (first | lia | omega))), rfl, rfl, rfl⟩)) ?_
    · exact nb i (by (first | lia | omega)) (h2 i hi)
    · exact rt_return O (ev_list O (evl_nil O) (by simp))
  · rw [hr]
    obtain ⟨x, hx, c, q1, q2⟩ := srE N hN
    rw [h4] at c
    refine rt_stop (m' := up (M N) "hit" (.hit r)) (ow' := none) (ex_while O N M (fun _ => none) (fun i hi => ⟨tst i true (decide_eq_true (by (first | lia | omega))), ?_⟩) (.inr (.inr ⟨tst N true (decide_eq_true (by (first | lia | omega))), _, rfl, ?_⟩)))
    · exact nb i (by (first | lia | omega)) (h2 i hi)
    · have ep : ((p - N : Nat) : Int) = (p : Int) - N := by (first | lia | omega)
      rw [ep]
      exact ex_cons (ex_assign O (d := .hit r) (ev_con O c (evl_cons O (ev_name b1 rfl) (evl_cons O (ev_item_lst O (ev_name b2 rfl) (ev_bin O (ev_name rfl rfl) ev_int (op_sub_ii _ _)) q1 q2 (by (first | lia | omega))) (evl_cons O (ev_name rfl rfl) (evl_nil O) (fun _ => rfl)) (fun _ => rfl)) (fun _ => rfl)) rfl rfl rfl) (.inl rfl) (fun _ _ e => by cases e) (fun _ _ => rfl))
        (ex_stop (ex_if O (c := true) (ts_cmp O (ev_name rfl rfl) ev_none (cmp_isnot_hit O r) rfl) (fun _ => ex_stop (ex_return O (ev_list O (evl_cons O (ev_tuple O (evl_cons O (ev_name rfl rfl) (evl_cons O (ev_item_tup (j := 0) O (ev_meth O (ev_name rfl rfl) (evl_nil O) (mt_span O O3.hit r) (fun _ _ => rfl) rfl (by simp)) ev_int rfl rfl (by decide)) (evl_nil O) (fun _ => rfl)) (fun _ => rfl)) (by simp)) (evl_nil O) (fun _ => rfl)) (by simp))) (by simp)) (fun e => by cases e)) (by simp))
theorem con_found (F15 : Fn15 X) (w : Str) (ls : List Str) (ix : Str) (p : Nat) (q full : Int) (sr : Nat → Int → Option Int) (hp : p ≤ ls.length) (hl : ls.length ≤ 100) (hq : Con X (k + 3) 5 [.str ix] (.tup [.int p, .int q])) (hsr : ∀ l, l < p → ∀ col x, (col = q ∨ col = full) → ls[l]? = some x → Con X (k + 3) 4 [.prg w, .str x, .int col] (oD (sr l col)))
    (hfull : ∀ x, ls[0]? = some x → (x.length : Int) = full ∧ x.length ≤ 100000) : Con X (k + 4) 15 [.str w, .lst (ls.map D.str), .str ix] (.lst ((foundL sr full p q).map pr)) := by
  obtain ⟨c0, a, o, pmv, doc, O2, hP, h1, h2, h3, h4⟩ := F15.ex
  obtain ⟨m', ow', hex⟩ := found_rest (k := k) O O3 G w ls ix p q full sr hp hl hq hsr hfull
  refine ⟨.ref a, ⟨.inl h1, .inr (.inr ⟨a, o, _, rfl, h2, h3⟩)⟩, call_def1 O h2 h3 h4 (names := ["word", "lines", "index"]) (fun vs h => ?_) rfl (by decide) rfl rfl rfl fun env A V0 s0 V s Q E hs hcd hqu hA F hQ => ?_⟩
  · obtain ⟨a, b, c, rfl⟩ := len3 h; rfl
  · refine found_pre O O2 hP hs hcd (by rw [hqu]; rfl) F rfl rfl rfl fun V' s' F' => ?_
    refine hex env A V0 s0 V' s' Q E hs hA F' fun f V2 s2 F2 k2 hf => ?_
    obtain ⟨v, rfl, rv⟩ := hf
    exact hQ v V2 s2 F2.gr rv
end
end Mine
end
section
open PySem PySem.W PySem.Calls PyProof.Rows
namespace Mine
open Builtin.Str StrLaws
theorem join_cps : ∀ ys : List Str, (Txt.join "" ys).cps.toList = ys.flatMap (fun y => y.cps.toList)
  | [] => rfl
  | [y] => by
    show ((glued "" [y])).cps.toList = _
    rw [glued_eq_join]; simp [Str.join]
  | y :: z :: r => by
    have h := join_cps (z :: r)
    show ((glued "" (y :: z :: r))).cps.toList = _
    rw [glued_eq_join]
    show (y ++ ("" : Str) ++ Str.join "" (z :: r)).cps.toList = _
    have h2 : (Str.join "" (z :: r)).cps.toList = (z :: r).flatMap (fun y => y.cps.toList) := by rw [← glued_eq_join]; exact h
    rw [str_append_cps, str_append_cps, Array.toList_append, Array.toList_append, h2]
    rw [show (("" : Str)).cps.toList = [] from rfl, List.append_nil]
    rfl
/-- blocks of seven -/
theorem flat_at (bs : List (List Nat)) (h7 : ∀ b ∈ bs, b.length = 7) : ∀ (c r : Nat), r < 7 → bs.flatten[7 * c + r]? = (bs[c]?).bind (·[r]?) := by
  induction bs with
  | nil => intro c r _; simp
  | cons b bs ih =>
    intro c r hr
    have hb := h7 b (.head _)
    rw [List.flatten_cons]
    cases c with
    | zero =>
      rw [Nat.mul_zero, Nat.zero_add, List.getElem?_append_left (by (first | lia | omega))]
      simp
    | succ c =>
      rw [List.getElem?_append_right (by (first | lia | omega)), hb, show 7 * (c + 1) + r - 7 = 7 * c + r by (first | lia | omega), ih (fun b hb => h7 b (.tail _ hb)) c r hr]
      simp
theorem flat_len (bs : List (List Nat)) (h7 : ∀ b ∈ bs, b.length = 7) : bs.flatten.length = 7 * bs.length := by
  induction bs with
  | nil => rfl
  | cons b bs ih =>
    rw [List.flatten_cons, List.length_append, ih (fun b hb => h7 b (.tail _ hb)), h7 b (.head _), List.length_cons]; (first | lia | omega)
theorem flat_cut (bs : List (List Nat)) (h7 : ∀ b ∈ bs, b.length = 7) (c : Nat) (b : List Nat) (hb : bs[c]? = some b) : (bs.flatten.drop (7 * c)).take 7 = b := by
  have hl := h7 b (List.mem_of_getElem? hb)
  apply List.ext_getElem?
  intro r
  by_cases hr : r < 7
  · rw [List.getElem?_take_of_lt hr, List.getElem?_drop, flat_at bs h7 c r hr, hb]; rfl
  · rw [List.getElem?_eq_none (by simp; (first | lia | omega)), List.getElem?_eq_none (by (first | lia | omega))]
/-- a word: a mark, then six signs that are none -/
noncomputable def Wd (b : List Nat) : Prop := b.length = 7 ∧ b[0]? = some 35 ∧ ∀ r, 0 < r → r < 7 → b[r]? ≠ some 35
theorem at_blocks {x w : Str} {bs : List (List Nat)} (hx : x.cps.toList = bs.flatten) (hbs : ∀ b ∈ bs, Wd b) (hw : Wd w.cps.toList) (i : Nat) : At x w x.length i ↔ ∃ c, i = 7 * c ∧ bs[c]? = some w.cps.toList := by
  have h7 : ∀ b ∈ bs, b.length = 7 := fun b hb => (hbs b hb).1
  have xl : x.length = 7 * bs.length := by
    show x.cps.size = _
    rw [← Array.length_toList, hx, flat_len bs h7]
  have wl : w.length = 7 := by
    show w.cps.size = 7
    rw [← Array.length_toList]; exact hw.1
  have sub : subAt x w i = true ↔ (bs.flatten.drop i).take 7 = w.cps.toList := by
    unfold subAt
    rw [wl, beq_iff_eq, ← Array.toList_inj, Array.toList_extract, hx, List.extract_eq_take_drop]
    rw [show i + 7 - i = 7 by (first | lia | omega)]
  unfold At
  rw [sub, xl, wl]
  constructor
  · rintro ⟨h1, h2⟩
    have hh : bs.flatten[i]? = some 35 := by
      have : ((bs.flatten.drop i).take 7)[0]? = some 35 := by rw [h2]; exact hw.2.1
      rw [List.getElem?_take_of_lt (by (first | lia | omega)), List.getElem?_drop] at this
      simpa using this
    have hi : i = 7 * (i / 7) + i % 7 := by (first | lia | omega)
    rw [hi, flat_at bs h7 _ _ (Nat.mod_lt _ (by decide))] at hh
    have hc : i / 7 < bs.length := by (first | lia | omega)
    have hb : bs[i / 7]? = some bs[i / 7] := by simp [hc]
    rw [hb] at hh
    have hW := hbs _ (List.mem_of_getElem? hb)
    have hr : i % 7 = 0 := by
      by_cases h0 : i % 7 = 0
      · exact h0
      · exact absurd hh (hW.2.2 _ (by (first | lia | omega)) (by (first | lia | omega)))
    refine ⟨i / 7, by (first | lia | omega), ?_⟩
    have hcut := flat_cut bs h7 _ _ hb
    rw [show 7 * (i / 7) = i by (first | lia | omega)] at hcut
    rw [hb, ← h2, hcut]
  · rintro ⟨c, rfl, hb⟩
    have : c < bs.length := (List.getElem?_eq_some_iff.mp hb).1
    exact ⟨by (first | lia | omega), flat_cut bs h7 _ _ hb⟩
theorem range'_at {lo n a : Nat} {pre post : List Nat} (h : List.range' lo n = pre ++ a :: post) : a = lo + pre.length ∧ ∀ k, lo ≤ k → k < a → k ∈ pre := by
  have hL : n = pre.length + (post.length + 1) := by
    have := congrArg List.length h
    simpa using this
  have hlen : a = lo + pre.length := by
    have h1 : (List.range' lo n)[pre.length]? = some a := by rw [h]; simp
    rw [List.getElem?_range'] at h1
    · simp at h1; (first | lia | omega)
    · (first | lia | omega)
  refine ⟨hlen, fun k hk1 hk2 => ?_⟩
  have h2 : (List.range' lo n)[k - lo]? = pre[k - lo]? := by rw [h, List.getElem?_append_left (by (first | lia | omega))]
  rw [List.getElem?_range'] at h2
  · have h3 : pre[k - lo]? = some k := by rw [← h2]; simp; (first | lia | omega)
    exact List.mem_of_getElem? h3
  · (first | lia | omega)
theorem find3_spec (x w : Str) (i : Nat) : (Txt.find3 x w i = -1 ∧ ∀ j, i ≤ j → ¬ At x w x.length j) ∨ ∃ k : Nat, Txt.find3 x w i = k ∧ i ≤ k ∧ At x w x.length k ∧ ∀ j, i ≤ j → j < k → ¬ At x w x.length j := by
  have hfi : fromIndex x.length (i : Int) = i := by unfold fromIndex; rw [if_neg (by (first | lia | omega))]; (first | lia | omega)
  unfold Txt.find3
  rw [hfi, occ_eq]
  rcases occ_first x w x.length 1 (Nat.le_refl _) (List.range' i (x.length + 1 - i)) i (fun j hj => (List.mem_range'_1.mp hj).1) with ⟨h0, hn⟩ | ⟨pre, a, post, e, h0, ha, hn⟩
  · refine .inl ⟨by rw [h0], fun j hj hA => ?_⟩
    exact hn j (List.mem_range'_1.mpr (by have := hA.1; (first | lia | omega))) hA
  · obtain ⟨q1, q2⟩ := range'_at e
    refine .inr ⟨a, ?_, by (first | lia | omega), ha, fun j h1 h2 => hn j (q2 j h1 h2)⟩
    generalize (forIn (List.range' i (x.length + 1 - i)) ((#[] : Array Nat), i) (occBody x w x.length 1)).run.fst = arr at h0
    have h1 : arr.toList[0]? = some a := by simpa using h0
    cases hL : arr.toList with
    | nil => rw [hL] at h1; cases h1
    | cons b t => rw [hL] at h1; simp at h1; rw [h1]
end Mine
end
section
open PySem PySem.W PySem.Calls PyProof.Rows
namespace Mine
open Builtin.Str StrLaws
noncomputable def sgc (i : Int) : Nat := signs.cps.getD i.toNat 0
theorem sgc_ok : ∀ i : Fin 16, sgc (i.val : Int) ≠ 35 ∧ ∀ j : Fin 16, sgc (i.val : Int) = sgc (j.val : Int) → i = j := by decide +kernel
theorem sgc_ne {i : Int} (h0 : 0 ≤ i) (h1 : i < 16) : sgc i ≠ 35 := by
  have := (sgc_ok ⟨i.toNat, by (first | lia | omega)⟩).1
  simp only [Int.toNat_of_nonneg h0] at this
  exact this
theorem sgc_inj {i j : Int} (h0 : 0 ≤ i) (h1 : i < 16) (g0 : 0 ≤ j) (g1 : j < 16) (e : sgc i = sgc j) : i = j := by
  have := (sgc_ok ⟨i.toNat, by (first | lia | omega)⟩).2 ⟨j.toNat, by (first | lia | omega)⟩
  simp only [Int.toNat_of_nonneg h0, Int.toNat_of_nonneg g0] at this
  have := congrArg Fin.val (this e)
  simp at this
  (first | lia | omega)
theorem wordS_cps (a b c : Int) : (wordS [a, b, c]).cps.toList = [35, sgc (a.fdiv 16), sgc (a.fmod 16), sgc (b.fdiv 16), sgc (b.fmod 16), sgc (c.fdiv 16), sgc (c.fmod 16)] := by
  unfold wordS
  rw [str_append_cps, Array.toList_append, join_cps]
  rw [show ("#" : Str).cps.toList = [35] by decide +kernel]
  rfl
noncomputable def Col (c : List Int) : Prop := c.length = 3 ∧ ∀ p ∈ c, 0 ≤ p ∧ p ≤ 255
theorem Col.three {c : List Int} (h : Col c) : ∃ x y z, c = [x, y, z] ∧ (0 ≤ x ∧ x ≤ 255) ∧ (0 ≤ y ∧ y ≤ 255) ∧ (0 ≤ z ∧ z ≤ 255) := by
  obtain ⟨h1, h2⟩ := h
  match c, h1 with
  | [x, y, z], _ => exact ⟨x, y, z, rfl, h2 x (by simp), h2 y (by simp), h2 z (by simp)⟩
theorem word_wd {c : List Int} (h : Col c) : Wd (wordS c).cps.toList := by
  obtain ⟨x, y, z, rfl, hx, hy, hz⟩ := h.three
  rw [wordS_cps]
  obtain ⟨a1, a2, a3, a4⟩ := div16 x hx
  obtain ⟨b1, b2, b3, b4⟩ := div16 y hy
  obtain ⟨c1, c2, c3, c4⟩ := div16 z hz
  refine ⟨rfl, rfl, fun r h1 h2 => ?_⟩
  have : r = 1 ∨ r = 2 ∨ r = 3 ∨ r = 4 ∨ r = 5 ∨ r = 6 := by (first | lia | omega)
  rcases this with rfl | rfl | rfl | rfl | rfl | rfl <;> simp <;> apply sgc_ne <;> assumption
theorem hex_inj {x y : Int} (hx : 0 ≤ x ∧ x ≤ 255) (hy : 0 ≤ y ∧ y ≤ 255) (h1 : sgc (x.fdiv 16) = sgc (y.fdiv 16)) (h2 : sgc (x.fmod 16) = sgc (y.fmod 16)) : x = y := by
  obtain ⟨a1, a2, a3, a4⟩ := div16 x hx
  obtain ⟨b1, b2, b3, b4⟩ := div16 y hy
  have e1 := sgc_inj a1 a2 b1 b2 h1
  have e2 := sgc_inj a3 a4 b3 b4 h2
  rw [Int.fdiv_eq_ediv_of_nonneg _ (by decide), Int.fdiv_eq_ediv_of_nonneg _ (by decide)] at e1
  rw [Int.fmod_eq_emod_of_nonneg _ (by decide), Int.fmod_eq_emod_of_nonneg _ (by decide)] at e2
  (first | lia | omega)
theorem word_inj {c d : List Int} (hc : Col c) (hd : Col d) (e : (wordS c).cps.toList = (wordS d).cps.toList) : c = d := by
  obtain ⟨x, y, z, rfl, hx, hy, hz⟩ := hc.three
  obtain ⟨x', y', z', rfl, hx', hy', hz'⟩ := hd.three
  rw [wordS_cps, wordS_cps] at e
  simp only [List.cons.injEq, true_and, and_true] at e
  obtain ⟨e1, e2, e3, e4, e5, e6⟩ := e
  rw [hex_inj hx hx' e1 e2, hex_inj hy hy' e3 e4, hex_inj hz hz' e5 e6]
noncomputable def textOf (rows : Nat → List Int) (n : Nat) : Str := Txt.join "" ((List.range n).map fun c => wordS (rows c))
noncomputable def colsOf (rows : Nat → List Int) (n : Nat) (colour : List Int) : List Nat := (List.range n).filter fun c => decide (rows c = colour)
theorem at_text {rows : Nat → List Int} {n : Nat} {colour : List Int} (hr : ∀ c, c < n → Col (rows c)) (hc : Col colour) (i : Nat) : At (textOf rows n) (wordS colour) (textOf rows n).length i ↔ ∃ c, i = 7 * c ∧ c ∈ colsOf rows n colour := by
  have hx : (textOf rows n).cps.toList = ((List.range n).map fun c => (wordS (rows c)).cps.toList).flatten := by
    unfold textOf
    rw [join_cps, List.flatMap_def, List.map_map]; rfl
  rw [at_blocks hx (fun b hb => by
    obtain ⟨c, hc', rfl⟩ := List.mem_map.mp hb
    exact word_wd (hr c (List.mem_range.mp hc'))) (word_wd hc)]
  constructor
  · rintro ⟨c, rfl, h⟩
    rw [List.getElem?_map] at h
    have hlt : c < n := by
      cases q : (List.range n)[c]? with
      | none => rw [q] at h; cases h
      | some j => have := (List.getElem?_eq_some_iff.mp q).1; simpa using this
    rw [List.getElem?_range hlt] at h
    simp only [Option.map_some, Option.some.injEq] at h
    exact ⟨c, rfl, List.mem_filter.mpr ⟨List.mem_range.mpr hlt, decide_eq_true (word_inj (hr c hlt) hc h)⟩⟩
  · rintro ⟨c, rfl, h⟩
    obtain ⟨h1, h2⟩ := List.mem_filter.mp h
    refine ⟨c, rfl, ?_⟩
    rw [List.getElem?_map, List.getElem?_range (List.mem_range.mp h1)]
    simp only [Option.map_some]
    rw [of_decide_eq_true h2]
theorem cols_mono (rows : Nat → List Int) (n : Nat) (colour : List Int) : (colsOf rows n colour).Pairwise (· < ·) := List.Pairwise.filter _ List.pairwise_lt_range
theorem mono_at {l : List Nat} (h : l.Pairwise (· < ·)) : ∀ i j, i < j → j < l.length → l.getD i 0 < l.getD j 0 := fun i j hij hj => by
  have := (List.pairwise_iff_getElem.mp h) i j (by (first | lia | omega)) hj hij
  simpa [List.getD_eq_getElem?_getD, hj, show i < l.length by (first | lia | omega)] using this
theorem text_places {rows : Nat → List Int} {n : Nat} {colour : List Int} (hr : ∀ c, c < n → Col (rows c)) (hc : Col colour) :
    (colsOf rows n colour = [] → Txt.find3 (textOf rows n) (wordS colour) 0 = -1) ∧ (0 < (colsOf rows n colour).length → Places (textOf rows n) (wordS colour) (fun i => ((7 * (colsOf rows n colour).getD i 0 : Nat) : Int)) (colsOf rows n colour).length) := by
  have at_ := fun i => at_text hr hc i
  have mono := mono_at (cols_mono rows n colour)
  generalize colsOf rows n colour = l at *
  generalize textOf rows n = x at *
  generalize wordS colour = w at *
  have mem : ∀ c, c ∈ l → ∃ j, j < l.length ∧ l.getD j 0 = c := fun c h => by
    obtain ⟨j, hj, e⟩ := List.getElem_of_mem h
    exact ⟨j, hj, by simp [List.getD_eq_getElem?_getD, hj, e]⟩
  have mem' : ∀ j, j < l.length → l.getD j 0 ∈ l := fun j hj => by simp [List.getD_eq_getElem?_getD, hj]
  refine ⟨fun e => ?_, fun hp => ⟨hp, ?_, fun i _ => by (first | lia | omega), fun i hi => ?_, ?_⟩⟩
  · rcases find3_spec x w 0 with ⟨h, _⟩ | ⟨k, h, _, ha, _⟩
    · exact h
    · obtain ⟨c, _, hm⟩ := (at_ k).mp ha
      rw [e] at hm; cases hm
  · rcases find3_spec x w 0 with ⟨h, hn⟩ | ⟨k, h, _, ha, hn⟩
    · exact absurd ((at_ _).mpr ⟨_, rfl, mem' 0 hp⟩) (hn _ (Nat.zero_le _))
    · obtain ⟨c, rfl, hm⟩ := (at_ k).mp ha
      obtain ⟨j, hj, rfl⟩ := mem c hm
      have : j = 0 := by
        by_cases h0 : j = 0
        · exact h0
        · have := mono 0 j (by (first | lia | omega)) hj
          exact absurd ((at_ _).mpr ⟨_, rfl, mem' 0 hp⟩) (hn (7 * l.getD 0 0) (Nat.zero_le _) (by (first | lia | omega)))
      subst this
      exact h
  · have e : ((7 * l.getD i 0 : Nat) : Int) + 7 = ((7 * l.getD i 0 + 7 : Nat) : Int) := by (first | lia | omega)
    rw [e]
    rcases find3_spec x w (7 * l.getD i 0 + 7) with ⟨h, hn⟩ | ⟨k, h, hk, ha, hn⟩
    · have := mono i (i + 1) (by (first | lia | omega)) hi
      exact absurd ((at_ _).mpr ⟨_, rfl, mem' (i + 1) hi⟩) (hn _ (by (first | lia | omega)))
    · obtain ⟨c, rfl, hm⟩ := (at_ k).mp ha
      obtain ⟨j, hj, rfl⟩ := mem c hm
      have : j = i + 1 := by
        rcases Nat.lt_trichotomy j (i + 1) with h1 | h1 | h1
        · by_cases hji : j = i
          · subst hji; (first | lia | omega)
          · have := mono j i (by (first | lia | omega)) (by (first | lia | omega)); (first | lia | omega)
        · exact h1
        · have m1 := mono (i + 1) j h1 hj
          have m2 := mono i (i + 1) (by (first | lia | omega)) hi
          exact absurd ((at_ _).mpr ⟨_, rfl, mem' (i + 1) hi⟩) (hn _ (by (first | lia | omega)) (by (first | lia | omega)))
      subst this
      exact h
  · have e : ((7 * l.getD (l.length - 1) 0 : Nat) : Int) + 7 = ((7 * l.getD (l.length - 1) 0 + 7 : Nat) : Int) := by (first | lia | omega)
    rw [e]
    rcases find3_spec x w (7 * l.getD (l.length - 1) 0 + 7) with ⟨h, hn⟩ | ⟨k, h, hk, ha, hn⟩
    · exact h
    · obtain ⟨c, rfl, hm⟩ := (at_ k).mp ha
      obtain ⟨j, hj, rfl⟩ := mem c hm
      by_cases hji : j = l.length - 1
      · subst hji; (first | lia | omega)
      · have := mono j (l.length - 1) (by (first | lia | omega)) (by (first | lia | omega)); (first | lia | omega)
/-- the last place in a line that ends by col -/
noncomputable def srT (l : List Nat) (col : Int) : Option Int := ((l.takeWhile fun c => decide (((7 * c : Nat) : Int) + 7 ≤ col)).getLast?).map fun c => ((7 * c : Nat) : Int)
theorem takeWhile_facts (P : Nat → Bool) : ∀ l : List Nat, ∃ n, n ≤ l.length ∧ l.takeWhile P = l.take n ∧ (∀ i, i < n → P (l.getD i 0) = true) ∧ (n < l.length → P (l.getD n 0) = false)
  | [] => ⟨0, Nat.le_refl _, rfl, fun i h => by (first | lia | omega), fun h => by simp at h⟩
  | c :: r => by
    cases h : P c with
    | false => exact ⟨0, Nat.zero_le _, by simp [List.takeWhile, h], fun i hi => by (first | lia | omega), fun _ => by simpa using h⟩
    | true =>
      obtain ⟨n, h1, h2, h3, h4⟩ := takeWhile_facts P r
      refine ⟨n + 1, by simpa using h1, by simp [List.takeWhile, h, h2], fun i hi => ?_, fun hn => ?_⟩
      · cases i with
        | zero => simpa using h
        | succ i => simpa using h3 i (by (first | lia | omega))
      · simpa using h4 (by simpa using hn)
section
variable {X : Fix} (O : X.Ok) (O3 : Ok3 X) (G : Env4 X) {k : Nat} {sc : Scope} {m : Str → Option D}
include O O3 G
theorem con_sr {rows : Nat → List Int} {n : Nat} {colour : List Int} (hr : ∀ c, c < n → Col (rows c)) (hc : Col colour) (col : Int) : Con X (k + 2) 4 [.prg (wordS colour), .str (textOf rows n), .int col] (oD (srT (colsOf rows n colour) col)) := by
  obtain ⟨h1, h2⟩ := text_places hr hc
  generalize colsOf rows n colour = l at *
  by_cases hl : l = []
  · rw [hl]
    exact con_reverse0 O O3 G _ _ col (h1 hl)
  · have hp : 0 < l.length := List.length_pos_iff.mpr hl
    obtain ⟨N, g1, g2, g3, g4⟩ := takeWhile_facts (fun c => decide (((7 * c : Nat) : Int) + 7 ≤ col)) l
    have := con_reverse (k := k) O O3 G (wordS colour) (textOf rows n) col _ l.length N (h2 hp) g1 (fun i hi => of_decide_eq_true (g3 i hi)) (fun hN => of_decide_eq_false (g4 hN))
    have e : oD (srT l col) = Fd (fun i => ((7 * l.getD i 0 : Nat) : Int)) N := by
      unfold srT
      rw [g2]
      cases N with
      | zero => simp [oD, Fd]
      | succ N =>
        have : (l.take (N + 1)).getLast? = some (l.getD N 0) := by
          rw [List.getLast?_eq_getElem?, List.length_take, Nat.min_eq_left g1]
          simp [List.getD_eq_getElem?_getD, show N < l.length by (first | lia | omega)]
        rw [this]; rfl
    rw [e]; exact this
end
end Mine
end
section
open PySem PySem.W PySem.Calls PyProof.Rows
namespace Mine
open Float64
theorem V_repr : ∀ (k q : Nat), q < 2 ^ 53 → ∃ t, V t = q * 2 ^ k
  | 0, q, h => ⟨0 * 2 ^ 52 + q, V_at (Nat.le_of_lt h) (.inr rfl)⟩
  | k + 1, q, h => by
    by_cases h2 : 2 ^ 52 ≤ q
    · exact ⟨_, V_at (Nat.le_of_lt h) (.inl h2)⟩
    · obtain ⟨t, e⟩ := V_repr k (2 * q) (by (first | lia | omega))
      exact ⟨t, by rw [e, Nat.pow_succ]; ac_rfl⟩
theorem lim_le (k : Nat) (hk : k + 54 ≤ 2098) : 2 ^ (k + 54) ≤ (2 ^ 54 - 1) * 2 ^ 2045 := by
  refine Nat.le_trans (Nat.pow_le_pow_right (by decide) hk) ?_
  rw [show 2098 = 53 + 2045 from rfl, Nat.pow_add]
  exact Nat.mul_le_mul_right _ (by decide)
theorem right_close {r : UInt64} {neg : Bool} {W D k : Nat} (h : Right r neg W D) (hD : 0 < D) (hW : W < D * 2 ^ (k + 53)) (hk : k + 54 ≤ 2098) : ∃ t, r = pack neg t ∧ t < infMag ∧ dist W (D * V t) ≤ D * 2 ^ k ∧ ∀ t', dist W (D * V t) ≤ dist W (D * V t') := by
  have hlim := lim_le k hk
  unfold Right at h
  generalize (2 ^ 54 - 1) * 2 ^ 2045 = LIM at h hlim
  obtain ⟨t, e, h1, h2, h3⟩ := h
  have ht : t < infMag := by
    rcases Nat.lt_or_eq_of_le h1 with h | h
    · exact h
    · have h4 := h2.mp h
      have h5 : D * 2 ^ (k + 54) ≤ D * LIM := Nat.mul_le_mul_left _ hlim
      have h6 : D * 2 ^ (k + 54) = D * 2 ^ (k + 53) * 2 := by rw [show k + 54 = k + 53 + 1 from rfl, Nat.pow_succ, Nat.mul_assoc]
      generalize D * 2 ^ (k + 54) = P1 at *
      generalize D * 2 ^ (k + 53) = P2 at *
      generalize D * LIM = P3 at *
      omega
  refine ⟨t, e, ht, ?_⟩
  have hpos : 0 < D * 2 ^ k := Nat.mul_pos hD (Nat.two_pow_pos k)
  have hq : W / (D * 2 ^ k) < 2 ^ 53 := by
    rw [Nat.div_lt_iff_lt_mul hpos]
    rw [Nat.pow_add] at hW
    calc W < D * (2 ^ k * 2 ^ 53) := hW
      _ = 2 ^ 53 * (D * 2 ^ k) := by ac_rfl
  obtain ⟨t', e'⟩ := V_repr k _ hq
  have h4 := (h3 ht t').1
  refine ⟨Nat.le_trans h4 ?_, fun t' => (h3 ht t').1⟩
  rw [e']
  have h5 : D * (W / (D * 2 ^ k) * 2 ^ k) = (D * 2 ^ k) * (W / (D * 2 ^ k)) := by ac_rfl
  rw [h5]
  have h6 := Nat.div_add_mod W (D * 2 ^ k)
  have h7 := Nat.mod_lt W hpos
  unfold dist
  omega
theorem right_exact {r : UInt64} {neg : Bool} {W D k q : Nat} (h : Right r neg W D) (hD : 0 < D) (hW : W = D * (q * 2 ^ k)) (hq : q < 2 ^ 53) (hk : k + 54 ≤ 2098) : ∃ t, r = pack neg t ∧ t < infMag ∧ V t = q * 2 ^ k := by
  obtain ⟨t, e, ht, _, hnear⟩ := right_close (k := k) h hD (by
    rw [hW, Nat.pow_add]
    exact Nat.mul_lt_mul_of_pos_left (by rw [Nat.mul_comm]; exact Nat.mul_lt_mul_of_pos_left hq (Nat.two_pow_pos k)) hD) hk
  refine ⟨t, e, ht, ?_⟩
  obtain ⟨t', e'⟩ := V_repr k q hq
  have h4 := hnear t'
  rw [e', hW] at h4
  have h5 : dist (D * (q * 2 ^ k)) (D * (q * 2 ^ k)) = 0 := by unfold dist; (first | lia | omega)
  rw [h5] at h4
  have h6 : D * (q * 2 ^ k) = D * V t := by unfold dist at h4; (first | lia | omega)
  exact (Nat.eq_of_mul_eq_mul_left hD h6).symm
noncomputable def UN : Nat := 2 ^ 1074
noncomputable def UU : Rat := ((UN : Nat) : Rat)
theorem UN_pos : 0 < UN := Nat.two_pow_pos _
theorem UU_pos : 0 < UU := by unfold UU; exact_mod_cast UN_pos
noncomputable def rv (x : UInt64) : Rat := (val x : Rat) / UU
theorem rv_mul (x : UInt64) : rv x * UU = (val x : Rat) := by unfold rv; exact Rat.div_mul_cancel (by have := UU_pos; grind)
noncomputable def Fn0 (x : UInt64) : Prop := ∃ a m e, decode x = .fin a m e
theorem Fn0.fin {x : UInt64} (h : Fn0 x) : isFinite x = true := by obtain ⟨a, m, e, h⟩ := h; unfold isFinite; rw [h]
/-- a lies within e of b -/
noncomputable def Nr (a b e : Rat) : Prop := a - b ≤ e ∧ b - a ≤ e
/-- the rounding error of a value below 2^j -/
noncomputable def ep (j : Nat) : Rat := ((2 ^ j : Nat) : Rat) / 9007199254740992
theorem ep_eq (j : Nat) : ep j * UU = ((2 ^ (1021 + j) : Nat) : Rat) := by
  unfold ep
  have h : ((2 ^ (1021 + j) : Nat) : Rat) * 9007199254740992 = ((2 ^ j : Nat) : Rat) * UU := by
    have : 2 ^ (1021 + j) * 9007199254740992 = 2 ^ j * UN := by
      unfold UN
      rw [show (9007199254740992 : Nat) = 2 ^ 53 from rfl, ← Nat.pow_add, ← Nat.pow_add]
      congr 1; (first | lia | omega)
    unfold UU
    exact_mod_cast this
  grind
theorem sgn_cast (neg : Bool) (n : Nat) : (sgn neg n) = if neg then -(n : Int) else n := rfl
theorem right_rv {r : UInt64} {neg : Bool} {W D j : Nat} {e : Rat} (h : Right r neg W D) (hD : 0 < D) (he : e * ((D : Rat) * UU) = ((sgn neg W : Int) : Rat)) (hW : W < D * 2 ^ (1074 + j)) (hj : j ≤ 100) : Fn0 r ∧ Nr (rv r) e (ep j) := by
  obtain ⟨t, e1, ht, hd, _⟩ := right_close (k := 1021 + j) h hD (by rw [show 1021 + j + 53 = 1074 + j by (first | lia | omega)]; exact hW) (by (first | lia | omega))
  obtain ⟨m, ee, hdec, hv⟩ := decode_pack neg ht
  have hval : val r = sgn neg (V t) := by rw [e1]; exact val_pack neg ht
  refine ⟨⟨neg, m, ee, by rw [e1]; exact hdec⟩, ?_⟩
  have hI : (sgn neg (V t)) * D - sgn neg W ≤ ((D * 2 ^ (1021 + j) : Nat) : Int) ∧ sgn neg W - (sgn neg (V t)) * D ≤ ((D * 2 ^ (1021 + j) : Nat) : Int) := by
    unfold dist at hd
    generalize D * 2 ^ (1021 + j) = B at *
    have hc : ((D * V t : Nat) : Int) = (V t : Int) * D := by rw [Int.natCast_mul, Int.mul_comm]
    rw [sgn_cast, sgn_cast]
    cases neg
    · simp only [Bool.false_eq_true, if_false]
      rw [← hc]; (first | lia | omega)
    · simp only [if_true]
      rw [Int.neg_mul, ← hc]; (first | lia | omega)
  rw [← hval] at hI
  have hDp : (0 : Rat) < (D : Rat) := by exact_mod_cast hD
  have hP : 0 < (D : Rat) * UU := Rat.mul_pos hDp UU_pos
  have h1 : ((val r : Int) : Rat) * (D : Rat) - ((sgn neg W : Int) : Rat) ≤ (D : Rat) * ((2 ^ (1021 + j) : Nat) : Rat) := by exact_mod_cast hI.1
  have h2 : ((sgn neg W : Int) : Rat) - ((val r : Int) : Rat) * (D : Rat) ≤ (D : Rat) * ((2 ^ (1021 + j) : Nat) : Rat) := by exact_mod_cast hI.2
  rw [← ep_eq, ← he, ← rv_mul] at h1 h2
  constructor
  · refine Rat.le_of_mul_le_mul_right (c := (D : Rat) * UU) ?_ hP
    grind
  · refine Rat.le_of_mul_le_mul_right (c := (D : Rat) * UU) ?_ hP
    grind
theorem lt_of_rat {z : Int} {N : Nat} (h1 : (z : Rat) < (N : Rat)) (h2 : -(N : Rat) < (z : Rat)) : z.natAbs < N := by
  have b1 : z < (N : Int) := by
    have : (z : Rat) < (((N : Nat) : Int) : Rat) := by exact_mod_cast h1
    exact Rat.intCast_lt_intCast.mp this
  have b2 : -(N : Int) < z := by
    have : ((-(N : Int) : Int) : Rat) < (z : Rat) := by rw [Rat.intCast_neg, Rat.intCast_natCast]; exact h2
    exact Rat.intCast_lt_intCast.mp this
  (first | lia | omega)
theorem abs_lt {z : Int} {j : Nat} {q : Rat} (hq : q * UU = (z : Rat)) (h1 : q < ((2 ^ j : Nat) : Rat)) (h2 : -((2 ^ j : Nat) : Rat) < q) : z.natAbs < 2 ^ (1074 + j) := by
  have e : ((2 ^ j : Nat) : Rat) * UU = ((2 ^ (1074 + j) : Nat) : Rat) := by
    unfold UU UN
    rw [Nat.pow_add]
    push_cast
    grind
  have a1 : (z : Rat) < ((2 ^ (1074 + j) : Nat) : Rat) := by rw [← hq, ← e]; exact Rat.mul_lt_mul_of_pos_right h1 UU_pos
  have a2 : -((2 ^ (1074 + j) : Nat) : Rat) < (z : Rat) := by
    rw [← hq, ← e]
    have := Rat.mul_lt_mul_of_pos_right h2 UU_pos
    grind
  exact lt_of_rat a1 a2
theorem sgn_of (z : Int) : sgn (decide (z < 0)) z.natAbs = z := by
  rw [sgn_cast]
  by_cases h : z < 0
  · rw [decide_eq_true h, if_pos rfl]; (first | lia | omega)
  · rw [decide_eq_false h, if_neg Bool.false_ne_true]; (first | lia | omega)
theorem zero_rv (b : Bool) : Fn0 (zero b) ∧ rv (zero b) = 0 := by
  obtain ⟨m, e, h1, h2⟩ := decode_pack b (t := 0) (by decide)
  refine ⟨⟨b, m, e, h1⟩, ?_⟩
  unfold rv
  have : val (zero b) = 0 := by
    show val (pack b 0) = 0
    rw [val_pack b (by decide), V_zero]
    cases b <;> rfl
  rw [this]
  have := UU_pos
  grind
theorem ep_nonneg (j : Nat) : 0 ≤ ep j := by
  unfold ep
  have : (0 : Rat) ≤ ((2 ^ j : Nat) : Rat) := by exact_mod_cast Nat.zero_le _
  grind
theorem add_rv {x y : UInt64} (j : Nat) (hx : Fn0 x) (hy : Fn0 y) (h1 : rv x + rv y < ((2 ^ j : Nat) : Rat)) (h2 : -((2 ^ j : Nat) : Rat) < rv x + rv y) (hj : j ≤ 100) : Fn0 (add x y) ∧ Nr (rv (add x y)) (rv x + rv y) (ep j) := by
  obtain ⟨a, m, e, hx⟩ := hx
  obtain ⟨b, k, f, hy⟩ := hy
  obtain ⟨r1, r2⟩ := add_right hx hy
  have hq : (rv x + rv y) * UU = ((val x + val y : Int) : Rat) := by
    have := rv_mul x
    have := rv_mul y
    push_cast
    grind
  by_cases h0 : val x + val y = 0
  · rw [r1 h0]
    obtain ⟨z1, z2⟩ := zero_rv (a && b)
    refine ⟨z1, ?_⟩
    rw [h0] at hq
    have : rv x + rv y = 0 := by
      have hu := UU_pos
      have : (rv x + rv y) * UU = 0 := by simpa using hq
      rcases Rat.mul_eq_zero.mp this with h | h
      · exact h
      · grind
    rw [this, z2]
    have := ep_nonneg j
    constructor <;> grind
  · refine right_rv (r2 h0) (by decide) ?_ (by rw [Nat.one_mul]; exact abs_lt hq h1 h2) hj
    rw [sgn_of, ← hq]
    grind
theorem sub_rv {x y : UInt64} (j : Nat) (hx : Fn0 x) (hy : Fn0 y) (h1 : rv x - rv y < ((2 ^ j : Nat) : Rat)) (h2 : -((2 ^ j : Nat) : Rat) < rv x - rv y) (hj : j ≤ 100) : Fn0 (sub x y) ∧ Nr (rv (sub x y)) (rv x - rv y) (ep j) := by
  obtain ⟨b, k, f, hy⟩ := hy
  have hn : rv (Float64.neg y) = - rv y := by
    unfold rv
    rw [neg_val hy]
    push_cast
    grind
  have := add_rv (x := x) (y := Float64.neg y) j hx ⟨_, _, _, neg_decode hy⟩ (by rw [hn]; grind) (by rw [hn]; grind) hj
  rw [hn] at this
  have e : rv x + - rv y = rv x - rv y := by grind
  rw [e] at this
  unfold Float64.sub
  exact this
theorem sgn_mul2 (a b : Bool) (m k : Nat) : sgn (a != b) (m * k) = sgn a m * sgn b k := by
  rw [sgn_cast, sgn_cast, sgn_cast]
  cases a <;> cases b <;> simp [Int.neg_mul, Int.mul_neg]
theorem mul_rv {x y : UInt64} (j : Nat) (hx : Fn0 x) (hy : Fn0 y) (h1 : rv x * rv y < ((2 ^ j : Nat) : Rat)) (h2 : -((2 ^ j : Nat) : Rat) < rv x * rv y) (hj : j ≤ 100) : Fn0 (mul x y) ∧ Nr (rv (mul x y)) (rv x * rv y) (ep j) := by
  obtain ⟨a, m, e, hx⟩ := hx
  obtain ⟨b, k, f, hy⟩ := hy
  have r := mul_right hx hy
  have hs : sgn (a != b) ((val x).natAbs * (val y).natAbs) = val x * val y := by
    rw [sgn_mul2, val_natAbs hx, val_natAbs hy, ← val_eq hx, ← val_eq hy]
  have hq : (rv x * rv y) * (UU * UU) = ((val x * val y : Int) : Rat) := by
    have := rv_mul x
    have := rv_mul y
    push_cast
    grind
  refine right_rv r (Nat.two_pow_pos _) ?_ ?_ hj
  · rw [hs, ← hq]; rfl
  · have e : ((2 ^ j : Nat) : Rat) * (UU * UU) = ((2 ^ 1074 * 2 ^ (1074 + j) : Nat) : Rat) := by
      unfold UU UN
      rw [Nat.pow_add 2 1074 j]
      push_cast
      grind
    have hU2 : 0 < UU * UU := Rat.mul_pos UU_pos UU_pos
    have a1 : ((val x * val y : Int) : Rat) < ((2 ^ 1074 * 2 ^ (1074 + j) : Nat) : Rat) := by rw [← hq, ← e]; exact Rat.mul_lt_mul_of_pos_right h1 hU2
    have a2 : -((2 ^ 1074 * 2 ^ (1074 + j) : Nat) : Rat) < ((val x * val y : Int) : Rat) := by
      rw [← hq, ← e]
      have := Rat.mul_lt_mul_of_pos_right h2 hU2
      grind
    rw [← Int.natAbs_mul]
    exact lt_of_rat a1 a2
end Mine
end
section
open PySem PySem.W PySem.Calls PyProof.Rows
namespace Mine
open Float64
theorem rv_pos {x : UInt64} (h : 0 < rv x) : 0 < val x := by
  have h1 := rv_mul x
  have h2 := Rat.mul_pos h UU_pos
  rw [h1] at h2
  have : ((0 : Int) : Rat) < (val x : Rat) := by simpa using h2
  exact Rat.intCast_lt_intCast.mp this
theorem rv_lt {x y : UInt64} : rv x < rv y ↔ val x < val y := by
  rw [← Rat.mul_lt_mul_right UU_pos, rv_mul, rv_mul]
  exact Rat.intCast_lt_intCast
theorem rv_inj {x y : UInt64} : rv x = rv y ↔ val x = val y := by
  constructor
  · intro h
    have h1 : (val x : Rat) = (val y : Rat) := by rw [← rv_mul, ← rv_mul, h]
    exact Rat.intCast_inj.mp h1
  · intro h
    unfold rv; rw [h]
theorem rv_zero {x : UInt64} : rv x = 0 ↔ val x = 0 := by
  constructor
  · intro h
    have h1 : (val x : Rat) = ((0 : Int) : Rat) := by rw [← rv_mul, h]; simp
    exact Rat.intCast_inj.mp h1
  · intro h
    unfold rv; rw [h]
    have := UU_pos
    grind
theorem val_pos_sign {y : UInt64} {b : Bool} {k : Nat} {f : Int} (hy : decode y = .fin b k f) (h : 0 < val y) : b = false ∧ k ≠ 0 := by
  rw [val_eq hy, sgn_cast] at h
  cases b
  · refine ⟨rfl, fun e => ?_⟩
    rw [e] at h; simp at h
  · rw [if_pos rfl] at h
    exfalso
    generalize k * 2 ^ (f + 1074).toNat = z at h
    (first | lia | omega)
theorem div_rv {x y : UInt64} (j : Nat) (hx : Fn0 x) (hy : Fn0 y) (hp : 0 < rv y) (h1 : rv x / rv y < ((2 ^ j : Nat) : Rat)) (h2 : -((2 ^ j : Nat) : Rat) < rv x / rv y) (hj : j ≤ 100) : Fn0 (div x y) ∧ Nr (rv (div x y)) (rv x / rv y) (ep j) := by
  obtain ⟨a, m, e, hx⟩ := hx
  obtain ⟨b, k, f, hy⟩ := hy
  have hv := rv_pos hp
  obtain ⟨hb, hk⟩ := val_pos_sign hy hv
  have r := div_right hx hy hk
  have hN : ((val y).natAbs : Rat) = (val y : Rat) := by
    have : (((val y).natAbs : Int) : Rat) = (val y : Rat) := by rw [Int.natAbs_of_nonneg (by (first | lia | omega))]
    rw [Rat.intCast_natCast] at this; exact this
  have hs : sgn (a != b) ((val x).natAbs * 2 ^ 1074) = val x * ((UN : Nat) : Int) := by
    rw [hb, show (a != false) = a by cases a <;> rfl, sgn_mul]
    have : sgn a (val x).natAbs = val x := by rw [val_natAbs hx, ← val_eq hx]
    rw [this]; rfl
  have hq : rv x / rv y * rv y = rv x := Rat.div_mul_cancel (by grind)
  have hx' := rv_mul x
  have hy' := rv_mul y
  refine right_rv r (by (first | lia | omega)) ?_ ?_ hj
  · rw [hs, hN]
    have : ((val x * ((UN : Nat) : Int) : Int) : Rat) = (val x : Rat) * UU := by rw [Rat.intCast_mul, Rat.intCast_natCast]; rfl
    rw [this, ← hx', ← hy', ← hq]
    grind
  · generalize rv x / rv y = q at *
    have hvx : (val x : Rat) = q * (val y : Rat) := by rw [← hx', ← hy', ← hq]; grind
    have hvy : (0 : Rat) < (val y : Rat) := by have : ((0 : Int) : Rat) < (val y : Rat) := Rat.intCast_lt_intCast.mpr hv; simpa using this
    have a1 : (val x : Rat) < (((val y).natAbs * 2 ^ j : Nat) : Rat) := by
      rw [Rat.natCast_mul, hN, hvx, Rat.mul_comm]
      exact Rat.mul_lt_mul_of_pos_left h1 hvy
    have a2 : -(((val y).natAbs * 2 ^ j : Nat) : Rat) < (val x : Rat) := by
      rw [Rat.natCast_mul, hN, hvx]
      have := Rat.mul_lt_mul_of_pos_left h2 hvy
      grind
    have := lt_of_rat a1 a2
    rw [show 1074 + j = j + 1074 by (first | lia | omega), Nat.pow_add, ← Nat.mul_assoc]
    exact Nat.mul_lt_mul_of_pos_right this (Nat.two_pow_pos _)
theorem ofFrac_rv {n d : Nat} (j : Nat) (hd : 0 < d) (h : n < d * 2 ^ j) (hj : j ≤ 100) : Fn0 (ofFrac false n d) ∧ Nr (rv (ofFrac false n d)) ((n : Rat) / (d : Rat)) (ep j) := by
  have r : Right (ofFrac false n d) false (n * UN) d := ofFrac_right hd rfl hd
  have hd' : (0 : Rat) < (d : Rat) := by exact_mod_cast hd
  refine right_rv r hd ?_ ?_ hj
  · have hq : (n : Rat) / (d : Rat) * (d : Rat) = n := Rat.div_mul_cancel (by grind)
    have : ((sgn false (n * UN) : Int) : Rat) = (n : Rat) * UU := by
      show (((n * UN : Nat) : Int) : Rat) = _
      rw [Rat.intCast_natCast, Rat.natCast_mul]; rfl
    rw [this]
    generalize (n : Rat) / (d : Rat) = q at *
    rw [← hq]; grind
  · unfold UN
    rw [show 1074 + j = j + 1074 by (first | lia | omega), Nat.pow_add, ← Nat.mul_assoc]
    exact Nat.mul_lt_mul_of_pos_right h (Nat.two_pow_pos _)
theorem ofInt_rv (i : Int) (h : i.natAbs < 2 ^ 53) : Fn0 (ofInt i) ∧ rv (ofInt i) = i := by
  obtain ⟨t, e1, ht, hv⟩ := right_exact (k := 1074) (q := i.natAbs) (ofInt_right i) (by decide) (by rw [Nat.one_mul]) h (by decide)
  obtain ⟨m, ee, hdec, _⟩ := decode_pack (decide (i < 0)) ht
  refine ⟨⟨_, m, ee, by rw [e1]; exact hdec⟩, ?_⟩
  unfold rv
  have hval : val (ofInt i) = i * ((UN : Nat) : Int) := by
    rw [e1, val_pack _ ht, hv, sgn_mul, sgn_of]; rfl
  rw [hval, Rat.intCast_mul, Rat.intCast_natCast]
  exact Rat.mul_div_cancel (by have := UU_pos; unfold UU at this; grind)
theorem half_close (n d : Nat) (hd : 0 < d) : 2 * dist n (d * halfEven n d) ≤ d := by
  have h1 := Nat.div_add_mod n d
  have h2 := Nat.mod_lt n hd
  unfold halfEven dist
  simp only
  split
  · rename_i h
    have e1 : d * (n / d + 1) = d * (n / d) + d := by rw [Nat.mul_add, Nat.mul_one]
    rw [e1]
    simp only [Bool.or_eq_true, decide_eq_true_eq, Bool.and_eq_true, beq_iff_eq] at h
    omega
  · rename_i h
    simp only [Bool.or_eq_true, decide_eq_true_eq, Bool.and_eq_true, beq_iff_eq] at h
    omega
theorem near_rv {x : UInt64} (hx : Fn0 x) : Nr (rv x) ((near x : Int) : Rat) (1 / 2) := by
  obtain ⟨a, m, e, hx⟩ := hx
  have he := decode_ge hx
  have hs := shift_one m e 1074 (by (first | lia | omega))
  have hd : 0 < (shift m 1 e).2 := shift_pos _ _ _ (by decide)
  have hn : near x = sgn a (halfEven (shift m 1 e).1 (shift m 1 e).2) := by unfold near Flt.toInt; rw [hx]; rfl
  have hc := half_close (shift m 1 e).1 (shift m 1 e).2 hd
  have hv : val x = sgn a (m * 2 ^ (e + 1074).toNat) := val_eq hx
  rw [show (e + ((1074 : Nat) : Int)).toNat = (e + 1074).toNat from rfl] at hs
  generalize m * 2 ^ (e + 1074).toNat = M at *
  generalize (shift m 1 e).1 = N at *
  generalize (shift m 1 e).2 = D at *
  generalize halfEven N D = H at *
  have hDr : (0 : Rat) < (D : Rat) := by exact_mod_cast hd
  have hsr : (N : Rat) * UU = (M : Rat) * (D : Rat) := by
    unfold UU UN
    exact_mod_cast hs
  -- 2 |N - D H| ≤ D
  have c1 : 2 * ((N : Int) - D * H) ≤ D ∧ 2 * ((D : Int) * H - N) ≤ D := by
    unfold dist at hc
    rw [← Int.natCast_mul]
    generalize D * H = P at *
    (first | lia | omega)
  have r1 : 2 * ((N : Rat) - (D : Rat) * (H : Rat)) ≤ (D : Rat) := by
    have h := Rat.intCast_le_intCast.mpr c1.1
    simp only [Rat.intCast_mul, Rat.intCast_sub, Rat.intCast_natCast, Rat.intCast_ofNat] at h
    exact h
  have r2 : 2 * ((D : Rat) * (H : Rat) - (N : Rat)) ≤ (D : Rat) := by
    have h := Rat.intCast_le_intCast.mpr c1.2
    simp only [Rat.intCast_mul, Rat.intCast_sub, Rat.intCast_natCast, Rat.intCast_ofNat] at h
    exact h
  have hMr : (M : Rat) / UU * (D : Rat) = (N : Rat) := by
    have hu := UU_pos
    have : (M : Rat) / UU * UU = M := Rat.div_mul_cancel (by grind)
    generalize (M : Rat) / UU = q at *
    have h3 : (q * D) * UU = N * UU := by rw [hsr, ← this]; grind
    have h4 : (q * D - N) * UU = 0 := by grind
    rcases Rat.mul_eq_zero.mp h4 with h | h
    · grind
    · grind
  have b1 : (M : Rat) / UU - (H : Rat) ≤ 1 / 2 := by
    refine Rat.le_of_mul_le_mul_right (c := (D : Rat)) ?_ hDr
    generalize (M : Rat) / UU = q at *
    grind
  have b2 : (H : Rat) - (M : Rat) / UU ≤ 1 / 2 := by
    refine Rat.le_of_mul_le_mul_right (c := (D : Rat)) ?_ hDr
    generalize (M : Rat) / UU = q at *
    grind
  have hrv : rv x = if a then -((M : Rat) / UU) else (M : Rat) / UU := by
    unfold rv
    rw [hv, sgn_cast]
    cases a
    · simp only [Bool.false_eq_true, if_false]
      rw [Rat.intCast_natCast]
    · simp only [if_true]
      rw [Rat.intCast_neg, Rat.intCast_natCast]
      grind
  have hnr : ((near x : Int) : Rat) = if a then -(H : Rat) else (H : Rat) := by
    rw [hn, sgn_cast]
    cases a
    · simp only [Bool.false_eq_true, if_false]
      rw [Rat.intCast_natCast]
    · simp only [if_true]
      rw [Rat.intCast_neg, Rat.intCast_natCast]
  rw [hrv, hnr]
  generalize (M : Rat) / UU = q at *
  cases a
  · simp only [Bool.false_eq_true, if_false]; exact ⟨by grind, by grind⟩
  · simp only [if_true]; exact ⟨by grind, by grind⟩
theorem int_eq_of_close {m n : Int} (h1 : (m : Rat) - n < 1) (h2 : (n : Rat) - m < 1) : m = n := by
  have a1 : ((m - n : Int) : Rat) < ((1 : Int) : Rat) := by rw [Rat.intCast_sub]; simpa using h1
  have a2 : ((n - m : Int) : Rat) < ((1 : Int) : Rat) := by rw [Rat.intCast_sub]; simpa using h2
  have b1 := Rat.intCast_lt_intCast.mp a1
  have b2 := Rat.intCast_lt_intCast.mp a2
  (first | lia | omega)
theorem near_eq {x : UInt64} {n : Int} {e : Rat} (hx : Fn0 x) (h : Nr (rv x) (n : Rat) e) (he : e < 1 / 2) : near x = n := by
  have h1 := near_rv hx
  obtain ⟨a1, a2⟩ := h1
  obtain ⟨b1, b2⟩ := h
  exact int_eq_of_close (by grind) (by grind)
theorem cmp_eq_iff {x y : UInt64} (hx : Fn0 x) (hy : Fn0 y) : (cmp x y == some .eq) = decide (rv x = rv y) := by
  obtain ⟨a, m, e, hx⟩ := hx
  obtain ⟨b, k, f, hy⟩ := hy
  rw [cmp_right hx hy]
  apply Bool.eq_iff_iff.mpr
  rw [decide_eq_true_iff, rv_inj]
  constructor
  · intro h
    exact Int.compare_eq_eq.mp (Option.some.inj (eq_of_beq h))
  · intro h
    rw [Int.compare_eq_eq.mpr h]; rfl
theorem cmp_lt_iff {x y : UInt64} (hx : Fn0 x) (hy : Fn0 y) : (cmp x y == some .lt) = decide (rv x < rv y) := by
  obtain ⟨a, m, e, hx⟩ := hx
  obtain ⟨b, k, f, hy⟩ := hy
  rw [cmp_right hx hy]
  apply Bool.eq_iff_iff.mpr
  rw [decide_eq_true_iff, rv_lt]
  constructor
  · intro h
    exact Int.compare_eq_lt.mp (Option.some.inj (eq_of_beq h))
  · intro h
    rw [Int.compare_eq_lt.mpr h]; rfl
theorem isZero_iff {x : UInt64} (hx : Fn0 x) : isZero x = decide (rv x = 0) := by
  obtain ⟨a, m, e, hx⟩ := hx
  apply Bool.eq_iff_iff.mpr
  rw [decide_eq_true_iff, rv_zero, val_eq hx]
  unfold isZero
  rw [hx]
  constructor
  · intro h
    cases m with
    | zero => cases a <;> simp [sgn_cast]
    | succ m => cases h
  · intro h
    cases m with
    | zero => rfl
    | succ m =>
      have := congrArg Int.natAbs h
      rw [sgn_natAbs] at this
      have h2 := Nat.mul_pos (Nat.succ_pos m) (Nat.two_pow_pos (e + 1074).toNat)
      simp only [Int.natAbs_zero] at this
      exact absurd this (Nat.ne_of_gt h2)
end Mine
end
section
open PySem PySem.W PySem.Calls PyProof.Rows
namespace Mine
open Float64
theorem decode_c1 : decode c1 = .fin false 4503599627370496 (-52) := by kernel_rfl
theorem decode_m {x : UInt64} {a : Bool} {m : Nat} {e : Int} (h : decode x = .fin a m e) : m < 2 ^ 53 := by
  unfold decode at h
  simp only at h
  split at h
  · split at h <;> cases h
  · split at h
    · cases h; (first | lia | omega)
    · cases h; (first | lia | omega)
theorem val_c1 : val c1 = ((UN : Nat) : Int) := by
  rw [val_eq decode_c1, sgn_cast]
  rw [if_neg Bool.false_ne_true]
  congr 1
theorem rv_c1 : rv c1 = 1 := by
  unfold rv
  rw [val_c1, Rat.intCast_natCast]
  have := UU_pos
  show UU / UU = 1
  grind
theorem fn_c1 : Fn0 c1 := ⟨_, _, _, decode_c1⟩
theorem fmod_small {x : UInt64} (hx : Fn0 x) (h1 : rv x < 1) (h2 : -1 < rv x) : Fn0 (fmod x c1) ∧ rv (fmod x c1) = rv x := by
  obtain ⟨a, m, e, hx⟩ := hx
  have he := decode_ge hx
  have hm := decode_m hx
  have hW : m * 2 ^ (e + 1074).toNat < 2 ^ 1074 := by
    have := abs_lt (j := 0) (rv_mul x) (by simpa using h1) (by simpa using h2)
    rw [val_natAbs hx] at this
    exact this
  have hf : fmod x c1 = ofBin a ((m * 2 ^ (e - min e (-52)).toNat) % (4503599627370496 * 2 ^ (-52 - min e (-52)).toNat)) (min e (-52)) := by
    unfold fmod
    rw [hx, decode_c1]
    rfl
  have hp : m * 2 ^ (e - min e (-52)).toNat * 2 ^ (min e (-52) + 1074).toNat = m * 2 ^ (e + 1074).toNat := by
    rw [Nat.mul_assoc, ← Nat.pow_add]
    congr 2; (first | lia | omega)
  have hq : 4503599627370496 * 2 ^ (-52 - min e (-52)).toNat * 2 ^ (min e (-52) + 1074).toNat = 2 ^ 1074 := by
    rw [Nat.mul_assoc, ← Nat.pow_add, show (4503599627370496 : Nat) = 2 ^ 52 from rfl, ← Nat.pow_add]
    congr 1; (first | lia | omega)
  rw [← hp, ← hq] at hW
  have hlt := Nat.lt_of_mul_lt_mul_right hW
  rw [Nat.mod_eq_of_lt hlt] at hf
  have hW' : m * 2 ^ (e + 1074).toNat < 2 ^ 1074 := by rw [← hp, ← hq]; exact hW
  have hR : Right (fmod x c1) a (m * 2 ^ (e + 1074).toNat) 1 := by
    rw [hf, ← hp]
    unfold ofBin
    refine ofFrac_right (shift_pos _ _ _ (by decide)) ?_ (by decide)
    have := shift_one (m * 2 ^ (e - min e (-52)).toNat) (min e (-52)) 1074 (by (first | lia | omega))
    rw [Nat.mul_one]
    exact this
  have fin : ∃ t, fmod x c1 = pack a t ∧ t < infMag ∧ V t = m * 2 ^ (e + 1074).toNat := by
    by_cases h0 : m = 0
    · have := right_exact (k := 0) (q := 0) hR (by decide) (by rw [h0]; simp) (by decide) (by decide)
      rw [h0]
      simpa using this
    · refine right_exact (k := (e + 1074).toNat) (q := m) hR (by decide) (by rw [Nat.one_mul]) hm ?_
      have h3 : 2 ^ (e + 1074).toNat < 2 ^ 1074 := Nat.lt_of_le_of_lt (Nat.le_mul_of_pos_left _ (by (first | lia | omega))) hW'
      have := (Nat.pow_lt_pow_iff_right (by decide : 1 < 2)).mp h3
      (first | lia | omega)
  obtain ⟨t, e1, ht, hv⟩ := fin
  obtain ⟨m2, e2, hd, _⟩ := decode_pack a ht
  refine ⟨⟨a, m2, e2, by rw [e1]; exact hd⟩, ?_⟩
  rw [rv_inj, e1, val_pack a ht, hv, val_eq hx]
theorem divmod_snd (x : UInt64) : (divmod x c1).snd = if isZero (fmod x c1) = true then copysign (zero false) c1 else if (lt c1 (zero false) != lt (fmod x c1) (zero false)) = true then add (fmod x c1) c1 else fmod x c1 := by
  unfold divmod
  simp only
  split
  · rfl
  · split
    · rfl
    · rfl
theorem mod1 {x : UInt64} (hx : Fn0 x) (h1 : rv x < 1) (h2 : -1 < rv x) : Fn0 (divmod x c1).snd ∧ (rv x = 0 → rv (divmod x c1).snd = 0) ∧ (0 < rv x → rv (divmod x c1).snd = rv x) ∧ (rv x < 0 → Nr (rv (divmod x c1).snd) (rv x + 1) (ep 1)) := by
  obtain ⟨f1, f2⟩ := fmod_small hx h1 h2
  obtain ⟨z1, z2⟩ := zero_rv false
  rw [divmod_snd, isZero_iff f1, f2]
  have hc : copysign (zero false) c1 = zero false := by decide +kernel
  have hl1 : lt c1 (zero false) = false := by
    unfold Float64.lt
    rw [cmp_lt_iff fn_c1 z1, rv_c1, z2]
    exact decide_eq_false (by grind)
  have hl2 : lt (fmod x c1) (zero false) = decide (rv x < 0) := by
    unfold Float64.lt
    rw [cmp_lt_iff f1 z1, f2, z2]
  rw [hc, hl1, hl2]
  by_cases h0 : rv x = 0
  · rw [decide_eq_true h0, if_pos rfl]
    exact ⟨z1, fun _ => z2, fun h => by grind, fun h => by grind⟩
  · rw [decide_eq_false h0, if_neg Bool.false_ne_true]
    by_cases hn : rv x < 0
    · rw [decide_eq_true hn, if_pos (by decide)]
      obtain ⟨a1, a2⟩ := add_rv (x := fmod x c1) (y := c1) 1 f1 fn_c1 (by rw [f2, rv_c1]; show _ < ((2 : Nat) : Rat); simp; grind) (by rw [f2, rv_c1]; show -((2 : Nat) : Rat) < _; simp; grind) (by decide)
      rw [f2, rv_c1] at a2
      exact ⟨a1, fun h => absurd h h0, fun h => by grind, fun _ => a2⟩
    · rw [decide_eq_false hn, if_neg (by decide)]
      exact ⟨f1, fun h => absurd h h0, fun _ => f2, fun h => absurd h hn⟩
end Mine
end
section
open PySem PySem.W PySem.Calls PyProof.Rows
namespace Mine
open Float64
theorem abs_mul_le {a b e B : Rat} (ha1 : a ≤ e) (ha2 : -a ≤ e) (hb1 : b ≤ B) (hb2 : -b ≤ B) : a * b ≤ e * B ∧ -(a * b) ≤ e * B := by
  have h1 : 0 ≤ (e - a) * (B + b) := Rat.mul_nonneg (by grind) (by grind)
  have h2 : 0 ≤ (e + a) * (B - b) := Rat.mul_nonneg (by grind) (by grind)
  have h3 : 0 ≤ (e - a) * (B - b) := Rat.mul_nonneg (by grind) (by grind)
  have h4 : 0 ≤ (e + a) * (B + b) := Rat.mul_nonneg (by grind) (by grind)
  constructor <;> grind
theorem Nr.mul {x X y Y e1 e2 By BX : Rat} (h1 : Nr x X e1) (h2 : Nr y Y e2) (hy : -By ≤ y ∧ y ≤ By) (hX : -BX ≤ X ∧ X ≤ BX) : Nr (x * y) (X * Y) (e1 * By + BX * e2) := by
  obtain ⟨a1, a2⟩ := h1
  obtain ⟨b1, b2⟩ := h2
  obtain ⟨p1, p2⟩ := abs_mul_le (a := x - X) (b := y) (e := e1) (B := By) a1 (by grind) hy.2 (by grind)
  obtain ⟨q1, q2⟩ := abs_mul_le (a := X) (b := y - Y) (e := BX) (B := e2) hX.2 (by grind) b1 (by grind)
  constructor <;> grind
theorem Nr.trans {x y z e1 e2 : Rat} (h1 : Nr x y e1) (h2 : Nr y z e2) : Nr x z (e1 + e2) := by
  obtain ⟨a1, a2⟩ := h1
  obtain ⟨b1, b2⟩ := h2
  constructor <;> grind
theorem Nr.le {x y e1 e2 : Rat} (h1 : Nr x y e1) (h : e1 ≤ e2) : Nr x y e2 := by
  obtain ⟨a1, a2⟩ := h1
  constructor <;> grind
theorem Nr.add {x X y Y e1 e2 : Rat} (h1 : Nr x X e1) (h2 : Nr y Y e2) : Nr (x + y) (X + Y) (e1 + e2) := by
  obtain ⟨a1, a2⟩ := h1
  obtain ⟨b1, b2⟩ := h2
  constructor <;> grind
theorem Nr.sub {x X y Y e1 e2 : Rat} (h1 : Nr x X e1) (h2 : Nr y Y e2) : Nr (x - y) (X - Y) (e1 + e2) := by
  obtain ⟨a1, a2⟩ := h1
  obtain ⟨b1, b2⟩ := h2
  constructor <;> grind
theorem Nr.rfl' (x : Rat) : Nr x x 0 := by constructor <;> grind
/-- one unit: 2^-52 -/
noncomputable def u1 : Rat := 1 / 4503599627370496
theorem u1_eq : u1 * 4503599627370496 = 1 := by decide +kernel
theorem u1_pos : 0 < u1 := by decide +kernel
theorem ep_1 : ep 1 = u1 := by decide +kernel
theorem ep_2 : ep 2 = 2 * u1 := by decide +kernel
theorem ep_3 : ep 3 = 4 * u1 := by decide +kernel
theorem ep_6 : ep 6 = 32 * u1 := by decide +kernel
theorem ep_9 : ep 9 = 256 * u1 := by decide +kernel
theorem ep_29 : ep 29 = 268435456 * u1 := by decide +kernel
theorem p2_1 : ((2 ^ 1 : Nat) : Rat) = 2 := by decide +kernel
theorem p2_2 : ((2 ^ 2 : Nat) : Rat) = 4 := by decide +kernel
theorem p2_3 : ((2 ^ 3 : Nat) : Rat) = 8 := by decide +kernel
theorem p2_6 : ((2 ^ 6 : Nat) : Rat) = 64 := by decide +kernel
theorem p2_9 : ((2 ^ 9 : Nat) : Rat) = 512 := by decide +kernel
theorem p2_29 : ((2 ^ 29 : Nat) : Rat) = 536870912 := by decide +kernel
theorem valF_rv (v : Int) (h0 : 0 ≤ v) (h1 : v ≤ 255) : Fn0 (valF v) ∧ Nr (rv (valF v)) ((v : Rat) / 255) u1 := by
  have h := ofFrac_rv (n := v.natAbs) (d := 255) 1 (by decide) (by (first | lia | omega)) (by decide)
  have e : ((v.natAbs : Nat) : Rat) = (v : Rat) := by
    have : (((v.natAbs : Nat) : Int) : Rat) = (v : Rat) := by rw [Int.natAbs_of_nonneg h0]
    rw [Rat.intCast_natCast] at this; exact this
  rw [e, ep_1] at h
  exact h
theorem cast_range {v : Int} {a b : Int} (h0 : a ≤ v) (h1 : v ≤ b) : (a : Rat) ≤ (v : Rat) ∧ (v : Rat) ≤ (b : Rat) := ⟨Rat.intCast_le_intCast.mpr h0, Rat.intCast_le_intCast.mpr h1⟩
/-- 255 times a component -/
theorem paint_part {v n : Int} {K : UInt64} {r e : Rat} (h0 : 0 ≤ v) (h1 : v ≤ 255) (hK : Fn0 K) (hr : Nr (rv K) r e) (he : e ≤ 1 / 1048576) (r0 : 0 ≤ r) (r1 : r ≤ 1) (hn : (n : Rat) = (v : Rat) * r) :
    isFinite (mul (ofInt 255) (mul (valF v) K)) = true ∧ rnd255 (mul (valF v) K) = n := by
  obtain ⟨f1, g1⟩ := valF_rv v h0 h1
  have hu := u1_pos
  have hu2 := u1_eq
  obtain ⟨v0, v1⟩ := cast_range h0 h1
  have v0' : 0 ≤ (v : Rat) := by simpa using v0
  have v1' : (v : Rat) ≤ 255 := by simpa using v1
  obtain ⟨k1, k2⟩ := hr
  have g2 := Nr.mul (By := 2) (BX := 1) g1 ⟨k1, k2⟩ ⟨by grind, by grind⟩ ⟨by grind, by grind⟩
  obtain ⟨m1, m2⟩ := g2
  have hvr : (v : Rat) / 255 * r ≤ 1 ∧ 0 ≤ (v : Rat) / 255 * r := by
    have a1 : 0 ≤ (1 - (v : Rat) / 255) * r := Rat.mul_nonneg (by grind) r0
    have a2 : 0 ≤ (v : Rat) / 255 * r := Rat.mul_nonneg (by grind) r0
    exact ⟨by grind, a2⟩
  have hn' : (n : Rat) = 255 * ((v : Rat) / 255 * r) := by rw [hn]; grind
  generalize (v : Rat) / 255 * r = w at *
  obtain ⟨f2, g3⟩ := mul_rv (x := valF v) (y := K) 2 f1 hK (by rw [p2_2]; grind) (by rw [p2_2]; grind) (by decide)
  rw [ep_2] at g3
  obtain ⟨n1, n2⟩ := g3
  obtain ⟨i1, i2⟩ := ofInt_rv 255 (by decide)
  have i3 : rv (ofInt 255) = 255 := by rw [i2]; simp
  obtain ⟨f4, g4⟩ := mul_rv (x := ofInt 255) (y := mul (valF v) K) 9 i1 f2 (by rw [p2_9, i3]; grind) (by rw [p2_9, i3]; grind) (by decide)
  rw [ep_9, i3] at g4
  obtain ⟨q1, q2⟩ := g4
  refine ⟨f4.fin, near_eq (e := 1 / 4) f4 ⟨?_, ?_⟩ (by decide +kernel)⟩
  · rw [hn']; grind
  · rw [hn']; grind
end Mine
end
section
open PySem PySem.W PySem.Calls PyProof.Rows
namespace Mine
open Float64
noncomputable def pickG {α : Type} (i : Int) (v p q t : α) : List α :=
  if i = 0 then [v, t, p] else if i = 1 then [q, v, p] else if i = 2 then [p, v, t] else if i = 3 then [p, q, v] else if i = 4 then [t, p, v] else [v, p, q]
theorem pickG_map {α β : Type} (f : α → β) (i : Int) (v p q t : α) : (pickG i v p q t).map f = pickG i (f v) (f p) (f q) (f t) := by
  unfold pickG
  repeat' split
  all_goals rfl
theorem pickG_mem {α : Type} {i : Int} {v p q t x : α} (h : x ∈ pickG i v p q t) : x = v ∨ x = p ∨ x = q ∨ x = t := by
  unfold pickG at h
  repeat' split at h
  all_goals (simp at h; rcases h with h | h | h <;> simp [h])
theorem hsvPick_eq (i : Int) (v p q t : UInt64) : hsvPick i v p q t = pickG i v p q t := rfl
/-- how far along its sixth the hue lies, in steps -/
noncomputable def offX (a T c : Nat) : Int := (c : Int) + 6 * T * a - hsvI (hueF a T c) * a
noncomputable def okFr (a T c : Nat) : Bool :=
  isFinite (mul (hueF a T c) c6) && decide ((hsvI (hueF a T c)).natAbs < 1000) && isFinite (hsvFr (hueF a T c)) && decide (0 ≤ offX a T c) && decide (offX a T c ≤ a) &&
  decide (((val (hsvFr (hueF a T c)) * a - offX a T c * UN).natAbs) * 2 ^ 40 ≤ a * UN) &&
  decide ([fallAt a c, fallAt a ((c : Int) - 2 * a), fallAt a ((c : Int) - 4 * a)] = pickG ((hsvI (hueF a T c)).fmod 6) 0 (a : Int) (offX a T c) (a - offX a T c))
set_option maxHeartbeats 0 in
theorem okFr_1 : (List.range 6).all (fun c => (List.range 10).all fun T => okFr 1 T c) = true := by decide +kernel
set_option maxHeartbeats 0 in
theorem okFr_2 : (List.range 12).all (fun c => (List.range 10).all fun T => okFr 2 T c) = true := by decide +kernel
set_option maxHeartbeats 0 in
theorem okFr_3 : (List.range 18).all (fun c => (List.range 10).all fun T => okFr 3 T c) = true := by decide +kernel
end Mine
end
section
open PySem PySem.W PySem.Calls PyProof.Rows
namespace Mine
open Float64
theorem okFr_at {a T c : Nat} (ha : 1 ≤ a ∧ a ≤ 3) (hT : T < 10) (hc : c < 6 * a) : okFr a T c = true := by
  have h : a = 1 ∨ a = 2 ∨ a = 3 := by (first | lia | omega)
  rcases h with rfl | rfl | rfl
  · exact List.all_eq_true.mp (List.all_eq_true.mp okFr_1 c (List.mem_range.mpr hc)) T (List.mem_range.mpr hT)
  · exact List.all_eq_true.mp (List.all_eq_true.mp okFr_2 c (List.mem_range.mpr hc)) T (List.mem_range.mpr hT)
  · exact List.all_eq_true.mp (List.all_eq_true.mp okFr_3 c (List.mem_range.mpr hc)) T (List.mem_range.mpr hT)
theorem fn_of_fin {x : UInt64} (h : isFinite x = true) : Fn0 x := by
  unfold isFinite at h
  cases q : decode x with
  | fin a m e => exact ⟨a, m, e, q⟩
  | inf a => rw [q] at h; cases h
  | nan => rw [q] at h; cases h
/-- a kernel-checked bound, as a rational one -/
theorem close_of {x : UInt64} {a : Nat} {z : Int} (ha : 0 < a) (h : ((val x * a - z * UN).natAbs) * 2 ^ 40 ≤ a * UN) : Nr (rv x) ((z : Rat) / (a : Rat)) (1 / 1099511627776) := by
  have ha' : (0 : Rat) < (a : Rat) := by exact_mod_cast ha
  have hP : 0 < (a : Rat) * UU := Rat.mul_pos ha' UU_pos
  have hq : (z : Rat) / (a : Rat) * (a : Rat) = z := Rat.div_mul_cancel (by grind)
  have hx := rv_mul x
  have c1 : (val x * a - z * UN) * 1099511627776 ≤ ((a * UN : Nat) : Int) ∧ (z * UN - val x * a) * 1099511627776 ≤ ((a * UN : Nat) : Int) := by
    generalize val x * a = P at *
    generalize z * (UN : Int) = Q at *
    generalize a * UN = R at *
    have : (2 : Nat) ^ 40 = 1099511627776 := by decide
    rw [this] at h
    (first | lia | omega)
  have r1 := Rat.intCast_le_intCast.mpr c1.1
  have r2 := Rat.intCast_le_intCast.mpr c1.2
  simp only [Rat.intCast_mul, Rat.intCast_sub, Rat.intCast_natCast, Rat.intCast_ofNat, Rat.natCast_mul] at r1 r2
  rw [show ((UN : Nat) : Rat) = UU from rfl] at r1 r2
  rw [← hx] at r1 r2
  generalize (z : Rat) / (a : Rat) = q at *
  rw [← hq] at r1 r2
  constructor
  · refine Rat.le_of_mul_le_mul_right (c := (a : Rat) * UU) ?_ hP
    grind
  · refine Rat.le_of_mul_le_mul_right (c := (a : Rat) * UU) ?_ hP
    grind
noncomputable def chalf : UInt64 := 0x3fe0000000000000
theorem share_facts : (cmp (shareF 0 1) c0 == some .eq) = true ∧ (cmp (shareF 0 2) c0 == some .eq) = true ∧ shareF 1 1 = c1 ∧ shareF 2 2 = c1 ∧ shareF 1 2 = chalf ∧ (cmp c1 c0 == some .eq) = false ∧ (cmp chalf c0 == some .eq) = false := by decide +kernel
theorem half_rv : Fn0 chalf ∧ rv chalf = 1 / 2 := by
  have hd : decode chalf = .fin false 4503599627370496 (-53) := by kernel_rfl
  refine ⟨⟨_, _, _, hd⟩, ?_⟩
  have h2 : val chalf * 2 = ((UN : Nat) : Int) := by
    rw [val_eq hd, sgn_cast, if_neg Bool.false_ne_true]
    rw [show (2 : Int) = ((2 : Nat) : Int) from rfl, ← Int.natCast_mul]
    congr 1
  have h3 := rv_mul chalf
  have h4 : (val chalf : Rat) * 2 = UU := by
    have := congrArg (fun z : Int => (z : Rat)) h2
    simp only [Rat.intCast_mul, Rat.intCast_natCast] at this
    show _ = ((UN : Nat) : Rat)
    simpa using this
  have hu := UU_pos
  rw [← h3] at h4
  have h5 : (rv chalf * 2 - 1) * UU = 0 := by grind
  rcases Rat.mul_eq_zero.mp h5 with h | h <;> grind
theorem paint_v {v : Int} (h0 : 0 ≤ v) (h1 : v ≤ 255) : isFinite (mul (ofInt 255) (valF v)) = true ∧ rnd255 (valF v) = v := by
  obtain ⟨f1, g1, g2⟩ := valF_rv v h0 h1
  have hu := u1_pos
  have hu2 := u1_eq
  obtain ⟨v0, v1⟩ := cast_range h0 h1
  have v0' : 0 ≤ (v : Rat) := by simpa using v0
  have v1' : (v : Rat) ≤ 255 := by simpa using v1
  obtain ⟨i1, i2⟩ := ofInt_rv 255 (by decide)
  have i3 : rv (ofInt 255) = 255 := by rw [i2]; simp
  obtain ⟨f4, g4⟩ := mul_rv (x := ofInt 255) (y := valF v) 9 i1 f1 (by rw [p2_9, i3]; grind) (by rw [p2_9, i3]; grind) (by decide)
  rw [ep_9, i3] at g4
  obtain ⟨q1, q2⟩ := g4
  refine ⟨f4.fin, near_eq (e := 1 / 4) f4 ⟨?_, ?_⟩ (by decide +kernel)⟩
  · grind
  · grind
/-- the three coefficients -/
theorem coef_close {s f : UInt64} {S F : Rat} (hs : Fn0 s) (hS : rv s = S) (s0 : 0 ≤ S) (s1 : S ≤ 1) (hf : Fn0 f) (hF : Nr (rv f) F (1 / 1099511627776)) (f0 : 0 ≤ F) (f1 : F ≤ 1) :
    (Fn0 (sub c1 s) ∧ Nr (rv (sub c1 s)) (1 - S) (1 / 1048576)) ∧ (Fn0 (sub c1 (mul s f)) ∧ Nr (rv (sub c1 (mul s f))) (1 - S * F) (1 / 1048576)) ∧ (Fn0 (sub c1 (mul s (sub c1 f))) ∧ Nr (rv (sub c1 (mul s (sub c1 f)))) (1 - S * (1 - F)) (1 / 1048576)) := by
  have hu := u1_pos
  have hu2 := u1_eq
  have h1 := rv_c1
  obtain ⟨F1, F2⟩ := hF
  have main : ∀ {g : UInt64} {H : Rat}, Fn0 g → Nr (rv g) H (1 / 549755813888) → 0 ≤ H → H ≤ 1 → Fn0 (sub c1 (mul s g)) ∧ Nr (rv (sub c1 (mul s g))) (1 - S * H) (1 / 1048576) := fun {g H} hg hH h0 h1' => by
    have hm := Nr.mul (By := 2) (BX := 1) (x := rv s) (X := S) (e1 := 0) (by rw [hS]; exact Nr.rfl' _) hH ⟨by obtain ⟨z1, z2⟩ := hH; grind, by obtain ⟨z1, z2⟩ := hH; grind⟩ ⟨by grind, by grind⟩
    have hb : 0 ≤ S * H ∧ S * H ≤ 1 := by
      have a1 := Rat.mul_nonneg s0 h0
      have a2 : 0 ≤ (1 - S) * H := Rat.mul_nonneg (by grind) h0
      exact ⟨a1, by grind⟩
    generalize S * H = w at *
    obtain ⟨m1, m2⟩ := hm
    obtain ⟨p1, p2, p3⟩ := mul_rv (x := s) (y := g) 1 hs hg (by rw [p2_1]; grind) (by rw [p2_1]; grind) (by decide)
    rw [ep_1] at p2 p3
    obtain ⟨q1, q2, q3⟩ := sub_rv (x := c1) (y := mul s g) 1 fn_c1 p1 (by rw [p2_1, h1]; grind) (by rw [p2_1, h1]; grind) (by decide)
    rw [ep_1, h1] at q2 q3
    exact ⟨q1, by grind, by grind⟩
  refine ⟨?_, main hf ⟨by grind, by grind⟩ f0 f1, ?_⟩
  · obtain ⟨q1, q2, q3⟩ := sub_rv (x := c1) (y := s) 1 fn_c1 hs (by rw [p2_1, h1]; grind) (by rw [p2_1, h1]; grind) (by decide)
    rw [ep_1, h1, hS] at q2 q3
    exact ⟨q1, by grind, by grind⟩
  · obtain ⟨q1, q2, q3⟩ := sub_rv (x := c1) (y := f) 1 fn_c1 hf (by rw [p2_1, h1]; grind) (by rw [p2_1, h1]; grind) (by decide)
    rw [ep_1, h1] at q2 q3
    exact main q1 ⟨by grind, by grind⟩ (by grind) (by grind)
theorem painted {a b T l c : Nat} {t v : Int} (ha : 1 ≤ a ∧ a ≤ 3) (hb : 1 ≤ b ∧ b ≤ 2) (hT : T < 10) (hl : l ≤ b) (hc : c < 6 * a) (ht : 1 ≤ t) (hv : v = a * b * t) (hv2 : v ≤ 255) : Painted a b v l (T : Int) c := by
  have hab : 1 ≤ (a : Int) * b := by
    have : (1 : Int) * 1 ≤ (a : Int) * b := Int.mul_le_mul (by (first | lia | omega)) (by (first | lia | omega)) (by (first | lia | omega)) (by (first | lia | omega))
    (first | lia | omega)
  have hv1 : 1 ≤ v := by
    rw [hv]
    have : (1 : Int) * 1 ≤ ((a : Int) * b) * t := Int.mul_le_mul hab ht (by (first | lia | omega)) (by (first | lia | omega))
    (first | lia | omega)
  have hok := okFr_at ha hT hc
  unfold okFr at hok
  simp only [Bool.and_eq_true, decide_eq_true_eq] at hok
  obtain ⟨⟨⟨⟨⟨⟨k1, k2⟩, k3⟩, k4⟩, k5⟩, k6⟩, k7⟩ := hok
  have hfd : v.fdiv ((a : Int) * b) = t := by
    rw [hv, Int.mul_fdiv_cancel_left _ (by (first | lia | omega))]
  have hrow : tabRow a b v l c = pickG ((hsvI (hueF a T c)).fmod 6) (v - t * l * 0) (v - t * l * a) (v - t * l * offX a T c) (v - t * l * (a - offX a T c)) := by
    have : tabRow a b v l c = [fallAt a c, fallAt a ((c : Int) - 2 * a), fallAt a ((c : Int) - 4 * a)].map fun f => v - t * l * f := by
      unfold tabRow
      rw [hfd]
      simp
    rw [this, k7, pickG_map]
  obtain ⟨y1, y2⟩ := paint_v (v := v) (by (first | lia | omega)) hv2
  have fin0 : l = 0 → (cmp (shareF l b) c0 == some .eq) = true := fun h => by
    have hb' : b = 1 ∨ b = 2 := by (first | lia | omega)
    obtain ⟨s1, s2, _⟩ := share_facts
    subst h
    rcases hb' with rfl | rfl
    · exact s1
    · exact s2
  by_cases h0 : l = 0
  · have hF : hsvF (hueF a T c) (shareF l b) (valF v) = [valF v, valF v, valF v] := by unfold hsvF; rw [if_pos (fin0 h0)]
    refine ⟨k1, small1023 _ k2, fun x hx => ?_, ?_⟩
    · rw [hF] at hx
      have : x = valF v := by simpa using hx
      rw [this]; exact y1
    · rw [hF]
      unfold tabRow
      simp [y2, h0]
  · have hS : ∃ S : Rat, Fn0 (shareF l b) ∧ rv (shareF l b) = S ∧ S * (b : Rat) = (l : Rat) ∧ 0 ≤ S ∧ S ≤ 1 ∧ (cmp (shareF l b) c0 == some .eq) = false := by
      obtain ⟨_, _, s3, s4, s5, s6, s7⟩ := share_facts
      have hb' : (b = 1 ∧ l = 1) ∨ (b = 2 ∧ l = 1) ∨ (b = 2 ∧ l = 2) := by (first | lia | omega)
      rcases hb' with ⟨rfl, rfl⟩ | ⟨rfl, rfl⟩ | ⟨rfl, rfl⟩
      · rw [s3]; exact ⟨1, fn_c1, rv_c1, by decide +kernel, by decide +kernel, by decide +kernel, s6⟩
      · rw [s5]; exact ⟨1 / 2, half_rv.1, half_rv.2, by decide +kernel, by decide +kernel, by decide +kernel, s7⟩
      · rw [s4]; exact ⟨1, fn_c1, rv_c1, by decide +kernel, by decide +kernel, by decide +kernel, s6⟩
    obtain ⟨S, e1, e2, e3, e4, e5, e6⟩ := hS
    have ha' : (0 : Rat) < (a : Rat) := by
      have : ((0 : Nat) : Rat) < (a : Rat) := Rat.natCast_lt_natCast.mpr (by (first | lia | omega))
      simpa using this
    have hX := cast_range k4 k5
    have hX0 : 0 ≤ (offX a T c : Rat) := by simpa using hX.1
    have hX1 : (offX a T c : Rat) ≤ (a : Rat) := by have := hX.2; rw [Rat.intCast_natCast] at this; exact this
    have hq : (offX a T c : Rat) / (a : Rat) * (a : Rat) = (offX a T c : Rat) := Rat.div_mul_cancel (by grind)
    have hcl := close_of (by (first | lia | omega)) k6
    have hvr : (v : Rat) = (a : Rat) * (b : Rat) * (t : Rat) := by rw [hv]; simp [Rat.intCast_mul, Rat.intCast_natCast]
    have F0 : 0 ≤ (offX a T c : Rat) / (a : Rat) := Rat.le_of_mul_le_mul_right (c := (a : Rat)) (by rw [hq]; grind) ha'
    have F1 : (offX a T c : Rat) / (a : Rat) ≤ 1 := Rat.le_of_mul_le_mul_right (c := (a : Rat)) (by rw [hq]; grind) ha'
    generalize (offX a T c : Rat) / (a : Rat) = F at *
    obtain ⟨⟨p1, p2⟩, ⟨q1, q2⟩, ⟨t1, t2⟩⟩ := coef_close e1 e2 e4 e5 (fn_of_fin k3) hcl F0 F1
    have SF : 0 ≤ S * F ∧ S * F ≤ 1 ∧ 0 ≤ S * (1 - F) ∧ S * (1 - F) ≤ 1 := by
      have a1 := Rat.mul_nonneg e4 F0
      have a2 : 0 ≤ (1 - S) * F := Rat.mul_nonneg (by grind) F0
      have a3 : 0 ≤ S * (1 - F) := Rat.mul_nonneg e4 (by grind)
      exact ⟨a1, by grind, a3, by grind⟩
    have P := paint_part (n := v - t * l * a) (v := v) (by (first | lia | omega)) hv2 p1 p2 (by decide +kernel) (by grind) (by grind) (by
      simp only [Rat.intCast_sub, Rat.intCast_mul, Rat.intCast_natCast]; rw [hvr, ← e3]; grind)
    have Qq := paint_part (n := v - t * l * offX a T c) (v := v) (by (first | lia | omega)) hv2 q1 q2 (by decide +kernel) (by grind) (by grind) (by
      simp only [Rat.intCast_sub, Rat.intCast_mul, Rat.intCast_natCast]; rw [hvr, ← e3, ← hq]; grind)
    have Tt := paint_part (n := v - t * l * (a - offX a T c)) (v := v) (by (first | lia | omega)) hv2 t1 t2 (by decide +kernel) (by grind) (by grind) (by
      simp only [Rat.intCast_sub, Rat.intCast_mul, Rat.intCast_natCast]; rw [hvr, ← e3, ← hq]; grind)
    have hF : hsvF (hueF a T c) (shareF l b) (valF v) = pickG ((hsvI (hueF a T c)).fmod 6) (valF v) (hsvP (shareF l b) (valF v)) (hsvQ (hueF a T c) (shareF l b) (valF v)) (hsvT (hueF a T c) (shareF l b) (valF v)) := by
      unfold hsvF; rw [if_neg (by rw [e6]; exact Bool.false_ne_true), hsvPick_eq]
    refine ⟨k1, small1023 _ k2, fun x hx => ?_, ?_⟩
    · rw [hF] at hx
      rcases pickG_mem hx with rfl | rfl | rfl | rfl
      · exact y1
      · exact P.1
      · exact Qq.1
      · exact Tt.1
    · rw [hF, hrow, pickG_map]
      congr 1
      · rw [y2]; simp
      · exact P.2
      · exact Qq.2
      · exact Tt.2
end Mine
end
section
open PySem PySem.W PySem.Calls PyProof.Rows
namespace Mine
open Float64
noncomputable def In8 (v : Int) : Prop := 0 ≤ v ∧ v ≤ 255
theorem In8.rat {v : Int} (h : In8 v) : 0 ≤ (v : Rat) ∧ (v : Rat) ≤ 255 := by
  obtain ⟨a, b⟩ := cast_range h.1 h.2
  exact ⟨by simpa using a, by simpa using b⟩
theorem cast_succ {i j : Int} (h : i < j) : (i : Rat) + 1 ≤ (j : Rat) := by
  have := Rat.intCast_le_intCast.mpr (show i + 1 ≤ j by (first | lia | omega))
  simpa using this
theorem valF_lt {i j : Int} (hi : In8 i) (hj : In8 j) (h : i < j) : rv (valF i) < rv (valF j) := by
  obtain ⟨_, a1, a2⟩ := valF_rv i hi.1 hi.2
  obtain ⟨_, b1, b2⟩ := valF_rv j hj.1 hj.2
  have hu := u1_pos
  have hu2 := u1_eq
  have := cast_succ h
  grind
theorem valF_fn {i : Int} (hi : In8 i) : Fn0 (valF i) := (valF_rv i hi.1 hi.2).1
theorem cmp_val_lt {i j : Int} (hi : In8 i) (hj : In8 j) : (cmp (valF i) (valF j) == some .lt) = decide (i < j) := by
  rw [cmp_lt_iff (valF_fn hi) (valF_fn hj)]
  apply decide_eq_decide.mpr
  constructor
  · intro h
    rcases Int.lt_trichotomy i j with h1 | h1 | h1
    · exact h1
    · subst h1; exact absurd h Rat.lt_irrefl
    · have := valF_lt hj hi h1
      grind
  · exact valF_lt hi hj
theorem cmp_val_eq {i j : Int} (hi : In8 i) (hj : In8 j) : (cmp (valF i) (valF j) == some .eq) = decide (i = j) := by
  rw [cmp_eq_iff (valF_fn hi) (valF_fn hj)]
  apply decide_eq_decide.mpr
  constructor
  · intro h
    rcases Int.lt_trichotomy i j with h1 | h1 | h1
    · have := valF_lt hi hj h1; grind
    · exact h1
    · have := valF_lt hj hi h1; grind
  · intro h; rw [h]
theorem maxF_val {i j : Int} (hi : In8 i) (hj : In8 j) : maxF (valF i) (valF j) = valF (max i j) := by
  unfold maxF
  rw [cmp_val_lt hi hj]
  by_cases h : i < j
  · rw [decide_eq_true h, if_pos rfl, show max i j = j by (first | lia | omega)]
  · rw [decide_eq_false h, if_neg Bool.false_ne_true, show max i j = i by (first | lia | omega)]
theorem minF_val {i j : Int} (hi : In8 i) (hj : In8 j) : minF (valF i) (valF j) = valF (min i j) := by
  unfold minF
  rw [cmp_val_lt hj hi]
  by_cases h : j < i
  · rw [decide_eq_true h, if_pos rfl, show min i j = j by (first | lia | omega)]
  · rw [decide_eq_false h, if_neg Bool.false_ne_true, show min i j = i by (first | lia | omega)]
theorem In8.max {i j : Int} (hi : In8 i) (hj : In8 j) : In8 (max i j) := by unfold In8 at *; (first | lia | omega)
theorem In8.min {i j : Int} (hi : In8 i) (hj : In8 j) : In8 (min i j) := by unfold In8 at *; (first | lia | omega)
noncomputable def mx (x y z : Int) : Int := max (max x y) z
noncomputable def mn (x y z : Int) : Int := min (min x y) z
theorem mm_bounds (x y z : Int) : (mn x y z ≤ x ∧ x ≤ mx x y z) ∧ (mn x y z ≤ y ∧ y ≤ mx x y z) ∧ (mn x y z ≤ z ∧ z ≤ mx x y z) :=
  ⟨⟨Int.le_trans (Int.min_le_left _ _) (Int.min_le_left _ _), Int.le_trans (Int.le_max_left _ _) (Int.le_max_left _ _)⟩, ⟨Int.le_trans (Int.min_le_left _ _) (Int.min_le_right _ _), Int.le_trans (Int.le_max_right _ _) (Int.le_max_left _ _)⟩, Int.min_le_right _ _, Int.le_max_right _ _⟩
theorem max_or (x y : Int) : x = max x y ∨ y = max x y := by lia
theorem min_or (x y : Int) : x = min x y ∨ y = min x y := by lia
theorem mx_or (x y z : Int) : x = mx x y z ∨ y = mx x y z ∨ z = mx x y z := by
  unfold mx
  rcases max_or (max x y) z with h | h
  · rcases max_or x y with h2 | h2
    · exact .inl (h2.trans h)
    · exact .inr (.inl (h2.trans h))
  · exact .inr (.inr h)
theorem mn_or (x y z : Int) : x = mn x y z ∨ y = mn x y z ∨ z = mn x y z := by
  unfold mn
  rcases min_or (min x y) z with h | h
  · rcases min_or x y with h2 | h2
    · exact .inl (h2.trans h)
    · exact .inr (.inl (h2.trans h))
  · exact .inr (.inr h)
theorem mm_le (x y z : Int) : mn x y z ≤ mx x y z := Int.le_trans (mm_bounds x y z).1.1 (mm_bounds x y z).1.2
theorem rMax_val {x y z : Int} (hx : In8 x) (hy : In8 y) (hz : In8 z) : rMax (valF x) (valF y) (valF z) = valF (mx x y z) := by
  unfold rMax mx; rw [maxF_val hx hy, maxF_val (hx.max hy) hz]
theorem rMin_val {x y z : Int} (hx : In8 x) (hy : In8 y) (hz : In8 z) : rMin (valF x) (valF y) (valF z) = valF (mn x y z) := by
  unfold rMin mn; rw [minF_val hx hy, minF_val (hx.min hy) hz]
/-- how far below: a difference of two components -/
theorem gap_rv {M k : Int} (hM : In8 M) (hk : In8 k) : Fn0 (sub (valF M) (valF k)) ∧ Nr (rv (sub (valF M) (valF k))) (((M : Rat) - (k : Rat)) / 255) (3 * u1) := by
  obtain ⟨f1, a1, a2⟩ := valF_rv M hM.1 hM.2
  obtain ⟨f2, b1, b2⟩ := valF_rv k hk.1 hk.2
  have hu := u1_pos
  have hu2 := u1_eq
  obtain ⟨c1', c2'⟩ := hM.rat
  obtain ⟨d1, d2⟩ := hk.rat
  obtain ⟨q1, q2, q3⟩ := sub_rv 1 f1 f2 (by rw [p2_1]; grind) (by rw [p2_1]; grind) (by decide)
  rw [ep_1] at q2 q3
  exact ⟨q1, by grind, by grind⟩
theorem ratio_close {num den A B ρ e1 e2 β η : Rat} (h1 : Nr num A e1) (h2 : Nr den B e2) (hA : A = ρ * B) (r0 : 0 ≤ ρ) (r1 : ρ ≤ 1) (hβ : 0 < β) (hd : β ≤ den) (he : e1 + e2 ≤ η * β) (hη : 0 ≤ η) : Nr (num / den) ρ η := by
  have hdp : 0 < den := by grind
  have hq : num / den * den = num := Rat.div_mul_cancel (by grind)
  obtain ⟨a1, a2⟩ := h1
  obtain ⟨b1, b2⟩ := h2
  have e2p : 0 ≤ e2 := by grind
  have p1 : 0 ≤ ρ * (e2 - (den - B)) := Rat.mul_nonneg r0 (by grind)
  have p2 : 0 ≤ ρ * (e2 - (B - den)) := Rat.mul_nonneg r0 (by grind)
  have p3 : 0 ≤ (1 - ρ) * e2 := Rat.mul_nonneg (by grind) e2p
  have p4 : 0 ≤ η * (den - β) := Rat.mul_nonneg hη (by grind)
  generalize num / den = q at *
  constructor
  · refine Rat.le_of_mul_le_mul_right (c := den) ?_ hdp
    rw [hA] at a1 a2
    grind
  · refine Rat.le_of_mul_le_mul_right (c := den) ?_ hdp
    rw [hA] at a1 a2
    grind
/-- a quotient of two gaps -/
theorem part_rv {M m k : Int} (hM : In8 M) (hm : In8 m) (hk : In8 k) (h1 : m < M) (h2 : m ≤ k) (h3 : k ≤ M) : Fn0 (div (sub (valF M) (valF k)) (sub (valF M) (valF m))) ∧ Nr (rv (div (sub (valF M) (valF k)) (sub (valF M) (valF m)))) (((M : Rat) - k) / ((M : Rat) - m)) (2048 * u1) ∧ 0 < rv (sub (valF M) (valF m)) := by
  obtain ⟨f1, g1⟩ := gap_rv hM hk
  obtain ⟨f2, g2⟩ := gap_rv hM hm
  have hu := u1_pos
  have hu2 := u1_eq
  have hR := cast_succ h1
  have hk1 : (k : Rat) ≤ (M : Rat) := Rat.intCast_le_intCast.mpr h3
  have hk2 : (m : Rat) ≤ (k : Rat) := Rat.intCast_le_intCast.mpr h2
  have hq : ((M : Rat) - k) / ((M : Rat) - m) * ((M : Rat) - m) = (M : Rat) - k := Rat.div_mul_cancel (by grind)
  have hRp : 0 < (M : Rat) - m := by grind
  have r0 : 0 ≤ ((M : Rat) - k) / ((M : Rat) - m) := Rat.le_of_mul_le_mul_right (c := (M : Rat) - m) (by rw [hq]; grind) hRp
  have r1 : ((M : Rat) - k) / ((M : Rat) - m) ≤ 1 := Rat.le_of_mul_le_mul_right (c := (M : Rat) - m) (by rw [hq]; grind) hRp
  generalize ((M : Rat) - k) / ((M : Rat) - m) = ρ at *
  have hden : 1 / 256 ≤ rv (sub (valF M) (valF m)) := by obtain ⟨z1, z2⟩ := g2; grind
  have hc := ratio_close (ρ := ρ) (β := 1 / 256) (η := 1536 * u1) g1 g2 (by rw [← hq]; grind) r0 r1 (by decide +kernel) hden (by grind) (by grind)
  obtain ⟨c1', c2'⟩ := hc
  obtain ⟨q1, q2, q3⟩ := div_rv 2 f1 f2 (by grind) (by rw [p2_2]; grind) (by rw [p2_2]; grind) (by decide)
  rw [ep_2] at q2 q3
  refine ⟨q1, ⟨by grind, by grind⟩, by grind⟩
/-- the share -/
theorem sat_rv {M m : Int} (hM : In8 M) (hm : In8 m) (h1 : m < M) : Fn0 (div (sub (valF M) (valF m)) (valF M)) ∧ Nr (rv (div (sub (valF M) (valF m)) (valF M))) (((M : Rat) - m) / (M : Rat)) (2048 * u1) ∧ 0 < rv (valF M) := by
  obtain ⟨f1, g1⟩ := gap_rv hM hm
  obtain ⟨f2, g2⟩ := valF_rv M hM.1 hM.2
  have hu := u1_pos
  have hu2 := u1_eq
  have hR := cast_succ h1
  obtain ⟨m0, m1⟩ := hm.rat
  have hMp : 0 < (M : Rat) := by grind
  have hq : ((M : Rat) - m) / (M : Rat) * (M : Rat) = (M : Rat) - m := Rat.div_mul_cancel (by grind)
  have r0 : 0 ≤ ((M : Rat) - m) / (M : Rat) := Rat.le_of_mul_le_mul_right (c := (M : Rat)) (by rw [hq]; grind) hMp
  have r1 : ((M : Rat) - m) / (M : Rat) ≤ 1 := Rat.le_of_mul_le_mul_right (c := (M : Rat)) (by rw [hq]; grind) hMp
  generalize ((M : Rat) - m) / (M : Rat) = ρ at *
  have hden : 1 / 256 ≤ rv (valF M) := by obtain ⟨z1, z2⟩ := g2; grind
  have hc := ratio_close (ρ := ρ) (β := 1 / 256) (η := 1536 * u1) g1 g2 (by rw [← hq]; grind) r0 r1 (by decide +kernel) hden (by grind) (by grind)
  obtain ⟨c1', c2'⟩ := hc
  obtain ⟨q1, q2, q3⟩ := div_rv 2 f1 f2 (by grind) (by rw [p2_2]; grind) (by rw [p2_2]; grind) (by decide)
  rw [ep_2] at q2 q3
  refine ⟨q1, ⟨by grind, by grind⟩, by grind⟩
end Mine
end
section
open PySem PySem.W PySem.Calls PyProof.Rows
namespace Mine
open Float64
theorem c_facts : c0 = zero false ∧ c2 = ofInt 2 ∧ c4 = ofInt 4 ∧ c6 = ofInt 6 := by decide +kernel
theorem c0_rv : Fn0 c0 ∧ rv c0 = 0 := by rw [c_facts.1]; exact zero_rv false
theorem c2_rv : Fn0 c2 ∧ rv c2 = 2 := by rw [c_facts.2.1]; have := ofInt_rv 2 (by decide); simpa using this
theorem c4_rv : Fn0 c4 ∧ rv c4 = 4 := by rw [c_facts.2.2.1]; have := ofInt_rv 4 (by decide); simpa using this
theorem c6_rv : Fn0 c6 ∧ rv c6 = 6 := by rw [c_facts.2.2.2]; have := ofInt_rv 6 (by decide); simpa using this
theorem sub_self_rv {p : UInt64} (h : Fn0 p) : Fn0 (sub p p) ∧ rv (sub p p) = 0 := by
  obtain ⟨a, m, e, h⟩ := h
  have := (sub_right h h).1 (by (first | lia | omega))
  rw [this]
  exact zero_rv _
theorem div_zero_rv {x y : UInt64} (hx : Fn0 x) (hy : Fn0 y) (h : rv x = 0) (hp : 0 < rv y) : Fn0 (div x y) ∧ rv (div x y) = 0 := by
  obtain ⟨a, m, e, hx⟩ := hx
  obtain ⟨b, k, f, hy⟩ := hy
  have hv := rv_pos hp
  obtain ⟨hb, hk⟩ := val_pos_sign hy hv
  have r := div_right hx hy hk
  have h0 := rv_zero.mp h
  obtain ⟨t, e1, ht, hV⟩ := right_exact (k := 0) (q := 0) r (by (first | lia | omega)) (by rw [h0]; simp) (by decide) (by decide)
  obtain ⟨m2, e2, hd, _⟩ := decode_pack (a != b) ht
  refine ⟨⟨_, m2, e2, by rw [e1]; exact hd⟩, ?_⟩
  rw [rv_zero, e1, val_pack _ ht, hV]
  cases (a != b) <;> rfl
/-- six times the hue, over the range: its numerator -/
noncomputable def hueN (x y z : Int) : Int := if x = mx x y z then y - z else if y = mx x y z then 2 * (mx x y z - mn x y z) + z - x else 4 * (mx x y z - mn x y z) + x - y
theorem H_rv {x y z : Int} (hx : In8 x) (hy : In8 y) (hz : In8 z) (h : mn x y z < mx x y z) : Fn0 (rH (valF x) (valF y) (valF z)) ∧ Nr (rv (rH (valF x) (valF y) (valF z))) ((hueN x y z : Rat) / ((mx x y z : Rat) - (mn x y z : Rat))) (8192 * u1) ∧ (hueN x y z = 0 → rv (rH (valF x) (valF y) (valF z)) = 0) := by
  have hM : In8 (mx x y z) := (hx.max hy).max hz
  have hm : In8 (mn x y z) := (hx.min hy).min hz
  obtain ⟨b1, b2, b3⟩ := mm_bounds x y z
  unfold rH rPart rRan hueN
  rw [rMax_val hx hy hz, rMin_val hx hy hz, cmp_val_eq hx hM, cmp_val_eq hy hM]
  generalize mx x y z = M at *
  generalize mn x y z = m at *
  obtain ⟨fx, gx, _⟩ := part_rv hM hm hx h b1.1 b1.2
  obtain ⟨fy, gy, _⟩ := part_rv hM hm hy h b2.1 b2.2
  obtain ⟨fz, gz, _⟩ := part_rv hM hm hz h b3.1 b3.2
  have hu := u1_pos
  have hu2 := u1_eq
  have hR := cast_succ h
  have hRp : 0 < (M : Rat) - m := by grind
  have rng : ∀ k : Int, m ≤ k → k ≤ M → ∃ ρ : Rat, ((M : Rat) - k) / ((M : Rat) - m) = ρ ∧ ρ * ((M : Rat) - m) = (M : Rat) - k ∧ 0 ≤ ρ ∧ ρ ≤ 1 := fun k hk1 hk2 => by
    have k1 : (m : Rat) ≤ (k : Rat) := Rat.intCast_le_intCast.mpr hk1
    have k2 : (k : Rat) ≤ (M : Rat) := Rat.intCast_le_intCast.mpr hk2
    have hq : ((M : Rat) - k) / ((M : Rat) - m) * ((M : Rat) - m) = (M : Rat) - k := Rat.div_mul_cancel (by grind)
    exact ⟨_, rfl, hq, Rat.le_of_mul_le_mul_right (c := (M : Rat) - m) (by rw [hq]; grind) hRp, Rat.le_of_mul_le_mul_right (c := (M : Rat) - m) (by rw [hq]; grind) hRp⟩
  obtain ⟨ρx, ex, qx, x0, x1⟩ := rng x b1.1 b1.2
  obtain ⟨ρy, ey, qy, y0, y1⟩ := rng y b2.1 b2.2
  obtain ⟨ρz, ez, qz, z0, z1⟩ := rng z b3.1 b3.2
  rw [ex] at gx
  rw [ey] at gy
  rw [ez] at gz
  obtain ⟨gx1, gx2⟩ := gx
  obtain ⟨gy1, gy2⟩ := gy
  obtain ⟨gz1, gz2⟩ := gz
  have quot : ∀ (n : Int) (q : Rat), q * ((M : Rat) - m) = (n : Rat) → (n : Rat) / ((M : Rat) - m) = q := fun n q hq => by rw [← hq]; exact Rat.mul_div_cancel (by grind)
  by_cases h1 : x = M
  · rw [decide_eq_true h1, if_pos rfl, if_pos h1]
    rw [quot (y - z) (ρz - ρy) (by rw [Rat.intCast_sub]; grind)]
    refine ⟨?_, ?_, fun h0 => ?_⟩
    · exact (sub_rv 2 fz fy (by rw [p2_2]; grind) (by rw [p2_2]; grind) (by decide)).1
    · obtain ⟨_, q2, q3⟩ := sub_rv 2 fz fy (by rw [p2_2]; grind) (by rw [p2_2]; grind) (by decide)
      rw [ep_2] at q2 q3
      exact ⟨by grind, by grind⟩
    · have : y = z := by (first | lia | omega)
      subst this
      exact (sub_self_rv fy).2
  · rw [decide_eq_false h1, if_neg Bool.false_ne_true, if_neg h1]
    by_cases h2 : y = M
    · rw [decide_eq_true h2, if_pos rfl, if_pos h2]
      rw [quot (2 * (M - m) + z - x) (2 + ρx - ρz) (by simp only [Rat.intCast_sub, Rat.intCast_add, Rat.intCast_mul, Rat.intCast_ofNat]; grind)]
      obtain ⟨fc, hc⟩ := c2_rv
      obtain ⟨p1, p2, p3⟩ := add_rv 3 fc fx (by rw [p2_3, hc]; grind) (by rw [p2_3, hc]; grind) (by decide)
      rw [ep_3, hc] at p2 p3
      obtain ⟨q1, q2, q3⟩ := sub_rv 3 p1 fz (by rw [p2_3]; grind) (by rw [p2_3]; grind) (by decide)
      rw [ep_3] at q2 q3
      exact ⟨q1, ⟨by grind, by grind⟩, fun h0 => by (first | lia | omega)⟩
    · rw [decide_eq_false h2, if_neg Bool.false_ne_true, if_neg h2]
      rw [quot (4 * (M - m) + x - y) (4 + ρy - ρx) (by simp only [Rat.intCast_sub, Rat.intCast_add, Rat.intCast_mul, Rat.intCast_ofNat]; grind)]
      obtain ⟨fc, hc⟩ := c4_rv
      obtain ⟨p1, p2, p3⟩ := add_rv 3 fc fy (by rw [p2_3, hc]; grind) (by rw [p2_3, hc]; grind) (by decide)
      rw [ep_3, hc] at p2 p3
      obtain ⟨q1, q2, q3⟩ := sub_rv 3 p1 fx (by rw [p2_3]; grind) (by rw [p2_3]; grind) (by decide)
      rw [ep_3] at q2 q3
      exact ⟨q1, ⟨by grind, by grind⟩, fun h0 => by (first | lia | omega)⟩
/-- the hue's numerator, not below nought -/
noncomputable def hueP (x y z : Int) : Int := if hueN x y z < 0 then hueN x y z + 6 * (mx x y z - mn x y z) else hueN x y z
theorem hueN_range0 {x y z M m : Int} (h : m < M) (b1 : m ≤ x ∧ x ≤ M) (b2 : m ≤ y ∧ y ≤ M) (b3 : m ≤ z ∧ z ≤ M) : -(M - m) ≤ (if x = M then y - z else if y = M then 2 * (M - m) + z - x else 4 * (M - m) + x - y) ∧ (if x = M then y - z else if y = M then 2 * (M - m) + z - x else 4 * (M - m) + x - y) ≤ 5 * (M - m) := by
  split
  · clear b1; constructor <;> lia
  · split
    · clear b2; constructor <;> lia
    · clear b3; constructor <;> lia
theorem hueN_range {x y z : Int} (h : mn x y z < mx x y z) : -(mx x y z - mn x y z) ≤ hueN x y z ∧ hueN x y z ≤ 5 * (mx x y z - mn x y z) :=
  hueN_range0 h (mm_bounds x y z).1 (mm_bounds x y z).2.1 (mm_bounds x y z).2.2
theorem hue_rv {x y z : Int} (hx : In8 x) (hy : In8 y) (hz : In8 z) (h : mn x y z < mx x y z) : Fn0 (rHue (valF x) (valF y) (valF z)) ∧ Nr (rv (rHue (valF x) (valF y) (valF z))) ((hueP x y z : Rat) / (6 * ((mx x y z : Rat) - (mn x y z : Rat)))) (16384 * u1) := by
  have hM : In8 (mx x y z) := (hx.max hy).max hz
  have hm : In8 (mn x y z) := (hx.min hy).min hz
  obtain ⟨fH, gH, zH⟩ := H_rv hx hy hz h
  have hrange := hueN_range h
  unfold rHue hueP
  generalize rH (valF x) (valF y) (valF z) = H at *
  generalize hueN x y z = n at *
  generalize mx x y z = M at *
  generalize mn x y z = m at *
  have hu := u1_pos
  have hu2 := u1_eq
  have hR := cast_succ h
  have hRp : 0 < (M : Rat) - m := by grind
  have hR255 : (M : Rat) - m ≤ 255 := by have := hM.rat; have := hm.rat; grind
  obtain ⟨f6, h6⟩ := c6_rv
  have hq : (n : Rat) / ((M : Rat) - m) * ((M : Rat) - m) = (n : Rat) := Rat.div_mul_cancel (by grind)
  have n1 : -((M : Rat) - m) ≤ (n : Rat) := by have := Rat.intCast_le_intCast.mpr hrange.1; simp only [Rat.intCast_neg, Rat.intCast_sub] at this; grind
  have n2 : (n : Rat) ≤ 5 * ((M : Rat) - m) := by have := Rat.intCast_le_intCast.mpr hrange.2; simp only [Rat.intCast_mul, Rat.intCast_sub, Rat.intCast_ofNat] at this; grind
  have q0 : -1 ≤ (n : Rat) / ((M : Rat) - m) := Rat.le_of_mul_le_mul_right (c := (M : Rat) - m) (by rw [hq]; grind) hRp
  have q1 : (n : Rat) / ((M : Rat) - m) ≤ 5 := Rat.le_of_mul_le_mul_right (c := (M : Rat) - m) (by rw [hq]; grind) hRp
  have quot : ∀ (k : Int) (q : Rat), 6 * q * ((M : Rat) - m) = (k : Rat) → (k : Rat) / (6 * ((M : Rat) - m)) = q := fun k q hq => by
    rw [show (k : Rat) = q * (6 * ((M : Rat) - m)) by rw [← hq]; grind]; exact Rat.mul_div_cancel (by grind)
  have hpos : 0 < n → 1 / 255 ≤ (n : Rat) / ((M : Rat) - m) := fun h0 => Rat.le_of_mul_le_mul_right (c := (M : Rat) - m) (by rw [hq]; have := cast_succ h0; simp at this; grind) hRp
  have hneg : n < 0 → (n : Rat) / ((M : Rat) - m) ≤ -(1 / 255) := fun h0 => Rat.le_of_mul_le_mul_right (c := (M : Rat) - m) (by rw [hq]; have := cast_succ h0; simp at this; grind) hRp
  generalize (n : Rat) / ((M : Rat) - m) = q at *
  obtain ⟨g1, g2⟩ := gH
  have hd : rv H / rv c6 = rv H / 6 := by rw [h6]
  obtain ⟨w1, w2, w3⟩ := div_rv 1 fH f6 (by rw [h6]; decide +kernel) (by rw [p2_1, h6]; grind) (by rw [p2_1, h6]; grind) (by decide)
  rw [ep_1, h6] at w2 w3
  obtain ⟨m1, m2, m3, m4⟩ := mod1 w1 (by grind) (by grind)
  refine ⟨m1, ?_⟩
  rcases Int.lt_trichotomy n 0 with h0 | h0 | h0
  · have := hneg h0
    rw [if_pos h0, quot (n + 6 * (M - m)) (q / 6 + 1) (by simp only [Rat.intCast_add, Rat.intCast_sub, Rat.intCast_mul, Rat.intCast_ofNat]; grind)]
    obtain ⟨r1, r2⟩ := m4 (by grind)
    rw [ep_1] at r1 r2
    exact ⟨by grind, by grind⟩
  · have hq0 : q = 0 := by
      rw [h0] at hq
      have : q * ((M : Rat) - m) = 0 := by simpa using hq
      rcases Rat.mul_eq_zero.mp this with h | h
      · exact h
      · grind
    obtain ⟨_, d2⟩ := div_zero_rv fH f6 (zH h0) (by rw [h6]; decide +kernel)
    rw [if_neg (by (first | lia | omega)), quot n 0 (by rw [h0]; simp), m2 d2]
    exact ⟨by grind, by grind⟩
  · have := hpos h0
    rw [if_neg (by (first | lia | omega)), quot n (q / 6) (by rw [← hq]; grind), m3 (by grind)]
    exact ⟨by grind, by grind⟩
end Mine
end
section
open PySem PySem.W PySem.Calls PyProof.Rows
namespace Mine
open Float64
/-- a size that lies close to a fraction of small denominator -/
structure Sz (s : UInt64) (A B : Int) : Prop where
  fn : Fn0 s
  fn2 : Fn0 (mul (ofInt (2 ^ 20)) s)
  yes : ∀ w : Int, A = B * w → near s = w ∧ near (mul (ofInt (2 ^ 20)) s) = 2 ^ 20 * w
  no : ∀ w : Int, near (mul (ofInt (2 ^ 20)) s) = 2 ^ 20 * w → A = B * w
theorem sz_of {s : UInt64} {A B : Int} {q : Rat} (fs : Fn0 s) (h : Nr (rv s) q (524288 * u1)) (hb0 : 1 ≤ B) (hb1 : B ≤ 255) (hq : q * (B : Rat) = (A : Rat)) (q0 : -256 ≤ q) (q1 : q ≤ 256) : Sz s A B := by
  have hu := u1_pos
  have hu2 := u1_eq
  obtain ⟨a1, a2⟩ := h
  obtain ⟨i1, i2⟩ := ofInt_rv (2 ^ 20) (by decide)
  have i3 : rv (ofInt (2 ^ 20)) = 1048576 := by rw [i2]; decide +kernel
  obtain ⟨m1, m2, m3⟩ := mul_rv (x := ofInt (2 ^ 20)) (y := s) 29 i1 fs (by rw [p2_29, i3]; grind) (by rw [p2_29, i3]; grind) (by decide)
  rw [ep_29, i3] at m2 m3
  have hB : (1 : Rat) ≤ (B : Rat) ∧ (B : Rat) ≤ 255 := by
    obtain ⟨z1, z2⟩ := cast_range hb0 hb1
    exact ⟨by simpa using z1, by simpa using z2⟩
  have c20 : ∀ w : Int, ((2 ^ 20 * w : Int) : Rat) = 1048576 * (w : Rat) := fun w => by
    rw [Rat.intCast_mul]
    have : ((2 ^ 20 : Int) : Rat) = 1048576 := by decide +kernel
    rw [this]
  refine ⟨fs, m1, fun w hw => ?_, fun w hw => ?_⟩
  · have e : q = (w : Rat) := by
      rw [hw, Rat.intCast_mul] at hq
      have : (q - (w : Rat)) * (B : Rat) = 0 := by grind
      rcases Rat.mul_eq_zero.mp this with h | h <;> grind
    refine ⟨near_eq (e := 1 / 4) fs ⟨by grind, by grind⟩ (by decide +kernel), near_eq (e := 1 / 4) m1 ⟨?_, ?_⟩ (by decide +kernel)⟩
    · rw [c20]; grind
    · rw [c20]; grind
  · obtain ⟨n1, n2⟩ := near_rv m1
    rw [hw, c20] at n1 n2
    obtain ⟨p1, p2⟩ := abs_mul_le (a := q - (w : Rat)) (b := (B : Rat)) (e := 1 / 300) (B := 255) (by grind) (by grind) hB.2 (by grind)
    refine int_eq_of_close ?_ ?_
    · rw [Rat.intCast_mul, ← hq]; grind
    · rw [Rat.intCast_mul, ← hq]; grind
/-- what the exact answer goes by -/
noncomputable def A0 (a : Nat) (x y z : Int) : Int := if mn x y z = mx x y z then 0 else a * hueP x y z
noncomputable def B0 (x y z : Int) : Int := if mn x y z = mx x y z then 1 else mx x y z - mn x y z
noncomputable def A1 (b : Nat) (x y z : Int) : Int := if mn x y z = mx x y z then 0 else b * (mx x y z - mn x y z)
noncomputable def B1 (x y z : Int) : Int := if mn x y z = mx x y z then 1 else mx x y z
theorem mul_small_int {n : Int} {s : UInt64} {q : Rat} (hn : 1 ≤ n ∧ n ≤ 18) (fs : Fn0 s) (h : Nr (rv s) q (16384 * u1)) (q0 : 0 ≤ q) (q1 : q ≤ 2) : Fn0 (mul (ofInt n) s) ∧ Nr (rv (mul (ofInt n) s)) ((n : Rat) * q) (524288 * u1) := by
  have hu := u1_pos
  have hu2 := u1_eq
  obtain ⟨i1, i2⟩ := ofInt_rv n (by (first | lia | omega))
  obtain ⟨z1, z2⟩ := cast_range hn.1 hn.2
  have n1 : 1 ≤ (n : Rat) := by simpa using z1
  have n2 : (n : Rat) ≤ 18 := by simpa using z2
  obtain ⟨a1, a2⟩ := h
  obtain ⟨p1, p2⟩ := abs_mul_le (a := (n : Rat)) (b := rv s - q) (e := 18) (B := 16384 * u1) n2 (by grind) a1 (by grind)
  have nq : (n : Rat) * q ≤ 36 ∧ 0 ≤ (n : Rat) * q := by
    have r1 : 0 ≤ (18 - (n : Rat)) * q := Rat.mul_nonneg (by grind) q0
    have r2 : 0 ≤ (n : Rat) * q := Rat.mul_nonneg (by grind) q0
    exact ⟨by grind, r2⟩
  have e : (n : Rat) * rv s = (n : Rat) * q + (n : Rat) * (rv s - q) := by grind
  generalize (n : Rat) * (rv s - q) = δ at *
  generalize (n : Rat) * q = w at *
  obtain ⟨m1, m2, m3⟩ := mul_rv (x := ofInt n) (y := s) 6 i1 fs (by rw [p2_6, i2, e]; grind) (by rw [p2_6, i2, e]; grind) (by decide)
  rw [ep_6, i2, e] at m2 m3
  exact ⟨m1, by grind, by grind⟩
theorem rgb_cases {x y z : Int} (hx : In8 x) (hy : In8 y) (hz : In8 z) : rgbF (valF x) (valF y) (valF z) = if mn x y z = mx x y z then [c0, c0, valF (mx x y z)] else [rHue (valF x) (valF y) (valF z), div (sub (valF (mx x y z)) (valF (mn x y z))) (valF (mx x y z)), valF (mx x y z)] := by
  have hM : In8 (mx x y z) := (hx.max hy).max hz
  have hm : In8 (mn x y z) := (hx.min hy).min hz
  unfold rgbF rSat rRan
  rw [rMax_val hx hy hz, rMin_val hx hy hz, cmp_val_eq hm hM]
  by_cases h : mn x y z = mx x y z
  · rw [decide_eq_true h, if_pos rfl, if_pos h]
  · rw [decide_eq_false h, if_neg Bool.false_ne_true, if_neg h]
theorem hueP_range {x y z : Int} (h : mn x y z < mx x y z) : 0 ≤ hueP x y z ∧ hueP x y z < 6 * (mx x y z - mn x y z) := by
  have := hueN_range h
  unfold hueP
  split <;> (first | lia | omega)
theorem sizes_ok {a b : Nat} {x y z : Int} (ha : 1 ≤ a ∧ a ≤ 3) (hb : 1 ≤ b ∧ b ≤ 2) (hx : In8 x) (hy : In8 y) (hz : In8 z) :
    PlaceOk a b x y z ∧ ∃ s0 s1 s2, sizesF a b x y z = [s0, s1, s2] ∧ Sz s0 (A0 a x y z) (B0 x y z) ∧ Sz s1 (A1 b x y z) (B1 x y z) ∧ Sz s2 (mx x y z) 1 := by
  have hM : In8 (mx x y z) := (hx.max hy).max hz
  have hm : In8 (mn x y z) := (hx.min hy).min hz
  have hle : mn x y z ≤ mx x y z := mm_le x y z
  have hu := u1_pos
  have hu2 := u1_eq
  have S2 : Sz (mul (ofInt 255) (valF (mx x y z))) (mx x y z) 1 := by
    obtain ⟨f1, g1, g2⟩ := valF_rv _ hM.1 hM.2
    obtain ⟨v0, v1⟩ := hM.rat
    obtain ⟨i1, i2⟩ := ofInt_rv 255 (by decide)
    have i3 : rv (ofInt 255) = 255 := by rw [i2]; simp
    obtain ⟨f4, q1, q2⟩ := mul_rv (x := ofInt 255) (y := valF (mx x y z)) 9 i1 f1 (by rw [p2_9, i3]; grind) (by rw [p2_9, i3]; grind) (by decide)
    rw [ep_9, i3] at q1 q2
    refine sz_of (q := (mx x y z : Rat)) f4 ⟨by grind, by grind⟩ (by decide) (by decide) (by simp) (by grind) (by grind)
  have key : ∃ s0 s1 s2, sizesF a b x y z = [s0, s1, s2] ∧ Sz s0 (A0 a x y z) (B0 x y z) ∧ Sz s1 (A1 b x y z) (B1 x y z) ∧ Sz s2 (mx x y z) 1 := by
    unfold sizesF
    rw [rgb_cases hx hy hz]
    unfold A0 B0 A1 B1
    by_cases h : mn x y z = mx x y z
    · simp only [if_pos h]
      obtain ⟨z1, z2⟩ := c0_rv
      have zz : ∀ n : Int, 1 ≤ n ∧ n ≤ 18 → Sz (mul (ofInt n) c0) 0 1 := fun n hn => by
        obtain ⟨p1, p2⟩ := mul_small_int (q := 0) hn z1 (by rw [z2]; exact ⟨by grind, by grind⟩) (by grind) (by grind)
        refine sz_of (q := 0) p1 ?_ (by decide) (by decide) (by simp) (by grind) (by grind)
        have e : (n : Rat) * 0 = 0 := by grind
        rw [e] at p2; exact p2
      exact ⟨_, _, _, rfl, zz _ (by (first | lia | omega)), zz _ (by (first | lia | omega)), S2⟩
    · simp only [if_neg h]
      have hlt : mn x y z < mx x y z := by (first | lia | omega)
      obtain ⟨h1, h2⟩ := hue_rv hx hy hz hlt
      obtain ⟨t1, t2, _⟩ := sat_rv hM hm hlt
      obtain ⟨r0, r1⟩ := hueP_range hlt
      have hR := cast_succ hlt
      obtain ⟨M0, M1⟩ := hM.rat
      obtain ⟨m0, m1⟩ := hm.rat
      refine ⟨_, _, _, rfl, ?_, ?_, S2⟩
      · have hq : (hueP x y z : Rat) / (6 * ((mx x y z : Rat) - (mn x y z : Rat))) * (6 * ((mx x y z : Rat) - (mn x y z : Rat))) = (hueP x y z : Rat) := Rat.div_mul_cancel (by grind)
        have p0 : 0 ≤ (hueP x y z : Rat) := by have := Rat.intCast_le_intCast.mpr r0; simpa using this
        have p1 : (hueP x y z : Rat) ≤ 6 * ((mx x y z : Rat) - (mn x y z : Rat)) := by
          have := Rat.intCast_le_intCast.mpr (Int.le_of_lt r1)
          simp only [Rat.intCast_mul, Rat.intCast_sub, Rat.intCast_ofNat] at this
          exact this
        have hpos : 0 < 6 * ((mx x y z : Rat) - (mn x y z : Rat)) := by grind
        have q0 : 0 ≤ (hueP x y z : Rat) / (6 * ((mx x y z : Rat) - (mn x y z : Rat))) := Rat.le_of_mul_le_mul_right (c := 6 * ((mx x y z : Rat) - (mn x y z : Rat))) (by rw [hq]; grind) hpos
        have q1 : (hueP x y z : Rat) / (6 * ((mx x y z : Rat) - (mn x y z : Rat))) ≤ 1 := Rat.le_of_mul_le_mul_right (c := 6 * ((mx x y z : Rat) - (mn x y z : Rat))) (by rw [hq]; grind) hpos
        generalize (hueP x y z : Rat) / (6 * ((mx x y z : Rat) - (mn x y z : Rat))) = q at *
        obtain ⟨g1, g2⟩ := mul_small_int (n := 6 * a) (by (first | lia | omega)) h1 h2 q0 (by grind)
        have ac : (((6 * (a : Int) : Int)) : Rat) = 6 * (a : Rat) := by simp [Rat.intCast_mul, Rat.intCast_natCast]
        have ar : (1 : Rat) ≤ (a : Rat) ∧ (a : Rat) ≤ 3 := ⟨by have := Rat.natCast_le_natCast.mpr ha.1; simpa using this, by have := Rat.natCast_le_natCast.mpr ha.2; simpa using this⟩
        have s1 : 0 ≤ (3 - (a : Rat)) * q := Rat.mul_nonneg (by grind) q0
        have s2 : 0 ≤ (a : Rat) * q := Rat.mul_nonneg (by grind) q0
        refine sz_of (q := 6 * (a : Rat) * q) g1 (by rw [ac] at g2; exact g2) (by (first | lia | omega)) ?_ ?_ (by grind) (by grind)
        · have := hM.2; have := hm.1; (first | lia | omega)
        · simp only [Rat.intCast_mul, Rat.intCast_sub, Rat.intCast_natCast]; rw [← hq]; grind
      · have hq : ((mx x y z : Rat) - (mn x y z : Rat)) / (mx x y z : Rat) * (mx x y z : Rat) = (mx x y z : Rat) - (mn x y z : Rat) := Rat.div_mul_cancel (by grind)
        have hpos : 0 < (mx x y z : Rat) := by grind
        have q0 : 0 ≤ ((mx x y z : Rat) - (mn x y z : Rat)) / (mx x y z : Rat) := Rat.le_of_mul_le_mul_right (c := (mx x y z : Rat)) (by rw [hq]; grind) hpos
        have q1 : ((mx x y z : Rat) - (mn x y z : Rat)) / (mx x y z : Rat) ≤ 1 := Rat.le_of_mul_le_mul_right (c := (mx x y z : Rat)) (by rw [hq]; grind) hpos
        generalize ((mx x y z : Rat) - (mn x y z : Rat)) / (mx x y z : Rat) = q at *
        obtain ⟨g1, g2⟩ := mul_small_int (n := b) (by (first | lia | omega)) t1 (t2.le (by grind)) q0 (by grind)
        have bc : (((b : Int)) : Rat) = (b : Rat) := by rw [Rat.intCast_natCast]
        have br : (1 : Rat) ≤ (b : Rat) ∧ (b : Rat) ≤ 2 := ⟨by have := Rat.natCast_le_natCast.mpr hb.1; simpa using this, by have := Rat.natCast_le_natCast.mpr hb.2; simpa using this⟩
        have s1 : 0 ≤ (2 - (b : Rat)) * q := Rat.mul_nonneg (by grind) q0
        have s2 : 0 ≤ (b : Rat) * q := Rat.mul_nonneg (by grind) q0
        refine sz_of (q := (b : Rat) * q) g1 (by rw [bc] at g2; exact g2) ?_ hM.2 ?_ (by grind) (by grind)
        · have := hm.1; (first | lia | omega)
        · simp only [Rat.intCast_mul, Rat.intCast_sub, Rat.intCast_natCast]; rw [← hq]; grind
  refine ⟨⟨fun hne => ?_, ?_, ?_⟩, key⟩
  · unfold rRan
    rw [rMax_val hx hy hz, rMin_val hx hy hz] at *
    rw [cmp_val_eq hm hM] at hne
    have hlt : mn x y z < mx x y z := by
      have : mn x y z ≠ mx x y z := fun e => hne (decide_eq_true e)
      (first | lia | omega)
    obtain ⟨t1, _, t3⟩ := sat_rv hM hm hlt
    obtain ⟨_, _, p3⟩ := part_rv hM hm hm hlt (Int.le_refl _) hle
    rw [isZero_iff (valF_fn hM), isZero_iff (gap_rv hM hm).1]
    refine ⟨fun e => ?_, fun e => ?_⟩
    · have := of_decide_eq_true e; grind
    · have := of_decide_eq_true e; grind
  · obtain ⟨s0, s1, s2, e, k0, k1, k2⟩ := key
    rw [e]
    intro s hs
    simp at hs
    rcases hs with rfl | rfl | rfl
    · exact k0.fn.fin
    · exact k1.fn.fin
    · exact k2.fn.fin
  · obtain ⟨s0, s1, s2, e, k0, k1, k2⟩ := key
    rw [e]
    intro s hs
    simp only [List.mem_cons, List.not_mem_nil, or_false] at hs
    rcases hs with rfl | rfl | rfl
    · exact k0.fn2.fin
    · exact k1.fn2.fin
    · exact k2.fn2.fin
theorem place_yes {a b : Nat} {v x y z w0 w1 : Int} (ha : 1 ≤ a ∧ a ≤ 3) (hb : 1 ≤ b ∧ b ≤ 2) (hx : In8 x) (hy : In8 y) (hz : In8 z) (h0 : A0 a x y z = B0 x y z * w0) (h1 : A1 b x y z = B1 x y z * w1) (h2 : mx x y z = v) : placeF a b v x y z = [(1 + w1, 7 * w0)] := by
  obtain ⟨_, s0, s1, s2, e, k0, k1, k2⟩ := sizes_ok ha hb hx hy hz
  obtain ⟨y0, z0⟩ := k0.yes w0 h0
  obtain ⟨y1, z1⟩ := k1.yes w1 h1
  obtain ⟨y2, z2⟩ := k2.yes v (by (first | lia | omega))
  unfold placeF wholesF
  rw [e]
  simp only [List.map_cons, List.map_nil, List.getD_cons_zero, List.getD_cons_succ]
  rw [y0, y1, z0, z1, z2, if_pos rfl]
theorem place_no {a b : Nat} {v x y z : Int} (ha : 1 ≤ a ∧ a ≤ 3) (hb : 1 ≤ b ∧ b ≤ 2) (hx : In8 x) (hy : In8 y) (hz : In8 z) (h : ¬ ∃ w0 w1, A0 a x y z = B0 x y z * w0 ∧ A1 b x y z = B1 x y z * w1 ∧ mx x y z = v) : placeF a b v x y z = [] := by
  obtain ⟨_, s0, s1, s2, e, k0, k1, k2⟩ := sizes_ok ha hb hx hy hz
  unfold placeF wholesF
  rw [e]
  simp only [List.map_cons, List.map_nil, List.getD_cons_zero, List.getD_cons_succ]
  rw [if_neg]
  intro hh
  simp only [List.cons.injEq, and_true] at hh
  obtain ⟨e0, e1, e2⟩ := hh
  exact h ⟨_, _, k0.no _ e0, k1.no _ e1, by have := k2.no _ e2; (first | lia | omega)⟩
end Mine
end
section
open PySem PySem.W PySem.Calls PyProof.Rows
namespace Mine
/-- the colour of value M, range R and hue P / 6R -/
noncomputable def Sect (M R P x y z : Int) : Prop :=
  (0 ≤ P ∧ P ≤ R ∧ x = M ∧ y = M - (R - P) ∧ z = M - R) ∨ (R ≤ P ∧ P ≤ 2 * R ∧ x = M - (P - R) ∧ y = M ∧ z = M - R) ∨ (2 * R ≤ P ∧ P ≤ 3 * R ∧ x = M - R ∧ y = M ∧ z = M - (3 * R - P)) ∨
  (3 * R ≤ P ∧ P ≤ 4 * R ∧ x = M - R ∧ y = M - (P - 3 * R) ∧ z = M) ∨ (4 * R ≤ P ∧ P ≤ 5 * R ∧ x = M - (5 * R - P) ∧ y = M - R ∧ z = M) ∨ (5 * R ≤ P ∧ P < 6 * R ∧ x = M ∧ y = M - R ∧ z = M - (P - 5 * R))
theorem mx_eq {x y z M : Int} (h1 : x ≤ M) (h2 : y ≤ M) (h3 : z ≤ M) (h7 : x = M ∨ y = M ∨ z = M) : mx x y z = M := by
  obtain ⟨b1, b2, b3⟩ := mm_bounds x y z
  apply Int.le_antisymm
  · rcases mx_or x y z with h | h | h <;> rw [← h] <;> assumption
  · rcases h7 with h | h | h
    · rw [← h]; exact b1.2
    · rw [← h]; exact b2.2
    · rw [← h]; exact b3.2
theorem mn_eq {x y z m : Int} (h1 : m ≤ x) (h2 : m ≤ y) (h3 : m ≤ z) (h7 : x = m ∨ y = m ∨ z = m) : mn x y z = m := by
  obtain ⟨b1, b2, b3⟩ := mm_bounds x y z
  apply Int.le_antisymm
  · rcases h7 with h | h | h
    · rw [← h]; exact b1.1
    · rw [← h]; exact b2.1
    · rw [← h]; exact b3.1
  · rcases mn_or x y z with h | h | h <;> rw [← h] <;> assumption
theorem sub_le' {M d : Int} (h : 0 ≤ d) : M - d ≤ M := by lia
theorem sub_ge' {M R d : Int} (h : d ≤ R) : M - R ≤ M - d := by lia
theorem ps1 {P R : Int} (h : P ≤ R) : 0 ≤ R - P := by lia
theorem ps2 {P R k j : Int} (hj : j = k + 1) (h : P ≤ j * R) : P - k * R ≤ R := by subst hj; rw [Int.add_mul] at h; lia
theorem ps3 {P R k j : Int} (hj : j = k + 1) (h : k * R ≤ P) : j * R - P ≤ R := by subst hj; rw [Int.add_mul]; lia
theorem sect_mm {M R P x y z : Int} (h : Sect M R P x y z) (hR : 0 < R) : mx x y z = M ∧ mn x y z = M - R := by
  have r0 := Int.le_of_lt hR
  have rr : M - R ≤ M := sub_le' r0
  rcases h with ⟨h1, h2, rfl, rfl, rfl⟩ | ⟨h1, h2, rfl, rfl, rfl⟩ | ⟨h1, h2, rfl, rfl, rfl⟩ | ⟨h1, h2, rfl, rfl, rfl⟩ | ⟨h1, h2, rfl, rfl, rfl⟩ | ⟨h1, h2, rfl, rfl, rfl⟩
  · have d : R - P ≤ R := by lia
    exact ⟨mx_eq (Int.le_refl _) (sub_le' (ps1 h2)) rr (.inl rfl), mn_eq rr (sub_ge' d) (Int.le_refl _) (.inr (.inr rfl))⟩
  · have d : P - R ≤ R := by lia
    exact ⟨mx_eq (sub_le' (ps1 h1)) (Int.le_refl _) rr (.inr (.inl rfl)), mn_eq (sub_ge' d) rr (Int.le_refl _) (.inr (.inr rfl))⟩
  · have d : 3 * R - P ≤ R := by lia
    exact ⟨mx_eq rr (Int.le_refl _) (sub_le' (ps1 h2)) (.inr (.inl rfl)), mn_eq (Int.le_refl _) rr (sub_ge' d) (.inl rfl)⟩
  · have d : P - 3 * R ≤ R := by lia
    exact ⟨mx_eq rr (sub_le' (ps1 h1)) (Int.le_refl _) (.inr (.inr rfl)), mn_eq (Int.le_refl _) (sub_ge' d) rr (.inl rfl)⟩
  · have d : 5 * R - P ≤ R := by lia
    exact ⟨mx_eq (sub_le' (ps1 h2)) rr (Int.le_refl _) (.inr (.inr rfl)), mn_eq (sub_ge' d) (Int.le_refl _) rr (.inr (.inl rfl))⟩
  · have d : P - 5 * R ≤ R := by lia
    exact ⟨mx_eq (Int.le_refl _) rr (sub_le' (ps1 h1)) (.inl rfl), mn_eq rr (Int.le_refl _) (sub_ge' d) (.inr (.inl rfl))⟩
theorem sect_hue {M R P x y z : Int} (h : Sect M R P x y z) (hR : 0 < R) : hueP x y z = P := by
  obtain ⟨e1, e2⟩ := sect_mm h hR
  unfold hueP hueN
  rw [e1, e2, show M - (M - R) = R by lia]
  clear e1 e2
  have key : (if x = M then y - z else if y = M then 2 * R + z - x else 4 * R + x - y) = P ∧ 0 ≤ P ∨ (if x = M then y - z else if y = M then 2 * R + z - x else 4 * R + x - y) = P - 6 * R ∧ P < 6 * R := by
    rcases h with ⟨h1, h2, rfl, rfl, rfl⟩ | ⟨h1, h2, rfl, rfl, rfl⟩ | ⟨h1, h2, rfl, rfl, rfl⟩ | ⟨h1, h2, rfl, rfl, rfl⟩ | ⟨h1, h2, rfl, rfl, rfl⟩ | ⟨h1, h2, rfl, rfl, rfl⟩
    · left; rw [if_pos rfl]; clear hR h2; exact ⟨by lia, h1⟩
    · left
      by_cases hx : y - (P - R) = y
      · rw [if_pos hx]; clear h2; exact ⟨by lia, by lia⟩
      · rw [if_neg hx, if_pos rfl]; clear h2 hx; exact ⟨by lia, by lia⟩
    · left; rw [if_neg (by lia), if_pos rfl]; clear h2; exact ⟨by lia, by lia⟩
    · left
      by_cases hy : z - (P - 3 * R) = z
      · rw [if_neg (by lia), if_pos hy]; clear h2; exact ⟨by lia, by lia⟩
      · rw [if_neg (by lia), if_neg hy]; clear h2 hy; exact ⟨by lia, by lia⟩
    · by_cases hx : z - (5 * R - P) = z
      · right; rw [if_pos hx]; clear h1; exact ⟨by lia, by lia⟩
      · left; rw [if_neg hx, if_neg (by lia)]; clear h2 hx; exact ⟨by lia, by lia⟩
    · right; rw [if_pos rfl]; clear h1; exact ⟨by lia, h2⟩
  clear h
  rcases key with ⟨h, h'⟩ | ⟨h, h'⟩
  · rw [h, if_neg (by lia)]
  · rw [h, if_pos (by lia)]; lia
theorem so5 {M m z : Int} (h1 : m < z) (h2 : z ≤ M) : Sect M (M - m) (m - z + 6 * (M - m)) M m z := .inr (.inr (.inr (.inr (.inr ⟨by lia, by lia, rfl, by lia, by lia⟩))))
theorem so0 {M m y : Int} (h1 : m ≤ y) (h2 : y ≤ M) : Sect M (M - m) (y - m) M y m := .inl ⟨by lia, by lia, rfl, by lia, by lia⟩
theorem so1 {M m x : Int} (h1 : m ≤ x) (h2 : x ≤ M) : Sect M (M - m) (2 * (M - m) + m - x) x M m := .inr (.inl ⟨by lia, by lia, by lia, rfl, by lia⟩)
theorem so2 {M m z : Int} (h1 : m ≤ z) (h2 : z ≤ M) : Sect M (M - m) (2 * (M - m) + z - m) m M z := .inr (.inr (.inl ⟨by lia, by lia, by lia, rfl, by lia⟩))
theorem so3 {M m y : Int} (h1 : m ≤ y) (h2 : y ≤ M) : Sect M (M - m) (4 * (M - m) + m - y) m y M := .inr (.inr (.inr (.inl ⟨by lia, by lia, by lia, by lia, rfl⟩)))
theorem so4 {M m x : Int} (h1 : m ≤ x) (h2 : x ≤ M) : Sect M (M - m) (4 * (M - m) + x - m) x m M := .inr (.inr (.inr (.inr (.inl ⟨by lia, by lia, by lia, by lia, rfl⟩))))
theorem sect_of0 {x y z M m : Int} (h : m < M) (b1 : m ≤ x ∧ x ≤ M) (b2 : m ≤ y ∧ y ≤ M) (b3 : m ≤ z ∧ z ≤ M) (b4 : x = M ∨ y = M ∨ z = M) (b5 : x = m ∨ y = m ∨ z = m) {n : Int} (hn : n = if x = M then y - z else if y = M then 2 * (M - m) + z - x else 4 * (M - m) + x - y) : Sect M (M - m) (if n < 0 then n + 6 * (M - m) else n) x y z := by
  by_cases hx : x = M
  · rw [if_pos hx] at hn
    subst hn hx
    by_cases hyz : y - z < 0
    · have hy : y = m := by lia
      subst hy
      rw [if_pos hyz]
      exact so5 (by lia) b3.2
    · have hz : z = m := by lia
      subst hz
      rw [if_neg hyz]
      exact so0 b2.1 b2.2
  · rw [if_neg hx] at hn
    by_cases hy : y = M
    · rw [if_pos hy] at hn
      subst hn hy
      rw [if_neg (by lia)]
      by_cases hzx : z ≤ x
      · have hz : z = m := by lia
        subst hz
        exact so1 b1.1 b1.2
      · have hx2 : x = m := by lia
        subst hx2
        exact so2 b3.1 b3.2
    · rw [if_neg hy] at hn
      have hz : z = M := by lia
      subst hn hz
      rw [if_neg (by lia)]
      by_cases hxy : x ≤ y
      · have hx2 : x = m := by lia
        subst hx2
        exact so3 b2.1 b2.2
      · have hy2 : y = m := by lia
        subst hy2
        exact so4 b1.1 b1.2
theorem sect_of {x y z : Int} (h : mn x y z < mx x y z) : Sect (mx x y z) (mx x y z - mn x y z) (hueP x y z) x y z :=
  sect_of0 h (mm_bounds x y z).1 (mm_bounds x y z).2.1 (mm_bounds x y z).2.2 (mx_or x y z) (mn_or x y z) rfl
noncomputable def colF (M R P : Int) : Int × Int × Int :=
  if P ≤ R then (M, M - (R - P), M - R) else if P ≤ 2 * R then (M - (P - R), M, M - R) else if P ≤ 3 * R then (M - R, M, M - (3 * R - P)) else if P ≤ 4 * R then (M - R, M - (P - 3 * R), M) else if P ≤ 5 * R then (M - (5 * R - P), M - R, M) else (M, M - R, M - (P - 5 * R))
theorem sect_colF {M R P x y z : Int} (h : Sect M R P x y z) (hR : 0 < R) : (x, y, z) = colF M R P := by
  unfold colF
  rcases h with ⟨h1, h2, rfl, rfl, rfl⟩ | ⟨h1, h2, rfl, rfl, rfl⟩ | ⟨h1, h2, rfl, rfl, rfl⟩ | ⟨h1, h2, rfl, rfl, rfl⟩ | ⟨h1, h2, rfl, rfl, rfl⟩ | ⟨h1, h2, rfl, rfl, rfl⟩
  · rw [if_pos h2]
  · by_cases e : P = R
    · subst e; rw [if_pos (Int.le_refl _)]; simp
    · rw [if_neg (by lia), if_pos h2]
  · rw [if_neg (by lia)]
    by_cases e : P = 2 * R
    · subst e; rw [if_pos (Int.le_refl _), show 3 * R - 2 * R = R by lia, show 2 * R - R = R by lia]
    · rw [if_neg (by lia), if_pos h2]
  · rw [if_neg (by lia), if_neg (by lia)]
    by_cases e : P = 3 * R
    · subst e; rw [if_pos (Int.le_refl _)]; simp
    · rw [if_neg (by lia), if_pos h2]
  · rw [if_neg (by lia), if_neg (by lia), if_neg (by lia)]
    by_cases e : P = 4 * R
    · subst e; rw [if_pos (Int.le_refl _), show 5 * R - 4 * R = R by lia, show 4 * R - 3 * R = R by lia]
    · rw [if_neg (by lia), if_pos h2]
  · rw [if_neg (by lia), if_neg (by lia), if_neg (by lia), if_neg (by lia)]
    by_cases e : P = 5 * R
    · subst e; rw [if_pos (Int.le_refl _)]; simp
    · rw [if_neg (by lia)]
theorem sect_unique {M R P x y z x' y' z' : Int} (h : Sect M R P x y z) (h' : Sect M R P x' y' z') (hR : 0 < R) : x = x' ∧ y = y' ∧ z = z' := by
  have e := (sect_colF h hR).trans (sect_colF h' hR).symm
  simp only [Prod.mk.injEq] at e
  exact e
noncomputable abbrev FallsAt (a : Nat) (c : Int) : Prop :=
    (c ≤ a ∧ fallAt a c = 0 ∧ fallAt a (c - 2 * a) = a - c ∧ fallAt a (c - 4 * a) = a) ∨ (a ≤ c ∧ c ≤ 2 * a ∧ fallAt a c = c - a ∧ fallAt a (c - 2 * a) = 0 ∧ fallAt a (c - 4 * a) = a) ∨
    (2 * a ≤ c ∧ c ≤ 3 * a ∧ fallAt a c = a ∧ fallAt a (c - 2 * a) = 0 ∧ fallAt a (c - 4 * a) = 3 * a - c) ∨ (3 * a ≤ c ∧ c ≤ 4 * a ∧ fallAt a c = a ∧ fallAt a (c - 2 * a) = c - 3 * a ∧ fallAt a (c - 4 * a) = 0) ∨
    (4 * a ≤ c ∧ c ≤ 5 * a ∧ fallAt a c = 5 * a - c ∧ fallAt a (c - 2 * a) = a ∧ fallAt a (c - 4 * a) = 0) ∨ (5 * a ≤ c ∧ fallAt a c = 0 ∧ fallAt a (c - 2 * a) = a ∧ fallAt a (c - 4 * a) = c - 5 * a)
noncomputable def fallsOk (a : Nat) (c : Int) : Bool := decide (FallsAt a c)
theorem falls_all : (List.range 4).all (fun a => (List.range (6 * a)).all fun c => fallsOk a c) = true := by decide +kernel
theorem falls_at {a : Nat} {c : Int} (ha : a ≤ 3) (h0 : 0 ≤ c) (h1 : c < 6 * a) : FallsAt a c := by
  have h := List.all_eq_true.mp (List.all_eq_true.mp falls_all a (List.mem_range.mpr (by lia))) c.toNat (List.mem_range.mpr (by lia))
  rw [Int.toNat_of_nonneg h0] at h
  exact of_decide_eq_true h
theorem mul_k (s k a : Int) : s * (k * a) = k * (s * a) := by rw [← Int.mul_assoc, Int.mul_comm s k, Int.mul_assoc]
theorem sect_row {a : Nat} {v s c : Int} (ha : a ≤ 3) (h0 : 0 ≤ c) (h1 : c < 6 * a) (hs : 0 < s) : Sect v (s * a) (s * c) (v - s * fallAt a c) (v - s * fallAt a (c - 2 * a)) (v - s * fallAt a (c - 4 * a)) := by
  have le : ∀ {p q : Int}, p ≤ q → s * p ≤ s * q := fun h => Int.mul_le_mul_of_nonneg_left h (Int.le_of_lt hs)
  have lt : ∀ {p q : Int}, p < q → s * p < s * q := fun h => Int.mul_lt_mul_of_pos_left h hs
  unfold Sect
  have m0 : s * 0 = 0 := Int.mul_zero _
  have z1 : v - 0 = v := Int.sub_zero v
  rcases falls_at ha h0 h1 with ⟨k1, e1, e2, e3⟩ | ⟨k0, k1, e1, e2, e3⟩ | ⟨k0, k1, e1, e2, e3⟩ | ⟨k0, k1, e1, e2, e3⟩ | ⟨k0, k1, e1, e2, e3⟩ | ⟨k0, e1, e2, e3⟩
  · left
    rw [e1, e2, e3, Int.mul_sub, m0]
    exact ⟨m0 ▸ le h0, le k1, z1, rfl, rfl⟩
  · right; left
    have q1 := le k1
    rw [mul_k s 2 a] at q1
    rw [e1, e2, e3, Int.mul_sub, m0]
    exact ⟨le k0, q1, rfl, z1, rfl⟩
  · right; right; left
    have q0 := le k0
    have q1 := le k1
    rw [mul_k s 2 a] at q0
    rw [mul_k s 3 a] at q1
    rw [e1, e2, e3, Int.mul_sub, m0, mul_k s 3 a]
    exact ⟨q0, q1, rfl, z1, rfl⟩
  · right; right; right; left
    have q0 := le k0
    have q1 := le k1
    rw [mul_k s 3 a] at q0
    rw [mul_k s 4 a] at q1
    rw [e1, e2, e3, Int.mul_sub, m0, mul_k s 3 a]
    exact ⟨q0, q1, rfl, rfl, z1⟩
  · right; right; right; right; left
    have q0 := le k0
    have q1 := le k1
    rw [mul_k s 4 a] at q0
    rw [mul_k s 5 a] at q1
    rw [e1, e2, e3, Int.mul_sub, m0, mul_k s 5 a]
    exact ⟨q0, q1, rfl, rfl, z1⟩
  · right; right; right; right; right
    have q0 := le k0
    have q1 := lt h1
    rw [mul_k s 5 a] at q0
    rw [mul_k s 6 a] at q1
    rw [e1, e2, e3, Int.mul_sub, m0, mul_k s 5 a]
    exact ⟨q0, q1, z1, rfl, rfl⟩
/-- a grid -/
structure Grid (a b : Nat) (v t : Int) : Prop where
  ha : 1 ≤ a ∧ a ≤ 3
  hb : 1 ≤ b ∧ b ≤ 2
  ht : 1 ≤ t
  hv : v = a * b * t
  hv2 : v ≤ 255
section
variable {a b : Nat} {v t : Int} (g : Grid a b v t)
include g
theorem Grid.ab : 1 ≤ (a : Int) * b := by
  have := g.ha; have := g.hb
  have : (1 : Int) * 1 ≤ (a : Int) * b := Int.mul_le_mul (by (first | lia | omega)) (by (first | lia | omega)) (by (first | lia | omega)) (by (first | lia | omega))
  (first | lia | omega)
theorem Grid.v1 : 1 ≤ v := by
  rw [g.hv]
  have : (1 : Int) * 1 ≤ ((a : Int) * b) * t := Int.mul_le_mul g.ab g.ht (by (first | lia | omega)) (by have := g.ab; (first | lia | omega))
  (first | lia | omega)
theorem Grid.row (l c : Nat) : tabRow a b v l c = [v - t * l * fallAt a c, v - t * l * fallAt a ((c : Int) - 2 * a), v - t * l * fallAt a ((c : Int) - 4 * a)] := by
  have hfd : v.fdiv ((a : Int) * b) = t := by
    have := g.ab
    rw [g.hv, Int.mul_fdiv_cancel_left _ (by (first | lia | omega))]
  unfold tabRow
  rw [hfd]
  simp
theorem Grid.row0 (c : Nat) : tabRow a b v 0 c = [v, v, v] := by rw [g.row]; simp
theorem Grid.sect {l c : Nat} (hl : 1 ≤ l) (hc : c < 6 * a) : Sect v (t * l * a) (t * l * c) (v - t * l * fallAt a c) (v - t * l * fallAt a ((c : Int) - 2 * a)) (v - t * l * fallAt a ((c : Int) - 4 * a)) :=
  sect_row g.ha.2 (Int.natCast_nonneg c) (by exact_mod_cast hc) (Int.mul_pos (Int.lt_of_lt_of_le (by decide) g.ht) (by exact_mod_cast hl))
theorem Grid.rpos {l : Nat} (hl : 1 ≤ l) : 0 < t * l * a := Int.mul_pos (Int.mul_pos (by have := g.ht; (first | lia | omega)) (by (first | lia | omega))) (by have := g.ha; (first | lia | omega))
theorem Grid.row_col {l c : Nat} (hl : l ≤ b) (hc : c < 6 * a) : Col (tabRow a b v l c) := by
  have hv1 := g.v1
  by_cases h0 : l = 0
  · subst h0
    rw [g.row0]
    refine ⟨rfl, fun p hp => ?_⟩
    have : p = v := by simpa using hp
    have := g.hv2
    (first | lia | omega)
  · have s := g.sect (l := l) (c := c) (by (first | lia | omega)) hc
    have hR := g.rpos (l := l) (by (first | lia | omega))
    have hRle : t * l * a ≤ v := by
      rw [g.hv]
      have e1 : t * (l : Int) * a = (a * t) * l := by rw [Int.mul_comm, Int.mul_assoc]
      have e2 : (a : Int) * b * t = (a * t) * b := by rw [Int.mul_assoc, Int.mul_comm (b : Int) t, Int.mul_assoc]
      rw [e1, e2]
      exact Int.mul_le_mul_of_nonneg_left (by (first | lia | omega)) (Int.mul_nonneg (by (first | lia | omega)) (by have := g.ht; (first | lia | omega)))
    rw [g.row]
    have hv2 := g.hv2
    generalize t * (l : Int) * a = R at *
    generalize t * (l : Int) * c = P at *
    generalize v - t * l * fallAt a c = x at *
    generalize v - t * l * fallAt a ((c : Int) - 2 * a) = y at *
    generalize v - t * l * fallAt a ((c : Int) - 4 * a) = z at *
    refine ⟨rfl, fun p hp => ?_⟩
    have hp' : p = x ∨ p = y ∨ p = z := by simpa using hp
    obtain ⟨e1, e2⟩ := sect_mm s hR
    obtain ⟨b1, b2, b3⟩ := mm_bounds x y z
    rw [e1, e2] at b1 b2 b3
    have hge : 0 ≤ v - R := Int.sub_nonneg_of_le hRle
    rcases hp' with rfl | rfl | rfl
    · exact ⟨Int.le_trans hge b1.1, Int.le_trans b1.2 hv2⟩
    · exact ⟨Int.le_trans hge b2.1, Int.le_trans b2.2 hv2⟩
    · exact ⟨Int.le_trans hge b3.1, Int.le_trans b3.2 hv2⟩
theorem Grid.yes {l c : Nat} {x y z : Int} (hl : 1 ≤ l) (hl2 : l ≤ b) (hc : c < 6 * a) (h : tabRow a b v l c = [x, y, z]) : A0 a x y z = B0 x y z * c ∧ A1 b x y z = B1 x y z * l ∧ mx x y z = v := by
  rw [g.row] at h
  simp only [List.cons.injEq, and_true] at h
  obtain ⟨rfl, rfl, rfl⟩ := h
  have s := g.sect hl hc
  have hR := g.rpos hl
  obtain ⟨e1, e2⟩ := sect_mm s hR
  have e3 := sect_hue s hR
  unfold A0 B0 A1 B1
  rw [e1, e2, e3, if_neg (by (first | lia | omega)), if_neg (by (first | lia | omega)), if_neg (by (first | lia | omega)), if_neg (by (first | lia | omega))]
  rw [show v - (v - t * (l : Int) * a) = t * l * a by (first | lia | omega)]
  refine ⟨by ac_rfl, ?_, rfl⟩
  rw [g.hv]; ac_rfl
theorem Grid.yes0 {c : Nat} {x y z : Int} (h : tabRow a b v 0 c = [x, y, z]) : A0 a x y z = B0 x y z * 0 ∧ A1 b x y z = B1 x y z * 0 ∧ mx x y z = v := by
  rw [g.row0] at h
  simp only [List.cons.injEq, and_true] at h
  obtain ⟨rfl, rfl, rfl⟩ := h
  unfold A0 B0 A1 B1 mx mn
  simp
theorem Grid.back {x y z w0 w1 : Int} (h0 : A0 a x y z = B0 x y z * w0) (h1 : A1 b x y z = B1 x y z * w1) (h2 : mx x y z = v) (hx : 0 ≤ mn x y z) : ∃ l c : Nat, l ≤ b ∧ c < 6 * a ∧ tabRow a b v l c = [x, y, z] := by
  have ha := g.ha; have hb := g.hb; have ht := g.ht; have hv1 := g.v1
  by_cases he : mn x y z = mx x y z
  · refine ⟨0, 0, by (first | lia | omega), by (first | lia | omega), ?_⟩
    rw [g.row0]
    obtain ⟨b1, b2, b3⟩ := mm_bounds x y z
    rw [he, h2] at b1 b2 b3
    rw [Int.le_antisymm b1.2 b1.1, Int.le_antisymm b2.2 b2.1, Int.le_antisymm b3.2 b3.1]
  · have hlt : mn x y z < mx x y z := by
      exact Int.lt_iff_le_and_ne.mpr ⟨mm_le x y z, he⟩
    unfold A0 B0 at h0
    unfold A1 B1 at h1
    rw [if_neg he, if_neg he] at h0 h1
    have s := sect_of hlt
    obtain ⟨p0, p1⟩ := hueP_range hlt
    rw [h2] at h0 h1 s p1 hlt
    generalize hP : hueP x y z = P at *
    generalize hm : mn x y z = m at *
    have hRp : 0 < v - m := by (first | lia | omega)
    have hat : 0 < (a : Int) * t := Int.mul_pos (by (first | lia | omega)) (by (first | lia | omega))
    -- b R = v w1 = a b t w1
    have hR : v - m = a * t * w1 := by
      have e : (b : Int) * (v - m) = b * (a * t * w1) := by rw [h1, g.hv]; ac_rfl
      exact Int.eq_of_mul_eq_mul_left (by (first | lia | omega)) e
    have w1pos : 1 ≤ w1 := by
      rcases Int.lt_or_le 0 w1 with h | h
      · (first | lia | omega)
      · have := Int.mul_nonpos_of_nonneg_of_nonpos (Int.le_of_lt hat) h
        (first | lia | omega)
    have w1le : w1 ≤ b := by
      rcases Int.lt_or_le (b : Int) w1 with h | h
      · exfalso
        have h3 : (a : Int) * t * b < a * t * w1 := Int.mul_lt_mul_of_pos_left h hat
        have h4 : (a : Int) * t * b = v := by rw [g.hv]; ac_rfl
        (first | lia | omega)
      · exact h
    have hs : 0 < t * w1 := Int.mul_pos (by (first | lia | omega)) (by (first | lia | omega))
    have hPe : P = t * w1 * w0 := by
      have e : (a : Int) * P = a * (t * w1 * w0) := by rw [h0, hR]; ac_rfl
      exact Int.eq_of_mul_eq_mul_left (by (first | lia | omega)) e
    have hRe : v - m = t * w1 * a := by rw [hR]; ac_rfl
    have w0n : 0 ≤ w0 := by
      rcases Int.lt_or_le w0 0 with h | h
      · exfalso
        have := Int.mul_neg_of_pos_of_neg hs h
        (first | lia | omega)
      · exact h
    have w0l : w0 < 6 * a := by
      rcases Int.lt_or_le w0 (6 * a) with h | h
      · exact h
      · exfalso
        have h3 := Int.mul_le_mul_of_nonneg_left h (Int.le_of_lt hs)
        have h4 : t * w1 * (6 * (a : Int)) = 6 * (t * w1 * a) := by ac_rfl
        (first | lia | omega)
    obtain ⟨l, rfl⟩ : ∃ l : Nat, w1 = l := ⟨w1.toNat, by (first | lia | omega)⟩
    obtain ⟨c, rfl⟩ : ∃ c : Nat, w0 = c := ⟨w0.toNat, by (first | lia | omega)⟩
    refine ⟨l, c, by (first | lia | omega), by (first | lia | omega), ?_⟩
    rw [hRe, hPe] at s
    obtain ⟨e1, e2, e3⟩ := sect_unique s (g.sect (l := l) (c := c) (by (first | lia | omega)) (by (first | lia | omega))) (g.rpos (by (first | lia | omega)))
    rw [g.row, ← e1, ← e2, ← e3]
end
end Mine
end
section
open PySem PySem.W PySem.Calls PyProof.Rows
namespace Mine
theorem range_mul (N : Nat) : ∀ n, List.range (n * N) = (List.range n).flatMap fun l => (List.range N).map fun c => l * N + c
  | 0 => by simp
  | n + 1 => by
    rw [Nat.add_mul, Nat.one_mul, List.range_add, range_mul N n, List.range_succ, List.flatMap_append]
    simp
theorem fm_get {α : Type} (f : Nat → List α) (N : Nat) (h : ∀ l, (f l).length = N) (hN : 0 < N) : ∀ n k, k < n * N → ((List.range n).flatMap f)[k]? = (f (k / N))[k % N]?
  | 0, k, hk => by (first | lia | omega)
  | n + 1, k, hk => by
    have hlen : ∀ n, ((List.range n).flatMap f).length = n * N := fun n => by
      induction n with
      | zero => simp
      | succ n ih => rw [List.range_succ, List.flatMap_append, List.length_append, ih]; simp [h, Nat.add_mul]
    rw [List.range_succ, List.flatMap_append]
    by_cases hlt : k < n * N
    · rw [List.getElem?_append_left (by rw [hlen]; exact hlt), fm_get f N h hN n k hlt]
    · rw [List.getElem?_append_right (by rw [hlen]; (first | lia | omega)), hlen]
      have e1 : k / N = n := by
        rw [Nat.div_eq_iff hN]
        rw [Nat.add_mul] at hk
        constructor <;> (first | lia | omega)
      have e2 : k % N = k - n * N := by
        have := Nat.div_add_mod k N
        rw [e1, Nat.mul_comm] at this
        (first | lia | omega)
      rw [e1, e2]
      simp
theorem tabL_len (a b : Nat) (v : Int) : (tabL a b v).length = (b + 1) * (6 * a) := by
  unfold tabL
  have : ∀ n, ((List.range n).flatMap fun l => tabLine a b v l).length = n * (6 * a) := fun n => by
    induction n with
    | zero => simp
    | succ n ih => rw [List.range_succ, List.flatMap_append, List.length_append, ih]; simp [tabLine, Nat.add_mul]
  exact this _
theorem tabL_get {a b : Nat} {v : Int} (ha : 1 ≤ a) {k : Nat} (hk : k < (b + 1) * (6 * a)) : (tabL a b v)[k]? = some (tabRow a b v (k / (6 * a)) (k % (6 * a))) := by
  unfold tabL
  rw [fm_get _ (6 * a) (fun l => by simp [tabLine]) (by (first | lia | omega)) (b + 1) k hk]
  unfold tabLine
  rw [List.getElem?_map, List.getElem?_range (Nat.mod_lt _ (by (first | lia | omega)))]
  rfl
noncomputable def placesN (a b : Nat) (v : Int) (colour : List Int) : List Nat := (List.range ((b + 1) * (6 * a))).filter fun k => decide (tabRow a b v (k / (6 * a)) (k % (6 * a)) = colour)
noncomputable def placeAt (a : Nat) (k : Nat) : Int × Int := (1 + ((k / (6 * a) : Nat) : Int), 7 * ((k % (6 * a) : Nat) : Int))
noncomputable def placesI (a b : Nat) (v : Int) (colour : List Int) : List (Int × Int) := (placesN a b v colour).map (placeAt a)
theorem split_k {a l c : Nat} (hc : c < 6 * a) : (l * (6 * a) + c) / (6 * a) = l ∧ (l * (6 * a) + c) % (6 * a) = c := by
  constructor
  · rw [Nat.div_eq_iff (by (first | lia | omega))]
    constructor <;> (first | lia | omega)
  · rw [Nat.add_comm, Nat.add_mul_mod_self_right]
    exact Nat.mod_eq_of_lt hc
theorem row_lt {a b k : Nat} (h : k < (b + 1) * (6 * a)) (ha : 1 ≤ a) : k / (6 * a) ≤ b ∧ k % (6 * a) < 6 * a := by
  refine ⟨?_, Nat.mod_lt _ (by (first | lia | omega))⟩
  have := (Nat.div_lt_iff_lt_mul (by (first | lia | omega) : 0 < 6 * a)).mpr h
  (first | lia | omega)
section
variable {a b : Nat} {v t : Int} (g : Grid a b v t)
include g
theorem place_places {x y z : Int} (hx : In8 x) (hy : In8 y) (hz : In8 z) : placeF a b v x y z = (placesI a b v [x, y, z]).take 1 := by
  have ha := g.ha
  unfold placesI
  cases hp : placesN a b v [x, y, z] with
  | nil =>
    rw [place_no g.ha g.hb hx hy hz]
    · simp
    · rintro ⟨w0, w1, h0, h1, h2⟩
      obtain ⟨l, c, hl, hc, hrow⟩ := g.back h0 h1 h2 ((hx.min hy).min hz).1
      obtain ⟨e1, e2⟩ := split_k (l := l) hc
      have hm : l * (6 * a) + c ∈ placesN a b v [x, y, z] := by
        refine List.mem_filter.mpr ⟨List.mem_range.mpr ?_, decide_eq_true (by rw [e1, e2]; exact hrow)⟩
        have : l * (6 * a) ≤ b * (6 * a) := Nat.mul_le_mul_right _ hl
        rw [Nat.add_mul]; (first | lia | omega)
      rw [hp] at hm; cases hm
  | cons k ks =>
    have hm : k ∈ placesN a b v [x, y, z] := by rw [hp]; exact .head _
    obtain ⟨h1, h2⟩ := List.mem_filter.mp hm
    have hk := List.mem_range.mp h1
    have hrow := of_decide_eq_true h2
    obtain ⟨r1, r2⟩ := row_lt hk ha.1
    simp only [List.map_cons, List.take_succ_cons, List.take_zero]
    by_cases h0 : k / (6 * a) = 0
    · have hk0 : k = 0 := by
        have hmono : (placesN a b v [x, y, z]).Pairwise (· < ·) := List.Pairwise.filter _ List.pairwise_lt_range
        have hrow' := hrow
        rw [h0, g.row0] at hrow'
        have m0 : 0 ∈ placesN a b v [x, y, z] := by
          refine List.mem_filter.mpr ⟨List.mem_range.mpr (by (first | lia | omega)), decide_eq_true ?_⟩
          rw [Nat.zero_div, g.row0]; exact hrow'
        rw [hp] at m0 hmono
        rcases List.mem_cons.mp m0 with h | h
        · exact h.symm
        · have := (List.pairwise_cons.mp hmono).1 0 h
          (first | lia | omega)
      subst hk0
      rw [Nat.zero_div] at hrow
      obtain ⟨y0, y1, y2⟩ := g.yes0 hrow
      rw [place_yes g.ha g.hb hx hy hz y0 y1 y2]
      unfold placeAt; simp
    · obtain ⟨y0, y1, y2⟩ := g.yes (Nat.pos_of_ne_zero h0) r1 r2 hrow
      rw [place_yes g.ha g.hb hx hy hz y0 y1 y2]
      rfl
end
/-- the places of one line -/
noncomputable def lineG (a b : Nat) (v : Int) (colour : List Int) (l : Nat) : List (Int × Int) := (colsOf (tabRow a b v l) (6 * a) colour).map fun c => (((l + 1 : Nat) : Int), ((7 * c : Nat) : Int))
theorem places_lines {a b : Nat} {v : Int} (ha : 1 ≤ a) (colour : List Int) : placesI a b v colour = (List.range (b + 1)).flatMap (lineG a b v colour) := by
  unfold placesI placesN
  rw [range_mul, List.filter_flatMap, List.map_flatMap]
  congr 1
  funext l
  rw [List.filter_map, List.map_map]
  unfold lineG colsOf
  have e1 : (List.range (6 * a)).filter ((fun k => decide (tabRow a b v (k / (6 * a)) (k % (6 * a)) = colour)) ∘ fun c => l * (6 * a) + c) = (List.range (6 * a)).filter fun c => decide (tabRow a b v l c = colour) := by
    apply List.filter_congr
    intro c hc
    obtain ⟨e1, e2⟩ := split_k (l := l) (List.mem_range.mp hc)
    simp only [Function.comp, e1, e2]
  rw [e1]
  apply List.map_congr_left
  intro c hc
  obtain ⟨e1, e2⟩ := split_k (l := l) (List.mem_range.mp (List.mem_filter.mp hc).1)
  simp only [Function.comp, placeAt, e1, e2]
  congr 1 <;> (first | lia | omega)
noncomputable def byMark (p q : Int) (pl : Int × Int) : Bool := decide (pl.1 < p ∨ (pl.1 = p ∧ pl.2 + 7 ≤ q))
theorem filter_takeWhile {P : Nat → Bool} (hP : ∀ c d, c < d → P d = true → P c = true) : ∀ l : List Nat, l.Pairwise (· < ·) → l.filter P = l.takeWhile P
  | [], _ => rfl
  | c :: r, h => by
    obtain ⟨h1, h2⟩ := List.pairwise_cons.mp h
    cases hc : P c with
    | true => simp [List.filter_cons, List.takeWhile, hc, filter_takeWhile hP r h2]
    | false =>
      have : r.filter P = [] := by
        rw [List.filter_eq_nil_iff]
        intro d hd hp
        rw [hP c d (h1 d hd) hp] at hc; cases hc
      simp [List.filter_cons, List.takeWhile, hc, this]
theorem last_line (a b : Nat) (v : Int) (colour : List Int) (n : Nat) (q : Int) : ((lineG a b v colour n).filter fun pl => decide (pl.2 + 7 ≤ q)).getLast? = (srT (colsOf (tabRow a b v n) (6 * a) colour) q).map fun i => (((n + 1 : Nat) : Int), i) := by
  unfold lineG srT
  rw [List.filter_map, List.getLast?_map, Option.map_map]
  rw [← filter_takeWhile (fun c d hcd hd => ?_) _ (cols_mono _ _ _)]
  · rfl
  · have := of_decide_eq_true hd
    exact decide_eq_true (by (first | lia | omega))
noncomputable def dueL (a b : Nat) (v : Int) (colour : List Int) (p q : Int) : List (Int × Int) := (((placesI a b v colour).filter (byMark p q)).getLast?).toList
theorem found_lines (a b : Nat) (v : Int) (colour : List Int) : ∀ (n : Nat) (q : Int), ((((List.range n).flatMap (lineG a b v colour)) ++ (lineG a b v colour n).filter fun pl => decide (pl.2 + 7 ≤ q)).getLast?).toList = foundL (fun l col => srT (colsOf (tabRow a b v l) (6 * a) colour) col) (7 * ((6 * a : Nat) : Int)) (n + 1) q
  | n, q => by
    rw [List.getLast?_append, last_line]
    unfold foundL
    cases hs : srT (colsOf (tabRow a b v n) (6 * a) colour) q with
    | some i => simp
    | none =>
      simp only [Option.map_none, Option.none_or]
      cases n with
      | zero => simp [foundL]
      | succ n =>
        have e : (lineG a b v colour n).filter (fun pl => decide (pl.2 + 7 ≤ 7 * ((6 * a : Nat) : Int))) = lineG a b v colour n := by
          rw [List.filter_eq_self]
          intro pl hpl
          obtain ⟨c, hc, rfl⟩ := List.mem_map.mp hpl
          have := List.mem_range.mp (List.mem_filter.mp hc).1
          exact decide_eq_true (by simp only; (first | lia | omega))
        have := found_lines a b v colour n (7 * ((6 * a : Nat) : Int))
        rw [e] at this
        rw [List.range_succ, List.flatMap_append, ← this]
        simp
theorem due_found {a b : Nat} {v : Int} (ha : 1 ≤ a) (colour : List Int) (n : Nat) (hn : n ≤ b) (q : Int) : dueL a b v colour ((n + 1 : Nat) : Int) q = foundL (fun l col => srT (colsOf (tabRow a b v l) (6 * a) colour) col) (7 * ((6 * a : Nat) : Int)) (n + 1) q := by
  rw [← found_lines]
  unfold dueL
  congr 2
  rw [places_lines ha, List.filter_flatMap]
  have hr : List.range (b + 1) = List.range n ++ n :: (List.range (b - n)).map fun i => n + 1 + i := by
    rw [show b + 1 = n + (1 + (b - n)) by (first | lia | omega), List.range_add, List.range_add]
    simp
    intro i hi; (first | lia | omega)
  rw [hr, List.flatMap_append, List.flatMap_cons]
  have e1 : (List.range n).flatMap (fun l => (lineG a b v colour l).filter (byMark ((n + 1 : Nat) : Int) q)) = (List.range n).flatMap (lineG a b v colour) := by
    rw [List.flatMap_def, List.flatMap_def]
    congr 1
    apply List.map_congr_left
    intro l hl
    rw [List.filter_eq_self]
    intro pl hpl
    obtain ⟨c, hc, rfl⟩ := List.mem_map.mp hpl
    have := List.mem_range.mp hl
    exact decide_eq_true (.inl (by simp only; (first | lia | omega)))
  have e2 : (lineG a b v colour n).filter (byMark ((n + 1 : Nat) : Int) q) = (lineG a b v colour n).filter fun pl => decide (pl.2 + 7 ≤ q) := by
    apply List.filter_congr
    intro pl hpl
    obtain ⟨c, hc, rfl⟩ := List.mem_map.mp hpl
    unfold byMark
    apply decide_eq_decide.mpr
    simp
  have e3 : ((List.range (b - n)).map fun i => n + 1 + i).flatMap (fun l => (lineG a b v colour l).filter (byMark ((n + 1 : Nat) : Int) q)) = [] := by
    rw [List.flatMap_eq_nil_iff]
    intro l hl
    obtain ⟨i, _, rfl⟩ := List.mem_map.mp hl
    rw [List.filter_eq_nil_iff]
    intro pl hpl
    obtain ⟨c, hc, rfl⟩ := List.mem_map.mp hpl
    unfold byMark
    simp only [decide_eq_true_eq]
    (first | lia | omega)
  rw [e1, e2, e3, List.append_nil]
end Mine
end
section
open PySem PySem.W PySem.Calls PyProof.Rows
namespace Mine
theorem pick_range {α : Type} (l : List α) (s n : Nat) (h : s + n ≤ l.length) : ((List.range n).map fun (k : Nat) => ((s : Int) + 1 * (k : Int)).toNat).filterMap (l[·]?) = (l.drop s).take n := by
  induction n with
  | zero => simp
  | succ n ih =>
    rw [List.range_succ, List.map_append, List.filterMap_append, ih (by (first | lia | omega)), List.take_succ]
    congr 1
    have e : ((s : Int) + 1 * (n : Int)).toNat = s + n := by (first | lia | omega)
    simp only [List.map_cons, List.map_nil, e, List.getElem?_drop]
    rw [List.filterMap_cons]
    cases l[s + n]? <;> simp
theorem slice_step1 {α : Type} (l : List α) (s e : Nat) (h : s ≤ e) (he : e ≤ l.length) : (sliceRange (s : Int) (e : Int) 1).filterMap (l[·]?) = (l.drop s).take (e - s) := by
  unfold sliceRange
  simp only [show (1 : Int) > 0 by decide, if_true]
  have hc : (if (s : Int) < e then ((e : Int) - s + 1 - 1) / 1 else 0).toNat = e - s := by
    split <;> (first | lia | omega)
  rw [hc]
  exact pick_range l s (e - s) (by (first | lia | omega))
theorem pick_take1 (l : List D) : pickD l none (some 1) none = l.take 1 := by
  unfold pickD
  have e : sliceBounds none (some 1) none l.length = (((0 : Nat) : Int), ((min 1 l.length : Nat) : Int), 1) := by
    simp only [sliceBounds, Option.getD_none, show (1 : Int) > 0 by decide, if_true]
    refine Prod.ext rfl (Prod.ext ?_ rfl)
    show max 0 (min (if (1 : Int) < 0 then 1 + (l.length : Int) else 1) l.length) = ((min 1 l.length : Nat) : Int)
    rw [if_neg (by decide)]; (first | lia | omega)
  rw [e, slice_step1 l 0 _ (Nat.zero_le _) (Nat.min_le_right _ _)]
  simp
theorem pick_drop1 (l : List D) : pickD l (some 1) none none = l.drop 1 := by
  unfold pickD
  have e : sliceBounds (some 1) none none l.length = (((min 1 l.length : Nat) : Int), ((l.length : Nat) : Int), 1) := by
    simp only [sliceBounds, Option.getD_none, show (1 : Int) > 0 by decide, if_true]
    refine Prod.ext ?_ (Prod.ext rfl rfl)
    show max 0 (min (if (1 : Int) < 0 then 1 + (l.length : Int) else 1) l.length) = ((min 1 l.length : Nat) : Int)
    rw [if_neg (by decide)]; (first | lia | omega)
  rw [e, slice_step1 l _ _ (Nat.min_le_right _ _) (Nat.le_refl _)]
  cases l with
  | nil => rfl
  | cons a r => simp
theorem pick_last (l : List D) : pickD l (some (-1)) none none = l.getLast?.toList := by
  unfold pickD
  have e : sliceBounds (some (-1)) none none l.length = (((l.length - 1 : Nat) : Int), ((l.length : Nat) : Int), 1) := by
    simp only [sliceBounds, Option.getD_none, show (1 : Int) > 0 by decide, if_true]
    refine Prod.ext ?_ (Prod.ext rfl rfl)
    show max 0 (min (if (-1 : Int) < 0 then -1 + (l.length : Int) else -1) l.length) = ((l.length - 1 : Nat) : Int)
    rw [if_pos (by decide)]; (first | lia | omega)
  rw [e, slice_step1 l _ _ (by (first | lia | omega)) (Nat.le_refl _)]
  cases h : l.getLast? with
  | none => rw [List.getLast?_eq_none_iff] at h; subst h; rfl
  | some d =>
    have hne : l ≠ [] := fun e => by rw [e] at h; cases h
    have hl : 0 < l.length := List.length_pos_iff.mpr hne
    rw [List.getLast?_eq_getElem?] at h
    rw [List.drop_eq_getElem_cons (by (first | lia | omega))]
    rw [show l.length - (l.length - 1) = 0 + 1 by (first | lia | omega), List.take_succ_cons]
    obtain ⟨h1, h2⟩ := List.getElem?_eq_some_iff.mp h
    rw [h2]; simp
theorem pick_ints (ns : List Int) (lo hi st : Option Int) : ∃ ms : List Int, pickD (ns.map D.int) lo hi st = ms.map D.int := by
  unfold pickD
  generalize sliceRange _ _ _ = idx
  induction idx with
  | nil => exact ⟨[], rfl⟩
  | cons i r ih =>
    obtain ⟨ms, e⟩ := ih
    rw [List.filterMap_cons, List.getElem?_map]
    cases ns[i]? with
    | none => exact ⟨ms, by simpa using e⟩
    | some n => exact ⟨n :: ms, by simpa using e⟩
noncomputable def onP (g : Int × Int → D) : D → D
  | .tup [.int a, .int b] => g (a, b)
  | _ => .none
noncomputable def onPB (p : Int × Int → Bool) : D → Bool
  | .tup [.int a, .int b] => p (a, b)
  | _ => false
theorem filter_onPB (p : Int × Int → Bool) : ∀ xs : List (Int × Int), (xs.map pr).filter (onPB p) = (xs.filter p).map pr
  | [] => rfl
  | x :: xs => by
    simp only [List.map_cons, List.filter_cons, onPB]
    by_cases h : p x = true
    · have : p (x.1, x.2) = true := h
      simp [this, h, filter_onPB p xs]
    · have : ¬ p (x.1, x.2) = true := h
      simp [this, h, filter_onPB p xs]
section
variable {X : Fix} (O : X.Ok) {k : Nat} {sc : Scope} {m : Str → Option D} {ow : Ow}
include O
theorem ev_neg {e : Expr} {pos : Pos} {n : Int} (h1 : Ev X k sc m e (.int n)) : Ev X k sc m (.UnaryOp .USub e pos) (.int (-n)) := fun env A V s Q E hs hA S lo h =>
  wpAny_UnaryOp (h1 env A V s _ E hs hA S lo fun v s1 V1 g1 r1 => by
    cases r1
    exact PyProof.Rows.neg_int (h _ _ V1 (g1.tok _) (.int _ _)))
theorem ev_comp_p {elt iter : Expr} {x : Str} {px : Pos} {ifs : List Expr} {scope : Scope} {pos : Pos} {di : D} (xs : List (Int × Int)) (p : Int × Int → Bool)
    (h1 : Ev X k sc m iter di) (hi : itemsOf di = some (xs.map pr)) (hlen : xs.length ≤ 100000)
    (hfr : ∀ y ∈ scope.names, y.2 = .free → sc.names.lookup y.1 = some .cell) (hcell : ∀ y ∈ scope.names, y.2 ≠ .cell) (hkind : scope.kind = .function) (hx : scope.names.lookup x = some .local)
    (hnames : ∀ y ∈ scope.names, y.2 = .local → scope.names.lookup y.1 = some .local)
    (ht : ∀ n ∈ xs, TsL X k (relab scope sc) (inM (relab scope sc) x (pr n) m) ifs (p n)) (he : ∀ n ∈ xs, p n = true → Ev X k (relab scope sc) (inM (relab scope sc) x (pr n) m) elt (pr n))
    (hs' : ∀ env v, foldedSetIterable iter env v = pure v := by intro _ _; rfl) :
    Ev X k sc m (.ListComp elt [⟨.Name x px, iter, ifs, 0⟩] scope pos) (.lst ((xs.filter p).map pr)) := by
  have := ev_comp (xs := xs.map pr) O (onPB p) (onP pr) h1 hi (by simpa using hlen) hfr hcell hkind hx hnames (ifs := ifs) (elt := elt) (px := px) (pos := pos) (fun d hd => ?_) (fun d hd hp => ?_) hs'
  · rw [filter_onPB, List.map_map] at this
    exact this
  · obtain ⟨n, hn, rfl⟩ := List.mem_map.mp hd
    exact ht n hn
  · obtain ⟨n, hn, rfl⟩ := List.mem_map.mp hd
    exact he n hn hp
/-- y = [elt for x in range(N) if ..] -/
theorem ex_comp_r {elt iter : Expr} {x y : Str} {px py : Pos} {ifs : List Expr} {scope : Scope} {pos spos : Pos} (N : Nat) (hN : N ≤ 100000) (p : Nat → Bool) (g : Nat → D)
    (h1 : Ev X k sc m iter (.rng (N : Int))) (hy : sc.names.lookup y = some .local) (hw : ∀ z l, ow = some (z, l) → y ≠ z)
    (hfr : ∀ y ∈ scope.names, y.2 = .free → sc.names.lookup y.1 = some .cell) (hcell : ∀ y ∈ scope.names, y.2 ≠ .cell) (hkind : scope.kind = .function) (hx : scope.names.lookup x = some .local)
    (hnames : ∀ y ∈ scope.names, y.2 = .local → scope.names.lookup y.1 = some .local)
    (ht : ∀ n < N, TsL X k (relab scope sc) (inM (relab scope sc) x (.int (n : Int)) m) ifs (p n)) (he : ∀ n < N, p n = true → Ev X k (relab scope sc) (inM (relab scope sc) x (.int (n : Int)) m) elt (g n))
    (hsw : ∀ env : Env, env.scope = sc → swapsWith (.ListComp elt [⟨.Name x px, iter, ifs, 0⟩] scope pos) (some (.Name y py)) spos.line env = pure true)
    (hs' : ∀ env v, foldedSetIterable iter env v = pure v := by intro _ _; rfl) :
    Ex X k sc m ow (exec (.Assign [.Name y py] (.ListComp elt [⟨.Name x px, iter, ifs, 0⟩] scope pos) spos)) .next (up m y (.lst (((List.range N).filter p).map g))) ow := by
  have := ex_assign_comp (ow := ow) O (onB fun n => p n.toNat) (onI fun n => g n.toNat) h1 (items_rng N hN) (by simpa using hN) hy hw hfr hcell hkind hx hnames (ifs := ifs) (elt := elt) (px := px) (py := py) (pos := pos) (spos := spos) (fun d hd => ?_) (fun d hd hp => ?_) hsw hs'
  · rw [filter_onB, List.map_map, List.filter_map, List.map_map] at this
    have e1 : (List.range N).filter ((fun n : Int => p n.toNat) ∘ fun (i : Nat) => (i : Int)) = (List.range N).filter p := by
      apply List.filter_congr; intro a _; simp
    rw [e1] at this
    have e2 : ((List.range N).filter p).map (((onI fun n => g n.toNat) ∘ D.int) ∘ fun (i : Nat) => (i : Int)) = ((List.range N).filter p).map g := by
      apply List.map_congr_left; intro a _; simp [onI]
    rw [e2] at this
    exact this
  · obtain ⟨z, hz, rfl⟩ := List.mem_map.mp hd
    obtain ⟨i, hi, rfl⟩ := List.mem_map.mp hz
    have := ht i (List.mem_range.mp hi)
    simpa [onB] using this
  · obtain ⟨z, hz, rfl⟩ := List.mem_map.mp hd
    obtain ⟨i, hi, rfl⟩ := List.mem_map.mp hz
    have := he i (List.mem_range.mp hi) (by simpa [onB] using hp)
    simpa [onI] using this
end
end Mine
end
section
open PySem PySem.W PySem.Calls PyProof.Rows
namespace Mine
noncomputable def loopB : List Stmt := match ((fbody 16)[7]? : Option Stmt) with
  | some (.For _ _ body _ _) => body
  | _ => []
noncomputable def markB : List Stmt := match (loopB[8]? : Option Stmt) with
  | some (.For _ _ body _ _) => body
  | _ => []
theorem lineS_len (a b : Nat) (v : Int) (l : Nat) : (lineS a b v l).length = 7 * (6 * a) := by
  unfold lineS
  rw [cat_len, List.map_map]
  have e : ((List.range (6 * a)).map ((fun x : Str => x.length) ∘ fun c => wordS (tabRow a b v l c))) = (List.range (6 * a)).map fun _ => 7 := by
    apply List.map_congr_left; intro c _; simp only [Function.comp]; rw [wordS_len _ (tabRow_len a b v l c)]
  rw [e, sum7]
section
variable {X : Fix} (O : X.Ok) (O3 : Ok3 X) (G : Env4 X) (F15 : Fn15 X) {k : Nat} {m : Str → Option D} {a b : Nat} {v t : Int} (g : Grid a b v t)
include O O3 G F15 g
theorem mark_found (n : Int) (colour : List Int) (hc : Col colour) (p q : Nat) (hp : 1 ≤ p ∧ p ≤ b + 1) (hq : q < 150) : Con X (k + 4) 15 [.str (wordS colour), .lst (((List.range (b + 1)).map (lineS a b v)).map D.str), .str (indexS n p q)] (.lst ((dueL a b v colour p q).map pr)) := by
  obtain ⟨p', rfl⟩ : ∃ p', p = p' + 1 := ⟨p - 1, by (first | lia | omega)⟩
  have ha := g.ha
  have hb := g.hb
  rw [due_found ha.1 colour p' (by (first | lia | omega)) q]
  refine con_found O O3 G F15 (wordS colour) ((List.range (b + 1)).map (lineS a b v)) (indexS n (p' + 1) q) (p' + 1) q _ _ (by simp; (first | lia | omega)) (by simp; (first | lia | omega)) (con_linecol O G n (p' + 1) q (by (first | lia | omega)) hq) (fun l hl col x _ hx => ?_) (fun x hx => ?_)
  · have hlt : l < b + 1 := by (first | lia | omega)
    rw [List.getElem?_map, List.getElem?_range hlt] at hx
    simp only [Option.map_some, Option.some.injEq] at hx
    subst hx
    exact con_sr (k := k + 1) O O3 G (rows := tabRow a b v l) (n := 6 * a) (fun c h => g.row_col (by (first | lia | omega)) h) hc col
  · rw [List.getElem?_map, List.getElem?_range (by (first | lia | omega))] at hx
    simp only [Option.map_some, Option.some.injEq] at hx
    subst hx
    rw [lineS_len]
    exact ⟨by (first | lia | omega), by (first | lia | omega)⟩
theorem mark_turn (n : Int) (colour : List Int) (hc : Col colour) (p q : Nat) (hp : 1 ≤ p ∧ p ≤ b + 1) (hq : q < 150) (h1 : m "places" = some (.lst ((placesI a b v colour).map pr))) (h2 : m "mark" = some (pr (p, q))) (h3 : m "colour" = some (.lst (colour.map D.int)))
    (h4 : m "lines" = some (.lst (((List.range (b + 1)).map (lineS a b v)).map D.str))) (h5 : m "number" = some (.int n)) (hl : (placesI a b v colour).length ≤ 100000) :
    Ex X (k + 4) (fscope 16) m none (execs markB) .next (up m "due" (.lst ((dueL a b v colour p q).map pr))) none := by
  have hdue : (dueL a b v colour p q).map pr = pickD (((placesI a b v colour).filter (byMark p q)).map pr) (some (-1)) none none := by
    rw [pick_last, List.getLast?_map]
    unfold dueL
    cases ((placesI a b v colour).filter (byMark p q)).getLast? <;> rfl
  refine ex_cons (ex_assign O (d := .lst ((dueL a b v colour p q).map pr)) ?_ (.inl rfl) (fun _ _ e => by cases e) (fun _ _ => rfl)) ?_
  · rw [hdue]
    refine ev_slice O (ev_comp_p O (placesI a b v colour) (byMark p q) (ev_name h1 rfl) rfl hl (by decide) (by decide) rfl rfl (by decide) (fun pl hpl => tsl_one (ts_cmp O (ev_tuple O (evl_cons O (ev_item_tup (j := 0) O (ev_name rfl rfl) ev_int rfl rfl (by decide)) (evl_cons O (ev_bin O (ev_item_tup (j := 1) O (ev_name rfl rfl) ev_int rfl rfl (by decide)) ev_int (op_add_ii _ _)) (evl_nil O) (fun _ => rfl)) (fun _ => rfl)) (by simp)) (ev_name h2 rfl) (cmp_le_t2 O _ _ _ _) rfl)) (fun pl hpl _ => ev_name rfl rfl)) (ev_neg O ev_int) True.intro True.intro (by simp) ?_
    rw [List.length_map]
    exact Nat.le_trans (List.length_filter_le _ _) hl
  · refine ex_cons (ex_if O (c := false) ?_ (fun e => by cases e) (fun _ => ex_nil)) ex_nil
    have := cmp_ne_pairs (X := X) (k := k + 4) O (dueL a b v colour p q) (dueL a b v colour p q)
    rw [decide_eq_true rfl] at this
    obtain ⟨x, y, z, rfl, hx, hy, hz⟩ := hc.three
    exact ts_cmp O (ev_con O (mark_found O O3 G F15 g n _ hc p q hp hq) (evl_cons O (ev_con O (con_word (k := k + 3) O G _ rfl hc.2) (evl_cons O (ev_name h3 rfl) (evl_nil O) (fun _ => rfl)) rfl rfl rfl) (evl_cons O (ev_name h4 rfl) (evl_cons O (ev_con O (con_index (k := k + 2) O G n p q (by have := g.hb; (first | lia | omega)) hq) (evl_cons O (ev_name h2 rfl) (evl_cons O (ev_name h5 rfl) (evl_nil O) (fun _ => rfl)) (fun _ => rfl)) rfl rfl rfl) (evl_nil O) (fun _ => rfl)) (fun _ => rfl)) (fun _ => rfl)) rfl rfl rfl) (ev_name rfl rfl) this rfl
end
end Mine
end
section
open PySem PySem.W PySem.Calls PyProof.Rows
namespace Mine
theorem fmod_nat (z : Int) (N : Nat) (hN : 0 < N) : ∃ r : Nat, z.fmod (N : Int) = r ∧ r < N := by
  have h1 := Int.fmod_nonneg_of_pos z (b := (N : Int)) (by (first | lia | omega))
  have h2 := Int.fmod_lt_of_pos z (b := (N : Int)) (by (first | lia | omega))
  exact ⟨(z.fmod N).toNat, by (first | lia | omega), by (first | lia | omega)⟩
theorem chg_col (n : Int) {c : List Int} (hc : Col c) : Col (chg n c) := by
  obtain ⟨x, y, z, rfl, hx, hy, hz⟩ := hc.three
  have h1 := Int.fmod_nonneg_of_pos (figs n 4 3) (b := 256) (by decide)
  have h2 := Int.fmod_lt_of_pos (figs n 4 3) (b := 256) (by decide)
  refine ⟨by simp [chg], fun p hp => ?_⟩
  unfold chg at hp
  obtain ⟨k, hk, rfl⟩ := List.mem_map.mp hp
  have hk' := List.mem_range.mp hk
  split
  · unfold cFresh; (first | lia | omega)
  · have : k = 0 ∨ k = 1 ∨ k = 2 := by (first | lia | omega)
    rcases this with rfl | rfl | rfl <;> simp <;> (first | lia | omega)
theorem places_len {a b : Nat} {v : Int} (ha : a ≤ 3) (hb : b ≤ 2) (colour : List Int) : (placesI a b v colour).length ≤ 1000 := by
  unfold placesI placesN
  rw [List.length_map]
  refine Nat.le_trans (List.length_filter_le _ _) ?_
  rw [List.length_range]
  have : (b + 1) * (6 * a) ≤ 3 * 18 := Nat.mul_le_mul (by (first | lia | omega)) (by (first | lia | omega))
  (first | lia | omega)
theorem fdiv_nat (k N : Nat) : ((k : Int)).fdiv (N : Int) = ((k / N : Nat) : Int) := by rw [Int.fdiv_eq_ediv_of_nonneg _ (by (first | lia | omega))]; rfl
theorem fmod_nat2 (k N : Nat) : ((k : Int)).fmod (N : Int) = ((k % N : Nat) : Int) := by rw [Int.fmod_eq_emod_of_nonneg _ (by (first | lia | omega))]; rfl
/-- a run of statements that changes the names of S alone -/
noncomputable def Nx (X : Fix) (k : Nat) (sc : Scope) (S : List Str) (m : Str → Option D) (ow : Ow) (body : List Stmt) : Prop := ∃ m', Ex X k sc m ow (execs body) .next m' none ∧ ∀ y, y ∉ S → m' y = m y
section
variable {X : Fix} {k : Nat} {sc : Scope} {S : List Str} {m m1 : Str → Option D} {ow ow1 : Ow}
theorem nx_nil : Nx X k sc S m none [] := ⟨m, ex_nil, fun _ _ => rfl⟩
theorem nx_cons {st : Stmt} {rest : List Stmt} (h1 : Ex X k sc m ow (exec st) .next m1 ow1) (h2 : ∀ y, y ∉ S → m1 y = m y) (h3 : Nx X k sc S m1 ow1 rest) : Nx X k sc S m ow (st :: rest) :=
  let ⟨m', e, w⟩ := h3; ⟨m', ex_cons h1 e, fun y hy => (w y hy).trans (h2 y hy)⟩
theorem nx_freeze (O : X.Ok) {x : Str} {l : List D} {rest : List Stmt} (h : Nx X k sc S (up m x (.lst l)) none rest) (hx : x ∈ S) : Nx X k sc S m (some (x, l)) rest :=
  let ⟨m', e, w⟩ := h; ⟨m', ex_freeze O e, fun y hy => (w y hy).trans (by unfold up; rw [if_neg (fun e : y = x => hy (by rw [e]; exact hx))])⟩
theorem up_keep {x : Str} {d : D} (hx : x ∈ S) : ∀ y, y ∉ S → up m x d y = m y := fun y hy => by unfold up; rw [if_neg (fun e : y = x => hy (by rw [e]; exact hx))]
theorem dn_keep {x : Str} (hx : x ∈ S) : ∀ y, y ∉ S → dn m x y = m y := fun y hy => by unfold dn; rw [if_neg (fun e : y = x => hy (by rw [e]; exact hx))]
end
noncomputable def chS : List Str := ["line", "column", "colour", "places", "low", "marks", "mark", "due"]
section
variable {X : Fix} (O : X.Ok) (O3 : Ok3 X) (G : Env4 X) (F15 : Fn15 X) {k : Nat} {m : Str → Option D} {a b : Nat} {v t : Int} (g : Grid a b v t)
include O O3 G F15 g
/-- one number's turn -/
theorem num_turn (n : Int) (h0 : m "number" = some (.int n)) (h1 : m "grid" = some (.tup [.int a, .int b, .int v])) (h2 : m "wide" = some (.int ((6 * a : Nat) : Int))) (h3 : m "table" = some (.lst ((tabL a b v).map rowD)))
    (h4 : m "lines" = some (.lst (((List.range (b + 1)).map (lineS a b v)).map D.str))) (z1 : m "mark" = none) (z2 : m "due" = none) :
    Nx X (k + 4) (fscope 16) chS m none loopB := by
  have ha := g.ha
  have hb := g.hb
  have figE : ∀ {m : Str → Option D} {p1 p2 p3 p4 pos : Pos} {n1 n2 : Nat} {a b : Nat} {x : Str}, m "number" = some (.int n) → x = fname 7 → a ≤ 20 → b ≤ 20 → Ev X (k + 4) (fscope 16) m (.Call (.Name x p1) [.Name "number" p2, .Constant (.int a) n1 p3, .Constant (.int b) n2 p4] [] pos) (.int (figs n a b)) := fun hm hx ha hb =>
    ev_con O (con_figures O G n _ _ ha hb) (evl_cons O (ev_name hm rfl) (evl_cons O ev_int (evl_cons O ev_int (evl_nil O) (fun _ => rfl)) (fun _ => rfl)) (fun _ => rfl)) hx (by rw [hx]; rfl) (by rw [hx]; rfl)
  obtain ⟨ln, e1, l1⟩ := fmod_nat (figs n 0 1) (b + 1) (by (first | lia | omega))
  obtain ⟨cn, e2, l2⟩ := fmod_nat (figs n 1 2) (6 * a) (by (first | lia | omega))
  obtain ⟨lw, e3, l3⟩ := fmod_nat (figs n 7 1) (b + 1) (by (first | lia | omega))
  obtain ⟨hf, e4, l4⟩ := fmod_nat (figs n 13 1) 2 (by (first | lia | omega))
  obtain ⟨q2, e5, l5⟩ := fmod_nat (figs n 8 3) (7 * (6 * a) + 1) (by (first | lia | omega))
  have hrow := g.row_col (l := ln) (c := cn) (by (first | lia | omega)) l2
  have hcol := chg_col n hrow
  obtain ⟨sk1, sk2⟩ := split_k (l := ln) l2
  have hk : ln * (6 * a) + cn < (b + 1) * (6 * a) := by
    have : ln * (6 * a) ≤ b * (6 * a) := Nat.mul_le_mul_right _ (by (first | lia | omega))
    rw [Nat.add_mul]; (first | lia | omega)
  have hN : (b + 1) * (6 * a) ≤ 100 := by
    have : (b + 1) * (6 * a) ≤ 3 * 18 := Nat.mul_le_mul (by (first | lia | omega)) (by (first | lia | omega))
    (first | lia | omega)
  have tlen : ((tabL a b v).map rowD).length = (b + 1) * (6 * a) := by rw [List.length_map, tabL_len]
  have tget : ∀ j, j < (b + 1) * (6 * a) → seqIndex? (j : Int) ((tabL a b v).map rowD).length = some j ∧ ((tabL a b v).map rowD)[j]? = some (rowD (tabRow a b v (j / (6 * a)) (j % (6 * a)))) := fun j hj => by
    refine ⟨seqIdx j _ (by rw [tlen]; exact hj), ?_⟩
    rw [List.getElem?_map, tabL_get ha.1 hj]; rfl
  have lenE : ∀ {m : Str → Option D} {p1 p2 p3 : Pos}, m "lines" = some (.lst (((List.range (b + 1)).map (lineS a b v)).map D.str)) → Ev X (k + 4) (fscope 16) m (.Call (.Name "len" p1) [.Name "lines" p2] [] p3) (.int ((b + 1 : Nat) : Int)) := fun {m p1 p2 p3} hm => by
    have := bi_len_lst (X := X) (k := k + 4) O (((List.range (b + 1)).map (lineS a b v)).map D.str) (by simp; (first | lia | omega))
    rw [List.length_map, List.length_map, List.length_range] at this
    exact ev_call O (glo_len O G) rfl rfl (evl_cons O (ev_name hm rfl) (evl_nil O) (fun _ => rfl)) this
  have pl := places_len (v := v) ha.2 hb.2 (chg n (tabRow a b v ln cn))
  refine nx_cons (ex_assign O (d := .int ln) ?_ (.inl rfl) (fun _ _ e => by cases e) (fun _ _ => rfl)) (up_keep (by decide)) ?_
  · rw [← e1]; exact ev_bin O (figE h0 rfl (by decide) (by decide)) (lenE h4) (op_fmod_ii _ _ (by (first | lia | omega)))
  refine nx_cons (ex_assign O (d := .int cn) ?_ (.inl rfl) (fun _ _ e => by cases e) (fun _ _ => rfl)) (up_keep (by decide)) ?_
  · rw [← e2]; exact ev_bin O (figE h0 rfl (by decide) (by decide)) (ev_name h2 rfl) (op_fmod_ii _ _ (by (first | lia | omega)))
  refine nx_cons (ex_assign O (d := .lst ((chg n (tabRow a b v ln cn)).map D.int)) ?_ (.inr rfl) (fun _ _ e => by cases e) (fun _ _ => rfl)) (up_keep (by decide)) ?_
  · obtain ⟨g1, g2⟩ := tget _ hk
    rw [sk1, sk2] at g2
    have ei : ((6 * a : Nat) : Int) * (ln : Int) + (cn : Int) = ((ln * (6 * a) + cn : Nat) : Int) := by
      rw [Int.natCast_add, Int.natCast_mul ln, Int.mul_comm]
    refine ev_con O (con_changed (k := k + 2) O G n (tabRow a b v ln cn) rfl) (evl_cons O (ev_item_lst (j := ln * (6 * a) + cn) O (ev_name h3 rfl) (ev_bin O (ev_bin O (ev_name h2 rfl) (ev_name rfl rfl) (op_mul_ii _ _ (mul_l _ _ (by (first | lia | omega))))) (ev_name rfl rfl) (op_add_ii _ _)) ?_ g2 ?_) (evl_cons O (ev_name h0 rfl) (evl_nil O) (fun _ => rfl)) (fun _ => rfl)) rfl rfl rfl
    · rw [ei]; exact g1
    · rw [ei]; (first | lia | omega)
  generalize hco : chg n (tabRow a b v ln cn) = colour at *
  refine nx_cons (m1 := up _ "places" (.lst ((placesI a b v colour).map pr))) (ow1 := none) ?_ (up_keep (by decide)) ?_
  · have hpl : (placesI a b v colour).map pr = ((List.range ((b + 1) * (6 * a))).filter fun k => decide (tabRow a b v (k / (6 * a)) (k % (6 * a)) = colour)).map fun k => pr (placeAt a k) := by unfold placesI placesN; rw [List.map_map]; rfl
    rw [hpl]
    refine ex_comp_r O ((b + 1) * (6 * a)) (by (first | lia | omega)) _ _ ?_ rfl (fun _ _ e => by cases e) (by decide) (by decide) rfl rfl (by decide) (fun j hj => tsl_one ?_) (fun j hj _ => ?_) (fun env hs => by cases env; cases hs; rfl)
    · have := bi_len_lst (X := X) (k := k + 4) O ((tabL a b v).map rowD) (by rw [tlen]; (first | lia | omega))
      rw [tlen] at this
      exact ev_call O (glo_range O G) rfl rfl (evl_cons O (ev_call O (glo_len O G) rfl rfl (evl_cons O (ev_name h3 rfl) (evl_nil O) (fun _ => rfl)) this) (evl_nil O) (fun _ => rfl)) (bi_range O _)
    · obtain ⟨g1, g2⟩ := tget j hj
      exact ts_cmp O (ev_item_lst (j := j) O (ev_name h3 rfl) (ev_name rfl rfl) g1 g2 (by (first | lia | omega))) (ev_name rfl rfl) (cmp_eq_ints O _ _) rfl
    · have e6 : (1 : Int) + (j : Int).fdiv ((6 * a : Nat) : Int) = (placeAt a j).1 := by rw [fdiv_nat]; rfl
      have e7 : (7 : Int) * (j : Int).fmod ((6 * a : Nat) : Int) = (placeAt a j).2 := by rw [fmod_nat2]; rfl
      show Ev X (k + 4) _ _ _ (.tup [.int (placeAt a j).1, .int (placeAt a j).2])
      rw [← e6, ← e7]
      exact ev_tuple O (evl_cons O (ev_bin O ev_int (ev_bin O (ev_name rfl rfl) (ev_name h2 rfl) (op_fdiv_ii _ _ (by (first | lia | omega)) (by (first | lia | omega)))) (op_add_ii _ _)) (evl_cons O (ev_bin O ev_int (ev_bin O (ev_name rfl rfl) (ev_name h2 rfl) (op_fmod_ii _ _ (by (first | lia | omega)))) (op_mul_ii _ _ (mul_l _ _ (by decide)))) (evl_nil O) (fun _ => rfl)) (fun _ => rfl)) (by simp)
  obtain ⟨x, y, z, hxyz, hx, hy, hz⟩ := hcol.three
  refine nx_cons (m1 := up (up (up (up m "line" (.int ln)) "column" (.int cn)) "colour" (.lst (colour.map D.int))) "places" (.lst ((placesI a b v colour).map pr))) (ow1 := none) (ex_if O (c := false) ?_ (fun e => by cases e) (fun _ => ex_nil)) (fun _ _ => rfl) ?_
  · have hpl := place_places g (x := x) (y := y) (z := z) hx hy hz
    rw [← hxyz] at hpl
    have ne := cmp_ne_pairs (X := X) (k := k + 4) O (placeF a b v x y z) ((placesI a b v colour).take 1)
    rw [decide_eq_true hpl] at ne
    have et : ((placesI a b v colour).take 1).map pr = pickD ((placesI a b v colour).map pr) none (some 1) none := by rw [pick_take1, List.map_take]
    rw [et] at ne
    have cp := con_place (k := k + 2) O G a b v x y z ha hb ⟨hx, hy, hz⟩ (sizes_ok ha hb hx hy hz).1
    rw [← hxyz] at cp
    exact ts_cmp O (ev_con O cp (evl_cons O (ev_name h1 rfl) (evl_cons O (ev_name rfl rfl) (evl_nil O) (fun _ => rfl)) (fun _ => rfl)) rfl rfl rfl) (ev_slice (a := none) (b := some 1) (c := none) O (ev_name rfl rfl) True.intro ev_int True.intro (by simp) (by rw [List.length_map]; (first | lia | omega))) ne rfl
  refine nx_cons (ex_assign O (d := .int lw) ?_ (.inl rfl) (fun _ _ e => by cases e) (fun _ _ => rfl)) (up_keep (by decide)) ?_
  · rw [← e3]; exact ev_bin O (figE h0 rfl (by decide) (by decide)) (lenE h4) (op_fmod_ii _ _ (by (first | lia | omega)))
  refine nx_cons (ex_own O (ds := [pr (1 + (ln : Int), 7 * (cn : Int) + 7 - (hf : Int))]) (evl_cons O ?_ (evl_nil O) (fun _ => rfl)) (by simp) rfl) (dn_keep (by decide)) ?_
  · rw [← e4]
    exact ev_tuple O (evl_cons O (ev_bin O ev_int (ev_name rfl rfl) (op_add_ii _ _)) (evl_cons O (ev_bin O (ev_bin O (ev_bin O ev_int (ev_name rfl rfl) (op_mul_ii _ _ (mul_l _ _ (by decide)))) ev_int (op_add_ii _ _)) (ev_bin O (figE h0 rfl (by decide) (by decide)) ev_int (op_fmod_ii _ 2 (by decide))) (op_sub_ii _ _)) (evl_nil O) (fun _ => rfl)) (fun _ => rfl)) (by simp)
  refine nx_cons (ex_append O (d := pr (1 + (lw : Int), (q2 : Int))) ?_ (fun _ => rfl) (by simp) rfl rfl) (fun _ _ => rfl) ?_
  · rw [← e5]
    have e8 : (7 : Int) * ((6 * a : Nat) : Int) + 1 = ((7 * (6 * a) + 1 : Nat) : Int) := by (first | lia | omega)
    rw [← e8]
    exact ev_tuple O (evl_cons O (ev_bin O ev_int (ev_name rfl rfl) (op_add_ii _ _)) (evl_cons O (ev_bin O (figE h0 rfl (by decide) (by decide)) (ev_bin O (ev_bin O ev_int (ev_name h2 rfl) (op_mul_ii _ _ (mul_l _ _ (by decide)))) ev_int (op_add_ii _ _)) (op_fmod_ii _ _ (by (first | lia | omega)))) (evl_nil O) (fun _ => rfl)) (fun _ => rfl)) (by simp)
  refine nx_freeze O ?_ (by decide)
  have ep1 : pr (1 + (ln : Int), 7 * (cn : Int) + 7 - (hf : Int)) = pr (((ln + 1 : Nat) : Int), ((7 * cn + 7 - hf : Nat) : Int)) := by
    rw [show (1 : Int) + ln = ((ln + 1 : Nat) : Int) by (first | lia | omega), show 7 * (cn : Int) + 7 - (hf : Int) = ((7 * cn + 7 - hf : Nat) : Int) by (first | lia | omega)]
  have ep2 : pr (1 + (lw : Int), (q2 : Int)) = pr (((lw + 1 : Nat) : Int), (q2 : Int)) := by
    rw [show (1 : Int) + lw = ((lw + 1 : Nat) : Int) by (first | lia | omega)]
  rw [ep1, ep2]
  refine nx_cons (ex_for O (xs := [pr (((ln + 1 : Nat) : Int), ((7 * cn + 7 - hf : Nat) : Int)), pr (((lw + 1 : Nat) : Int), (q2 : Int))]) (fun _ => _) (fun _ => none) (ev_name rfl rfl) rfl (.inr rfl) (fun _ _ _ e => by cases e) fun i d hd => ?_) (fun _ _ => rfl) nx_nil
  have turn : ∀ (p q : Nat), 1 ≤ p ∧ p ≤ b + 1 → q < 150 → ∀ (Mm : Str → Option D), Mm "places" = some (.lst ((placesI a b v colour).map pr)) → Mm "colour" = some (.lst (colour.map D.int)) → Mm "lines" = some (.lst (((List.range (b + 1)).map (lineS a b v)).map D.str)) → Mm "number" = some (.int n) → Mm "mark" = none → Mm "due" = none →
      Ex X (k + 4) (fscope 16) (up Mm "mark" (pr ((p : Int), (q : Int)))) none (execs markB) .next Mm none := fun p q hp hq Mm m1 m2 m3 m4 m5 m6 =>
    ex_less (mark_turn O O3 G F15 g n colour hcol p q hp hq m1 rfl m2 m3 m4 (by (first | lia | omega))) (fun y e he => less_up (m := up Mm "mark" (pr ((p : Int), (q : Int)))) (x := "due") m6 y e (less_up (x := "mark") m5 y e he))
  match i, hd with
  | 0, hd =>
    simp only [List.getElem?_cons_zero, Option.some.injEq] at hd
    subst hd
    exact turn (ln + 1) (7 * cn + 7 - hf) (by (first | lia | omega)) (by (first | lia | omega)) _ rfl rfl h4 h0 z1 z2
  | 1, hd =>
    simp only [List.getElem?_cons_succ, List.getElem?_cons_zero, Option.some.injEq] at hd
    subst hd
    exact turn (lw + 1) q2 (by (first | lia | omega)) (by (first | lia | omega)) _ rfl rfl h4 h0 z1 z2
  | j + 2, hd => simp at hd
end
end Mine
end
section
open PySem PySem.W PySem.Calls PyProof.Rows
namespace Mine
theorem grid_of (n : Int) : ∃ (a b : Nat) (v t : Int), gridD n = .tup [.int a, .int b, .int v] ∧ Grid a b v t := by
  obtain ⟨a1, a2⟩ := steps_range n
  obtain ⟨b1, b2⟩ := shares_range n
  obtain ⟨d1, d2, d3, d4⟩ := times_range n
  have ea : ((gSteps n).toNat : Int) = gSteps n := by (first | lia | omega)
  have eb : ((gShares n).toNat : Int) = gShares n := by (first | lia | omega)
  refine ⟨(gSteps n).toNat, (gShares n).toNat, gValue n, gTimes n, ?_, ⟨by (first | lia | omega), by (first | lia | omega), d1, ?_, d4⟩⟩
  · rw [ea, eb]; rfl
  · rw [ea, eb]; rfl
theorem figs1_nat (n : Int) (p : Nat) : ∃ T : Nat, figs n p 1 = T ∧ T < 10 := by
  unfold figs
  obtain ⟨r, h1, h2⟩ := fmod_nat (n.fdiv (10 ^ p)) 10 (by decide)
  exact ⟨r, by rw [← h1]; rfl, h2⟩
theorem rt_up {X : Fix} {k : Nat} {sc : Scope} {m : Str → Option D} {ow : Ow} {st : Stmt} {rest : List Stmt} {d : D} (x : Str) (e : D) (h1 : Ex X k sc m ow (exec st) .next (up m x e) ow) (h2 : Rt X k sc (up m x e) ow rest d) : Rt X k sc m ow (st :: rest) d := rt_cons h1 h2
theorem rt_same {X : Fix} {k : Nat} {sc : Scope} {m : Str → Option D} {ow : Ow} {st : Stmt} {rest : List Stmt} {d : D} (h1 : Ex X k sc m ow (exec st) .next m ow) (h2 : Rt X k sc m ow rest d) : Rt X k sc m ow (st :: rest) d := rt_cons h1 h2
noncomputable def ownsL : List Int := [107902, 5000003011, 11102010004050, 3202111601031, 2312600071041]
section
variable {X : Fix} (O : X.Ok) (O3 : Ok3 X) (G : Env4 X) (F15 : Fn15 X) (F16 : Fn X 16) {k : Nat}
include O O3 G F15 F16
theorem con_law (script : List Int) (hs : script.length ≤ 1000) : Con X (k + 5) 16 [.lst (script.map D.int)] (.bool true) := by
  have hpick : ∀ j : Nat, ∃ ms : List Int, pickD (script.map D.int) (some (j : Int)) none (some 5) = ms.map D.int := fun j => pick_ints script _ _ _
  obtain ⟨ms, hms⟩ := Classical.axiomOfChoice hpick
  let f : Nat → Int := fun j => ownsL.getD j 0 + (ms j).sum
  obtain ⟨a, b, v, t, hgr, g⟩ := grid_of (f 0)
  obtain ⟨T, hT, hT2⟩ := figs1_nat (f 0) 5
  have ha := g.ha
  have hb := g.hb
  have hv1 := g.v1
  refine con_rt O F16 ["script"] (fun pmv cd doc vs h => ?_) rfl (by decide) rfl rfl rfl ?_
  · obtain ⟨a, rfl⟩ := len1 h; rfl
  refine rt_cons (ex_assign O (d := .lst (ownsL.map D.int)) (ev_list O (evl_cons O ev_int (evl_cons O ev_int (evl_cons O ev_int (evl_cons O ev_int (evl_cons O ev_int (evl_nil O) (fun _ => rfl)) (fun _ => rfl)) (fun _ => rfl)) (fun _ => rfl)) (fun _ => rfl)) (by show ownsL.length ≤ 1000; decide)) (.inr rfl) (fun _ _ e => by cases e) (fun _ _ => rfl)) ?_
  refine rt_up "numbers" (.lst ((List.range 5).map fun j => .int (f j))) ?_ ?_
  · have e5 : (List.range 5).map (fun j => D.int (f j)) = ((List.range 5).filter fun _ => true).map (fun j => D.int (f j)) := by rw [List.filter_eq_self.mpr (by simp)]
    rw [e5]
    refine ex_comp_r O 5 (by decide) _ _ (ev_call O (glo_range O G) rfl rfl (evl_cons O ev_int (evl_nil O) (fun _ => rfl)) (bi_range O _)) rfl (fun _ _ e => by cases e) (by decide) (by decide) rfl rfl (by decide) (fun j hj => tsl_nil) (fun j hj _ => ?_) (fun env hs => by cases env; cases hs; rfl)
    have hj5 : j = 0 ∨ j = 1 ∨ j = 2 ∨ j = 3 ∨ j = 4 := by (first | lia | omega)
    have hi : seqIndex? (j : Int) (ownsL.map D.int).length = some j := seqIdx j _ (by show j < 5; exact hj)
    have hg : (ownsL.map D.int)[j]? = some (.int (ownsL.getD j 0)) := by rcases hj5 with rfl | rfl | rfl | rfl | rfl <;> rfl
    have sl := bi_sum (X := X) (k := k + 4) O (ms j)
    rw [← hms j] at sl
    exact ev_bin O (ev_item_lst (j := j) O (ev_name rfl rfl) (ev_name rfl rfl) hi hg (by (first | lia | omega))) (ev_call O (glo_sum O G) rfl rfl (evl_cons O (ev_slice (a := some (j : Int)) (b := none) (c := some 5) O (ev_name rfl rfl) (ev_name rfl rfl) True.intro ev_int (by simp) (by rw [List.length_map]; (first | lia | omega))) (evl_nil O) (fun _ => rfl)) sl) (op_add_ii _ _)
  have cg := con_grid (k := k + 2) O G (f 0)
  rw [hgr] at cg
  have n0 : ∀ {m : Str → Option D} {p1 p2 p3 : Pos} {n1 : Nat}, m "numbers" = some (.lst ((List.range 5).map fun j => .int (f j))) → Ev X (k + 4) (fscope 16) m (.Subscript (.Name "numbers" p1) (.Constant (.int 0) n1 p2) p3) (.int (f 0)) := fun hm => ev_item_lst (j := 0) O (ev_name hm rfl) ev_int rfl rfl (by decide)
  refine rt_cons (ex_assign O (ev_con O cg (evl_cons O (n0 rfl) (evl_nil O) (fun _ => rfl)) rfl rfl rfl) (.inr rfl) (fun _ _ e => by cases e) (fun _ _ => rfl)) ?_
  have e6 : (6 : Int) * (a : Int) = ((6 * a : Nat) : Int) := by (first | lia | omega)
  refine rt_cons (ex_assign O (d := .int ((6 * a : Nat) : Int)) (by
    rw [← e6]
    exact ev_bin O ev_int (ev_item_tup (j := 0) O (ev_name rfl rfl) ev_int rfl rfl (by decide)) (op_mul_ii _ _ (mul_l _ _ (by decide)))) (.inr rfl) (fun _ _ e => by cases e) (fun _ _ => rfl)) ?_
  refine rt_cons (ex_assign O (ev_con O (con_table (k := k + 3) O G a b v ha hb ⟨hv1, g.hv2⟩) (evl_cons O (ev_name rfl rfl) (evl_nil O) (fun _ => rfl)) rfl rfl rfl) (.inr rfl) (fun _ _ e => by cases e) (fun _ _ => rfl)) ?_
  refine rt_cons (ex_assign O (d := .int (T : Int)) (by
    rw [← hT]
    exact ev_con O (con_figures (k := k + 3) O G (f 0) 5 1 (by decide) (by decide)) (evl_cons O (n0 rfl) (evl_cons O ev_int (evl_cons O ev_int (evl_nil O) (fun _ => rfl)) (fun _ => rfl)) (fun _ => rfl)) rfl rfl rfl) (.inr rfl) (fun _ _ e => by cases e) (fun _ _ => rfl)) ?_
  refine rt_up "lines" (.lst (((List.range (b + 1)).map (lineS a b v)).map D.str)) ?_ ?_
  · have e5 : ((List.range (b + 1)).map (lineS a b v)).map D.str = ((List.range (b + 1)).filter fun _ => true).map (fun l => D.str (lineS a b v l)) := by rw [List.filter_eq_self.mpr (by simp), List.map_map]; rfl
    rw [e5]
    have e7 : (b : Int) + 1 = ((b + 1 : Nat) : Int) := by (first | lia | omega)
    refine ex_comp_r O (b + 1) (by (first | lia | omega)) _ _ (by
      rw [← e7]
      exact ev_call O (glo_range O G) rfl rfl (evl_cons O (ev_bin O (ev_item_tup (j := 1) O (ev_name rfl rfl) ev_int rfl rfl (by decide)) ev_int (op_add_ii _ _)) (evl_nil O) (fun _ => rfl)) (bi_range O _)) rfl (fun _ _ e => by cases e) (by decide) (by decide) rfl rfl (by decide) (fun j hj => tsl_nil) (fun j hj _ => ?_) (fun env hs => by cases env; cases hs; rfl)
    exact ev_con O (con_line (k := k + 2) O G a b v j T ha hb ⟨hv1, g.hv2⟩ (by (first | lia | omega)) (by (first | lia | omega)) (fun c hc => (g.row_col (by (first | lia | omega)) hc).2) (fun c hc => painted ha hb hT2 (by (first | lia | omega)) hc g.ht g.hv g.hv2)) (evl_cons O (ev_name rfl rfl) (evl_cons O (ev_name rfl rfl) (evl_cons O (ev_name rfl rfl) (evl_nil O) (fun _ => rfl)) (fun _ => rfl)) (fun _ => rfl)) rfl rfl rfl
  refine rt_same (ex_for O (di := .lst (((List.range 5).map fun j => D.int (f j)).drop 1)) (xs := ((List.range 5).map fun j => D.int (f j)).drop 1) (fun _ => _) (fun _ => none) (by
    rw [← pick_drop1]
    exact ev_slice (a := some 1) (b := none) (c := none) O (ev_name rfl rfl) ev_int True.intro True.intro (by simp) (by simp)) rfl (.inl rfl) (fun _ _ _ e => by cases e) fun i d hd => ?_) (rt_return O ev_bool)
  obtain ⟨n, rfl⟩ : ∃ n, d = .int n := by
    rw [List.getElem?_drop, List.getElem?_map] at hd
    cases q : (List.range 5)[1 + i]? with
    | none => rw [q] at hd; cases hd
    | some j => rw [q] at hd; simp at hd; exact ⟨_, hd.symm⟩
  generalize hB : up (up (up (up (up (up (up _ "owns" _) "numbers" _) "grid" _) "wide" _) "table" _) "turns" _) "lines" _ = B
  have b1 : B "grid" = some (.tup [.int a, .int b, .int v]) := by rw [← hB]; rfl
  have b2 : B "wide" = some (.int ((6 * a : Nat) : Int)) := by rw [← hB]; rfl
  have b3 : B "table" = some (.lst ((tabL a b v).map rowD)) := by rw [← hB]; rfl
  have b4 : B "lines" = some (.lst (((List.range (b + 1)).map (lineS a b v)).map D.str)) := by rw [← hB]; rfl
  have bn : ∀ y, y ∈ chS ∨ y = "number" → B y = none := by
    rw [← hB]
    intro y hy
    rcases hy with hy | rfl
    · unfold chS at hy
      simp only [List.mem_cons, List.not_mem_nil, or_false] at hy
      rcases hy with rfl | rfl | rfl | rfl | rfl | rfl | rfl | rfl <;> rfl
    · rfl
  obtain ⟨m', hx, hw⟩ := num_turn (k := k) O O3 G F15 g (m := up B "number" (.int n)) n rfl b1 b2 b3 b4 (bn "mark" (.inl (by decide))) (bn "due" (.inl (by decide)))
  refine ex_less hx (fun y e he => ?_)
  have h1 : y ∉ chS := fun h => by rw [bn y (.inl h)] at he; cases he
  have h2 : y ≠ "number" := fun h => by rw [bn y (.inr h)] at he; cases he
  rw [hw y h1]
  unfold up
  rw [if_neg h2]; exact he
end
end Mine
end
section
open PySem PySem.W PySem.Calls PyProof.Rows
namespace Mine
theorem rdl_of_ints {X : Fix} {V : Heap} : ∀ {vs : List Value} {ns : List Int}, IntsAre vs ns → RdL X V (ns.map D.int) vs
  | _, _, .nil => .nil
  | _, _, .cons n t r => .cons (.int n t) (rdl_of_ints r)
noncomputable def theX (w : World) (h : Heap) (c0 P : Addr) (mg mb : Str → Option Value) : Fix where
  prog := PySem.Challenge.pw_mr0092_01
  w := w
  h0 := h
  P0 := P
  base := ghostOf h [(c0, P)]
  mg := mg
  mb := mb
  I := mkI h P (theK c0)
  Hit := HitK
  Prg := PrgK h (theK c0)
section
variable {q : Program} {loose : List Str} {mean : ExcName → Option Value} {mg mb : Str → Option Value} {w : World} {s₁ : Shared} {c0 P : Addr}
theorem the_ok (T : Top q loose mean mg mb s₁.heap) (hT : TabsAt [(c0, P)] s₁.heap) : (theX w s₁.heap c0 P mg mb).Ok where
  I := fun V V' h h' x kv k nv => mkI.loud x kv k nv
  Hit := fun h h' i a x k => HitK.mono x k
  Prg := fun h h' i a x k => PrgK.mono x k
  blt := T.builtins
  g := ghost_ns hT T.g
  b := ghost_ns hT T.b
  lim := (ghost_top hT T).nolimit
  dig := (ghost_top hT T).nodigits
  bm := (ghost_top hT T).bmain
theorem the_ok2 (hT : TabsAt [(c0, P)] s₁.heap) : Ok2 (theX w s₁.heap c0 P mg mb) (theK c0) where
  I := rfl
  b0 := hideAll_none _ (.head _)
  b1 := fun b o e => ⟨o, of_hideAll _ e⟩
  p0 := ⟨_, (hT (c0, P) (.head _)).2⟩
  dP := (by decide : ¬ ((theK 0).pP.line = (theK 0).pS.line ∧ (theK 0).pP.col = (theK 0).pS.col))
  dN := (by decide : ¬ ((theK 0).pH.line = (theK 0).pN.line ∧ (theK 0).pH.col = (theK 0).pN.col))
  qP := (by decide : (theK 0).qP ≠ (theK 0).qS)
  qH := (by decide : (theK 0).qH ≠ (theK 0).qS)
  qN := (by decide : (theK 0).qN ≠ (theK 0).qS)
theorem ghost_rec {cd : Value} {x : Str} (hT : TabsAt [(c0, P)] s₁.heap) (r : s₁.heap.CodeRec cd x) : (ghostOf s₁.heap [(c0, P)]).CodeRec cd x := by
  obtain ⟨c, o, vs, t, e1, e2, e3, e4⟩ := r
  refine ⟨c, o, vs, t, e1, ghost_get hT e2 (fun z => ?_), e3, e4⟩
  rw [z] at e3
  cases e3
  cases e4
theorem the_fn {i : Nat} {pos : Pos} (T : Top q loose mean mg mb s₁.heap) (hT : TabsAt [(c0, P)] s₁.heap) (hr : (⟨fname i, fargs i, fbody i, fscope i, pos⟩ : DefRec) ∈ recsOf q) : Fn (theX w s₁.heap c0 P mg mb) i := by
  obtain ⟨a, o, pm, cd, doc, h1, h2, h3, h4⟩ := T.fn _ hr
  exact ⟨a, o, pm, cd, doc, h1, ghost_get hT h2 (fun z => by rw [z] at h3; cases h3), h3, ghost_rec hT h4⟩
theorem core (T : Top q loose mean mg mb s₁.heap) (hrec : ∀ i ∈ [1, 2, 4, 5, 7, 8, 9, 10, 11, 12, 13, 14, 15, 16], ∃ pos, (⟨fname i, fargs i, fbody i, fscope i, pos⟩ : DefRec) ∈ recsOf q) (hfree : ∀ x ∈ bis, mg x = none) {fa : Addr} (hmg : mg (fname 16) = some (.ref fa))
    {l : Addr} {vs : List Value} {ns : List Int} (hL : s₁.heap.IsList l vs.toArray) (hI : IntsAre vs ns) (hn : ns.length ≤ 63) {Q : Value → Shared → Prop} {E : Value → Shared → Prop}
    (hQ : ∀ s', OldK s₁.heap s'.heap → s'.os = s₁.os → s'.gens = s₁.gens → Q (.bool true) s') : wpAny (model PySem.Challenge.pw_mr0092_01 w) callerA (call (.ref fa) [.ref l]) Q E s₁ := by
  obtain ⟨pos15, hr15⟩ := hrec 15 (by decide)
  obtain ⟨a, o, pm, cd, doc, h1, h2, h3, h4⟩ := T.fn _ hr15
  obtain ⟨a', o', fd, c0, P, g1, g2, g3, g4, g5, g6⟩ := T.tab _ hr15
  rw [h1] at g1; cases g1
  rw [h2] at g2; cases g2
  rw [h3] at g3; cases g3
  have hcd : cd = .ref c0 := g4
  subst hcd
  have hP : s₁.heap.get? P = some (tab #[]) := g6.2
  have hC : CodeHd s₁.heap c0 P := CodeHd.of g5 g6
  have hT : TabsAt [(c0, P)] s₁.heap := fun r hr => by
    rcases List.mem_cons.mp hr with rfl | hr
    · exact ⟨hC, hP⟩
    · cases hr
  have O : (theX w s₁.heap c0 P mg mb).Ok := the_ok T hT
  have O2 : Ok2 (theX w s₁.heap c0 P mg mb) (theK c0) := the_ok2 hT
  have O3 : Ok3 (theX w s₁.heap c0 P mg mb) := ⟨⟨c0, O2, rfl⟩, rfl⟩
  have fns : ∀ i ∈ [1, 2, 4, 5, 7, 8, 9, 10, 11, 12, 13, 14, 15, 16], Fn (theX w s₁.heap c0 P mg mb) i := fun i hi => let ⟨pos, hr⟩ := hrec i hi; the_fn T hT hr
  have G : Env4 (theX w s₁.heap c0 P mg mb) := ⟨fun i hi => fns i ((by decide : ∀ i ∈ [1, 2, 4, 5, 7, 8, 9, 10, 11, 12, 13, 14], i ∈ [1, 2, 4, 5, 7, 8, 9, 10, 11, 12, 13, 14, 15, 16]) i hi), hfree⟩
  have F15 : Fn15 (theX w s₁.heap c0 P mg mb) := ⟨c0, a, o, pm, doc, O2, rfl, h1, ghost_get hT h2 (fun z => by rw [z] at h3; cases h3), h3, ghost_rec hT h4⟩
  obtain ⟨f, gl, op⟩ := con_law (k := 0) O O3 G F15 (fns 16 (by decide)) ns (by (first | lia | omega))
  have hf : f = .ref fa := by
    rcases gl.at_ with e | ⟨e, _⟩
    · have : some f = some (.ref fa) := e.symm.trans hmg
      cases this; rfl
    · have : none = some (Value.ref fa) := e.symm.trans hmg
      cases this
  subst hf
  have le : Sub (ghostOf s₁.heap [(c0, P)]) s₁.heap := fun b o e => of_hideAll _ e
  have S : St (theX w s₁.heap c0 P mg mb) (ghostOf s₁.heap [(c0, P)]) s₁ := by
    refine ⟨le, fun _ _ e => e, ⟨⟨#[], hC, hP, trivial, (fun cv e => nomatch e), (fun cv e => nomatch e)⟩, fun c hc hno => ?_⟩, fun b o e => ⟨o, e⟩, fun b vs e => e⟩
    obtain ⟨oc, vs', t', e1, _⟩ := hc
    have e2 : s₁.heap.get? c = some oc := le _ _ e1
    rw [e2] at hno; cases hno
  refine op callerA (ghostOf s₁.heap [(c0, P)]) s₁ [.ref l] Q E ⟨rfl, by decide, by decide, rfl⟩ S (.cons (.lst (ghost_list hT hL) (by simpa using rdl_of_ints hI)) .nil) fun v s' V' g r => ?_
  cases r
  refine hQ s' ⟨fun b o e => ?_, fun b o e => g.there e⟩ g.os g.gn
  by_cases ht : ∃ vs, o = tab vs
  · obtain ⟨vs, rfl⟩ := ht
    obtain ⟨more, e1, e2⟩ := g.tb b vs e
    by_cases hb : b = P
    · subst hb
      rw [hP] at e; cases e
      exact .inr (.inl ⟨g6.isCodeTable, rfl, #[], more, rfl, e1⟩)
    · have hm : more = #[] := e2 hb (by show (s₁.heap.get? b).isSome = true; rw [e]; rfl)
      rw [hm, Array.append_empty] at e1
      exact .inl e1
  · exact .inl (g.kp b o e fun vs z => ht ⟨vs, z⟩)
end
end Mine
end
section
open PySem PySem.W PySem.Calls PyProof.Rows
namespace Mine
theorem rec_at {q : Program} (j i : Nat) (h : ((recsOf q)[j]?).map (fun d => (d.name, d.params, d.body, d.scope)) = some (fname i, fargs i, fbody i, fscope i)) : ∃ pos, (⟨fname i, fargs i, fbody i, fscope i, pos⟩ : DefRec) ∈ recsOf q := by
  cases e : (recsOf q)[j]? with
  | none => rw [e] at h; cases h
  | some d =>
    rw [e] at h
    obtain ⟨n, a, b, s, p⟩ := d
    simp only [Option.map_some, Option.some.injEq, Prod.mk.injEq] at h
    obtain ⟨rfl, rfl, rfl, rfl⟩ := h
    exact ⟨p, List.mem_of_getElem? e⟩
theorem recs_at {q : Program} {loose : List Str} {mean : ExcName → Option Value} {mg mb : Str → Option Value} {h : Heap} (T : Top q loose mean mg mb h) (h : (recsOf q).map (fun d => (d.name, d.params, d.body, d.scope)) = [1, 2, 4, 5, 7, 8, 9, 10, 11, 12, 13, 14, 15, 16].map (fun i => (fname i, fargs i, fbody i, fscope i))) :
    ∀ i ∈ [1, 2, 4, 5, 7, 8, 9, 10, 11, 12, 13, 14, 15, 16], ∃ pos, (⟨fname i, fargs i, fbody i, fscope i, pos⟩ : DefRec) ∈ recsOf q := fun i hi => by
  obtain ⟨j, hj⟩ := List.getElem?_of_mem hi
  refine rec_at j i ?_
  rw [← List.getElem?_map, h, List.getElem?_map, hj]
  rfl
noncomputable def freeOf (q : Program) (loose : List Str) (x : Str) : Bool := !startupNames.contains x && !loose.contains x && !((recsOf q).map (·.name)).contains x && !((litsOf q).map (·.1)).contains x && !((clssOf q loose).map (·.name)).contains x
theorem free_at {q : Program} {loose : List Str} {mean : ExcName → Option Value} {mg mb : Str → Option Value} {h : Heap} (T : Top q loose mean mg mb h) (hb : bis.all (freeOf q loose) = true) : ∀ x ∈ bis, mg x = none := fun x hx => by
  have := List.all_eq_true.mp hb x hx
  unfold freeOf at this
  simp only [Bool.and_eq_true, Bool.not_eq_true', List.contains_eq_mem, decide_eq_false_iff_not] at this
  exact T.free x this.1.1.1.1 this.1.1.1.2 this.1.1.2 this.1.2 this.2
theorem post_ok (args : List WData) : PySem.Challenge.rw_mr0092_01.row.claim.post args (WData.bool true) args = true := by kernel_rfl
end Mine
end
/- the claim -/
open PySem PySem.W PySem.Calls PyProof.Rows
set_option maxHeartbeats 8000000 in
theorem PySem.Challenge.cw_mr0092_01_holds : PySem.Challenge.rw_mr0092_01.Holds := by
  w_on
  o_law
  o_head Hook.none
  (case hw => w_witness2)
  intro w s₀ s₁ mg mb G Y fa o pm cd doc dV kV ho hd hcd hD hmg hg args vals as hpre hlay hrd hwl hlo
  have T := G.T
  have hm16 : mg (Mine.fname 16) = some (.ref fa) := hmg
  clear hd hcd hD hmg Y G ho
  have hrec := Mine.recs_at T (by kernel_rfl)
  have hfree := Mine.free_at T (by decide +kernel)
  wrow_args hpre hlay hrd hwl hlo
  rename_i ns _ _ _ _ _ _ l vs _ hL _ _ _ hI _ hc _
  exact Mine.core T hrec hfree hm16 hL hI (by omega) (fun s' hO hos hgn => ⟨.inl ⟨.bool true, _, [], rfl, fun _ => rfl, .bool true, Mine.post_ok _, fun _ => ⟨List.nodup_nil, fun _ h => nomatch h⟩⟩, hO, hos, .of_eq (hgn.trans hg)⟩)

