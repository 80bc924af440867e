import PyProof.Rows.All
import Wide.All
import OpenK.AllK
import Wide.FinOn
import PySem.Challenge.RW_sc0034_01
open PySem PySem.W PyProof.Rows PySem.Calls
set_option Elab.async false
set_option maxRecDepth 100000
set_option linter.all false
set_option genInjectivity false
set_option genSizeOf false
set_option tactic.hygienic false
set_option compiler.extract_closed false
namespace Mine
@[elab_as_elim] theorem rwG {α : Sort _} {a b : α} {P : α → Prop} (h : a = b) (p : P b) : P a := h ▸ p
theorem ifP {c P Q : Prop} [Decidable c] (h : c) (p : P) : if c then P else Q := by simpa [h] using p
theorem ifN {c P Q : Prop} [Decidable c] (h : ¬ c) (p : Q) : if c then P else Q := by simpa [h] using p
theorem dec1 {n i : Nat} (h : i < n) : n + 1 - (i + 1) < n + 1 - i := Nat.sub_lt_sub_left (Nat.lt_succ_of_lt h) (Nat.lt_succ_self i)
theorem max0 {d0 d1 d2 top : Nat} (h : top = max (max d0 d1) d2) : d0 ≤ top := h ▸ Nat.le_trans (Nat.le_max_left d0 d1) (Nat.le_max_left ..)
theorem max1 {d0 d1 d2 top : Nat} (h : top = max (max d0 d1) d2) : d1 ≤ top := h ▸ Nat.le_trans (Nat.le_max_right d0 d1) (Nat.le_max_left ..)
theorem max2 {d0 d1 d2 top : Nat} (h : top = max (max d0 d1) d2) : d2 ≤ top := h ▸ Nat.le_max_right ..
theorem max4 {d0 d1 d2 top : Nat} (h : top = max (max d0 d1) d2) (h0 : d0 < 4) (h1 : d1 < 4) (h2 : d2 < 4) : top < 4 := h ▸ Nat.max_lt.mpr ⟨Nat.max_lt.mpr ⟨h0, h1⟩, h2⟩
theorem mod4 {d n : Nat} (h : d = n % 4) : d < 4 := h ▸ Nat.mod_lt _ (by decide)
theorem hd0' (t n : Nat) : (64 * t + n % 64) % 4 = n % 4 := by
  rw [Nat.add_mod, Nat.mod_mod_of_dvd n (by decide : 4 ∣ 64), show 64 * t = 4 * (16 * t) by rw [← Nat.mul_assoc], Nat.mul_mod_right, Nat.zero_add, Nat.mod_mod]
theorem hd1' (t n : Nat) : (64 * t + n % 64) / 4 % 4 = n / 4 % 4 := by
  rw [show 64 * t = 4 * (16 * t) by rw [← Nat.mul_assoc], Nat.mul_add_div (by decide), show n % 64 / 4 = n / 4 % 16 from Nat.mod_mul_right_div_self n 4 16, show 16 * t = 4 * (4 * t) by rw [← Nat.mul_assoc], Nat.mul_add_mod, Nat.mod_mod_of_dvd _ (by decide : 4 ∣ 16)]
theorem hd2' (t n : Nat) : (64 * t + n % 64) / 16 % 4 = n / 16 % 4 := by
  rw [show 64 * t = 16 * (4 * t) by rw [← Nat.mul_assoc], Nat.mul_add_div (by decide), show n % 64 / 16 = n / 16 % 4 from Nat.mod_mul_right_div_self n 16 4, Nat.mul_add_mod, Nat.mod_mod]
theorem hd3' (t n : Nat) : (64 * t + n % 64) / 64 = t := by
  rw [Nat.mul_add_div (by decide), Nat.div_eq_of_lt (Nat.mod_lt _ (by decide)), Nat.add_zero]
theorem me0 {α : Type} {a : α} {l : List α} : a ∈ a :: l := .head _
theorem me_t {α : Type} {a y : α} {l : List α} (h : a ∈ l) : a ∈ y :: l := List.Mem.tail _ h
theorem me1 {α : Type} {a x0 : α} {l : List α} : a ∈ x0 :: a :: l := List.Mem.tail _ me0
theorem me2 {α : Type} {a x0 x1 : α} {l : List α} : a ∈ x0 :: x1 :: a :: l := List.Mem.tail _ me1
theorem me3 {α : Type} {a x0 x1 x2 : α} {l : List α} : a ∈ x0 :: x1 :: x2 :: a :: l := List.Mem.tail _ me2
theorem me4 {α : Type} {a x0 x1 x2 x3 : α} {l : List α} : a ∈ x0 :: x1 :: x2 :: x3 :: a :: l := List.Mem.tail _ me3
theorem me5 {α : Type} {a x0 x1 x2 x3 x4 : α} {l : List α} : a ∈ x0 :: x1 :: x2 :: x3 :: x4 :: a :: l := List.Mem.tail _ me4
theorem me6 {α : Type} {a x0 x1 x2 x3 x4 x5 : α} {l : List α} : a ∈ x0 :: x1 :: x2 :: x3 :: x4 :: x5 :: a :: l := List.Mem.tail _ me5
theorem me7 {α : Type} {a x0 x1 x2 x3 x4 x5 x6 : α} {l : List α} : a ∈ x0 :: x1 :: x2 :: x3 :: x4 :: x5 :: x6 :: a :: l := List.Mem.tail _ me6
theorem me8 {α : Type} {a x0 x1 x2 x3 x4 x5 x6 x7 : α} {l : List α} : a ∈ x0 :: x1 :: x2 :: x3 :: x4 :: x5 :: x6 :: x7 :: a :: l := List.Mem.tail _ me7
theorem me9 {α : Type} {a x0 x1 x2 x3 x4 x5 x6 x7 x8 : α} {l : List α} : a ∈ x0 :: x1 :: x2 :: x3 :: x4 :: x5 :: x6 :: x7 :: x8 :: a :: l := List.Mem.tail _ me8
theorem me10 {α : Type} {a x0 x1 x2 x3 x4 x5 x6 x7 x8 x9 : α} {l : List α} : a ∈ x0 :: x1 :: x2 :: x3 :: x4 :: x5 :: x6 :: x7 :: x8 :: x9 :: a :: l := List.Mem.tail _ me9
theorem me11 {α : Type} {a x0 x1 x2 x3 x4 x5 x6 x7 x8 x9 x10 : α} {l : List α} : a ∈ x0 :: x1 :: x2 :: x3 :: x4 :: x5 :: x6 :: x7 :: x8 :: x9 :: x10 :: a :: l := List.Mem.tail _ me10
theorem me12 {α : Type} {a x0 x1 x2 x3 x4 x5 x6 x7 x8 x9 x10 x11 : α} {l : List α} : a ∈ x0 :: x1 :: x2 :: x3 :: x4 :: x5 :: x6 :: x7 :: x8 :: x9 :: x10 :: x11 :: a :: l := List.Mem.tail _ me11
theorem me13 {α : Type} {a x0 x1 x2 x3 x4 x5 x6 x7 x8 x9 x10 x11 x12 : α} {l : List α} : a ∈ x0 :: x1 :: x2 :: x3 :: x4 :: x5 :: x6 :: x7 :: x8 :: x9 :: x10 :: x11 :: x12 :: a :: l := List.Mem.tail _ me12
theorem me14 {α : Type} {a x0 x1 x2 x3 x4 x5 x6 x7 x8 x9 x10 x11 x12 x13 : α} {l : List α} : a ∈ x0 :: x1 :: x2 :: x3 :: x4 :: x5 :: x6 :: x7 :: x8 :: x9 :: x10 :: x11 :: x12 :: x13 :: a :: l := List.Mem.tail _ me13
theorem me15 {α : Type} {a x0 x1 x2 x3 x4 x5 x6 x7 x8 x9 x10 x11 x12 x13 x14 : α} {l : List α} : a ∈ x0 :: x1 :: x2 :: x3 :: x4 :: x5 :: x6 :: x7 :: x8 :: x9 :: x10 :: x11 :: x12 :: x13 :: x14 :: a :: l := List.Mem.tail _ me14
inductive Len3 {α : Type} (l : List α) : Prop
  | mk (a b c : α) (e : l = [a, b, c])
theorem len3 {α : Type} {l : List α} (h : l.length = 3) : Len3 l := by
  rcases l with _ | ⟨a, _ | ⟨b, _ | ⟨c, _ | ⟨d, l⟩⟩⟩⟩
  · cases h
  · cases h
  · cases h
  · exact ⟨a, b, c, rfl⟩
  · cases h
@[elab_as_elim] theorem lt3' {P : (j : Nat) → j < 3 → Prop} (h0 : P 0 (by decide)) (h1 : P 1 (by decide)) (h2 : P 2 (by decide)) (j : Nat) (hj : j < 3) : P j hj := by
  rcases j with _ | _ | _ | j
  · exact h0
  · exact h1
  · exact h2
  · exact absurd hj (Nat.not_lt.mpr (Nat.le_add_left 3 j))
inductive Len2 {α : Type} (l : List α) : Prop
  | mk (a b : α) (e : l = [a, b])
theorem len2 {α : Type} {l : List α} (h : l.length = 2) : Len2 l := by
  rcases l with _ | ⟨a, _ | ⟨b, _ | ⟨d, l⟩⟩⟩
  · cases h
  · cases h
  · exact ⟨a, b, rfl⟩
  · cases h
noncomputable def er : Value → Value
  | .int i _ => .int i 0
  | .float b _ => .float b 0
  | .str s _ => .str s 0
  | .bytes b _ => .bytes b 0
  | v => v
noncomputable abbrev I (i : Int) : Value := .int i 0
noncomputable abbrev S (s : Str) : Value := .str s 0
theorem er_none {v : Value} (h : er v = .none) : v = .none := by cases v <;> first | exact h | cases h
theorem er_bool {v : Value} {b : Bool} (h : er v = .bool b) : v = .bool b := by cases v <;> first | exact h | cases h
theorem er_int {v : Value} {i : Int} (h : er v = I i) : ∃ t, v = .int i t := by cases v <;> first | (cases h; exact ⟨_, rfl⟩) | cases h
theorem er_str {v : Value} {x : Str} (h : er v = S x) : ∃ t, v = .str x t := by cases v <;> first | (cases h; exact ⟨_, rfl⟩) | cases h
theorem er_ref {v : Value} {a : Addr} (h : er v = .ref a) : v = .ref a := by cases v <;> first | exact h | cases h
theorem er_builtin {v : Value} {n : String} (h : er v = .builtin n) : v = .builtin n := by cases v <;> first | exact h | cases h
theorem er_type {v : Value} {n : String} (h : er v = .type n) : v = .type n := by cases v <;> first | exact h | cases h
theorem er_er (v : Value) : er (er v) = er v := by cases v <;> rfl
noncomputable abbrev GCode (p : Addr → Option Obj) (c : Addr) (q : Str) : Prop := ∃ o vs t, p c = some o ∧ o.data = .fields vs ∧ vs[1]? = some (.str q t)
inductive AO where
  | ns (es : List (Str × Value))
  | seq (T : String) (xs : List Value)
  | flds (T : String) (vs : Array Value)
  | fldE (T : String) (xs : List Value)
  | rng (a b c : Int)
  | enum (it : Addr) (i : Int) (a : Option Addr)
  | sit (x : Str) (i : Nat)
  | exc (tb : Value)
  | tb
  | obj (o : Obj)
  | cell (v : Option Value)
  | pred (P : Obj → Prop)
  | fn (qual : Str) (params : Arguments) (body : FuncBody) (scope : Scope) (clos : List (Str × Addr)) (d : Option Addr)
noncomputable def bnd (es : List (Str × Value)) (n : Str) : Option Value := (es.find? fun e => e.1 == n).map (·.2)
inductive CNs (es : List (Str × Value)) (o : Obj) : Prop
  | mk (hn : (es.map (·.1)).Nodup) (ents : Array DictEntry) (ep : Nat) (hd : o.data = .dict ents ep) (hk : StrKeys ents) (hu : UniqKeys ents) (hl : ∀ n, (nsFind ents n).map er = bnd es n)
inductive CSeq (T : String) (xs : List Value) (o : Obj) : Prop
  | mk (items : Array Value) (n : Nat) (h : o = { cls := .type T, data := .seq items n }) (e : items.toList.map er = xs)
inductive CFldE (T : String) (xs : List Value) (o : Obj) : Prop
  | mk (hc : o.cls = .type T) (vs : Array Value) (hd : o.data = .fields vs) (e : vs.toList.map er = xs)
inductive CRng (a b c : Int) (o : Obj) : Prop
  | mk (t u v : Tok) (h : o = { cls := .type "range", dict := none, data := .fields #[.int a t, .int b u, .int c v], slots := #[] })
inductive CExc (tb : Value) (o : Obj) : Prop
  | mk (hc : o.cls = .type "StopIteration") (vs : Array Value) (a0 : Value) (hd : o.data = .fields vs) (h0 : vs[0]? = some a0) (h1 : vs[1]? = some tb)
inductive CFn (p : Addr → Option Obj) (q : Str) (ps : Arguments) (b : FuncBody) (sc : Scope) (cl : List (Str × Addr)) (d : Option Addr) (o : Obj) : Prop
  | mk (h1 : o.cls = .type "function") (h2 : o.dict = d) (fd : FuncData) (c : Addr) (h3 : o.data = .func fd) (h4 : fd.qualname = q) (h5 : fd.params = ps) (h6 : fd.body = b) (h7 : fd.scope = sc) (h8 : fd.closure = cl) (h9 : fd.globals = mainGlobals)
      (h10 : fd.builtins = builtinsNs) (h11 : fd.defaults = .none) (h12 : fd.kwdefaults = .none) (h13 : fd.code = .ref c) (h14 : GCode p c q)
noncomputable def Conc (p : Addr → Option Obj) : AO → Obj → Prop
  | .ns es, o => CNs es o
  | .seq T xs, o => CSeq T xs o
  | .flds T vs, o => o.cls = .type T ∧ o.data = .fields vs
  | .fldE T xs, o => CFldE T xs o
  | .rng a b c, o => CRng a b c o
  | .enum it i a, o => ∃ old, o = { cls := .type "enumerate", dict := none, data := .fields #[(match a with | none => .none | some a => rawInt a), .bool false, .ref it, rawInt i, .none, old], slots := #[] }
  | .sit x i, o => o.cls = .type "str_ascii_iterator" ∧ ∃ t, o.data = .fields #[.str x t, .int i 0]
  | .exc tb, o => CExc tb o
  | .tb, o => ∃ ts, o.data = .fields ts ∧ ts[3]? = some .none
  | .obj o', o => o = o'
  | .cell v, o => ∃ v', o.data = .cell v' ∧ v'.map er = v
  | .pred P, o => P o
  | .fn q ps b sc cl d, o => CFn p q ps b sc cl d o
noncomputable abbrev Hp := List (Addr × AO)
structure Tab where
  c : Addr
  P : Addr
  f : Nat → Nat → Str
structure Cx where
  prog : Program
  w : World
  h₀ : Heap
  os : OsState
  tabs : List Tab
  mg : Str → Option Value
  mb : Str → Option Value
  K : Frag
  kin : K.In h₀
  lim : h₀.NoLimit
  g : h₀.Ns mainGlobals mg
  b : h₀.Ns builtinsNs mb
structure Rel0 (X : Cx) (p : Addr → Option Obj) (σ : Hp) (s : Shared) : Prop where
  base : ∀ b o, X.h₀.get? b = some o → p b = some o
  keep : ∀ b o, p b = some o → s.heap.get? b = some o
  has : ∀ q ∈ σ, p q.1 = none ∧ ∃ o, s.heap.get? q.1 = some o ∧ Conc p q.2 o
  nodup : (σ.map (·.1)).Nodup
  tabs : ∀ t ∈ X.tabs, p t.P = none ∧ t.P ∉ σ.map (·.1) ∧ ∃ ps, s.heap.get? t.P = some (tabObj ps) ∧ TriplesOk ps.toList ∧
    ∀ pos c, codeAmong pos ps.toList = some c → ∃ c', c = .ref c' ∧ GCode p c' (t.f pos.line pos.col)
  gens : s.gens = #[]
  os : s.os = X.os
inductive Rel (X : Cx) (σ : Hp) (s : Shared) : Prop
  | mk (p : Addr → Option Obj) (r : Rel0 X p σ s)
inductive Ends (X : Cx) {β : Type} (Q : β → Hp → Prop) (b : β) (s : Shared) : Prop
  | mk (σ : Hp) (R : Rel X σ s) (h : Q b σ)
inductive Got (X : Cx) (σ : Hp) (s : Shared) (a : Addr) (x : AO) : Prop
  | mk (p : Addr → Option Obj) (o : Obj) (r : Rel0 X p σ s) (ho : s.heap.get? a = some o) (hc : Conc p x o)
theorem Conc.mono {p p' : Addr → Option Obj} (k : ∀ b o, p b = some o → p' b = some o) {x : AO} {o : Obj} (h : Conc p x o) : Conc p' x o := by
  cases x with
  | fn q ps b sc cl d =>
    obtain ⟨h1, h2, fd, c, h3, h4, h5, h6, h7, h8, h9, h10, h11, h12, h13, o', vs, t, h14, h15⟩ := h
    exact ⟨h1, h2, fd, c, h3, h4, h5, h6, h7, h8, h9, h10, h11, h12, h13, o', vs, t, k _ _ h14, h15⟩
  | _ => exact h
noncomputable def W (X : Cx) (A : Around) {α β : Type} (f : α → β) (t : Sem α) (σ : Hp) (Q : β → Hp → Prop) (E : Value → Shared → Prop) : Prop :=
  ∀ s, Rel X σ s → wpAny (model X.prog X.w) A t (fun a s' => Ends X Q (f a) s') E s
noncomputable def erF : Flow → Flow
  | .ret v => .ret (er v)
  | f => f
section
variable {X : Cx} {A : Around} {α β γ δ : Type} {σ : Hp} {E : Value → Shared → Prop}
theorem W.mono {f : α → β} {t : Sem α} {Q Q' : β → Hp → Prop} (h : W X A f t σ Q E) (k : ∀ b σ', Q b σ' → Q' b σ') : W X A f t σ Q' E :=
  fun s R => wpAny_mono (h s R) (fun _ _ ⟨σ', R', q⟩ => ⟨σ', R', k _ _ q⟩) fun _ _ e => e
theorem W.monoE {f : α → β} {t : Sem α} {Q Q' : β → Hp → Prop} {E' : Value → Shared → Prop} (h : W X A f t σ Q E) (k : ∀ b σ', Q b σ' → Q' b σ') (kE : ∀ e s, E e s → E' e s) : W X A f t σ Q' E' :=
  fun s R => wpAny_mono (h s R) (fun _ _ ⟨σ', R', q⟩ => ⟨σ', R', k _ _ q⟩) kE
theorem W_pure {f : α → β} {a : α} {Q : β → Hp → Prop} (h : Q (f a) σ) : W X A f (pure a) σ Q E := fun _ R => wpAny_pure ⟨σ, R, h⟩
theorem W_bind {f : α → β} {g : γ → δ} {m : Sem α} {k : α → Sem γ} {Q : δ → Hp → Prop} (h : W X A f m σ (fun b σ' => ∀ a, f a = b → W X A g (k a) σ' Q E) E) : W X A g (m >>= k) σ Q E :=
  fun s R => wpAny_bind (wpAny_mono (h s R) (fun a s' ⟨σ', R', q⟩ => q a rfl s' R') fun _ _ e => e)
theorem W_congr {f : α → β} {t t' : Sem α} {Q : β → Hp → Prop} (e : t = t') (h : W X A f t' σ Q E) : W X A f t σ Q E := e ▸ h
theorem Rel.sub {σ' : Hp} {s : Shared} (R : Rel X σ s) (hs : ∀ q ∈ σ', q ∈ σ) (hn : (σ'.map (·.1)).Nodup) : Rel X σ' s := by
  obtain ⟨p, r⟩ := R
  refine ⟨p, r.base, r.keep, fun q hq => r.has q (hs q hq), hn, fun t ht => ?_, r.gens, r.os⟩
  obtain ⟨h1, h2, h3⟩ := r.tabs t ht
  refine ⟨h1, fun hm => h2 ?_, h3⟩
  obtain ⟨q, hq, e⟩ := List.mem_map.mp hm
  exact List.mem_map.mpr ⟨q, hs q hq, e⟩
theorem Rel.sublist {σ' : Hp} {s : Shared} (R : Rel X σ s) (hs : σ'.Sublist σ) : Rel X σ' s :=
  R.sub (fun _ hq => hs.subset hq) (let ⟨_, r⟩ := R; (hs.map _).nodup r.nodup)
theorem Rel.perm {σ' : Hp} {s : Shared} (R : Rel X σ s) (hs : σ.Perm σ') : Rel X σ' s :=
  R.sub (fun _ hq => hs.mem_iff.mpr hq) (let ⟨_, r⟩ := R; (hs.map _).nodup_iff.mp r.nodup)
theorem W_perm {f : α → β} {t : Sem α} {σ' : Hp} {Q : β → Hp → Prop} (hs : σ.Perm σ') (h : W X A f t σ' Q E) : W X A f t σ Q E := fun s R => h s (R.perm hs)
theorem Rel.keep {s : Shared} (R : Rel X σ s) : ∀ b o, X.h₀.get? b = some o → s.heap.get? b = some o := fun b o e => let ⟨_, r⟩ := R; r.keep _ _ (r.base b o e)
theorem Rel.upd {s : Shared} {pre post : Hp} {a : Addr} {x x' : AO} {h' : Heap} {tk : Nat} {o' : Obj} (R : Rel X (pre ++ (a, x) :: post) s) (hs : Heap.SameBut a s.heap h') (ho : h'.get? a = some o') (hc : ∀ p, Rel0 X p (pre ++ (a, x) :: post) s → Conc p x' o') :
    Rel X (pre ++ (a, x') :: post) { s with heap := h', toks := tk } := by
  obtain ⟨p, r⟩ := R
  have hk : (pre ++ (a, x') :: post).map (·.1) = (pre ++ (a, x) :: post).map (·.1) := by simp
  have hn := r.nodup
  have ha := r.has (a, x) (by simp)
  refine ⟨p, r.base, fun b o e => ?_, fun q hq => ?_, by (first | (refine rwG hk ?_; try (with_reducible rfl)) | rw [hk]); exact r.nodup, fun t ht => ?_, r.gens, r.os⟩
  · exact (hs.2 b (fun z => by rw [z, ha.1] at e; cases e)).trans (r.keep b o e)
  · have cases : q ∈ pre ∨ q = (a, x') ∨ q ∈ post := by simpa using hq
    have ne : ∀ q : Addr × AO, q ∈ pre ∨ q ∈ post → q.1 ≠ a := by
      intro q hq e
      rw [List.map_append, List.map_cons, List.nodup_append] at hn
      rcases hq with hq | hq
      · exact hn.2.2 q.1 (List.mem_map_of_mem hq) a (.head _) e
      · exact (List.nodup_cons.mp hn.2.1).1 (by show a ∈ post.map (·.1); (first | (refine rwG e.symm ?_; try (with_reducible rfl)) | rw [← e]); exact List.mem_map_of_mem hq)
    rcases cases with hq | rfl | hq
    · obtain ⟨h1, o, h2, h3⟩ := r.has q (by simp [hq])
      exact ⟨h1, o, (hs.2 _ (ne q (.inl hq))).trans h2, h3⟩
    · exact ⟨ha.1, o', ho, hc p r⟩
    · obtain ⟨h1, o, h2, h3⟩ := r.has q (by simp [hq])
      exact ⟨h1, o, (hs.2 _ (ne q (.inr hq))).trans h2, h3⟩
  · obtain ⟨h1, h2, ps, h3, h4⟩ := r.tabs t ht
    refine ⟨h1, by (first | (refine rwG hk ?_; try (with_reducible rfl)) | rw [hk]); exact h2, ps, (hs.2 _ fun z => h2 ?_).trans h3, h4⟩
    (first | (refine rwG z ?_; try (with_reducible rfl)) | rw [z]); simp
theorem Rel.grow {s : Shared} {h' : Heap} {tk : Nat} (R : Rel X σ s) (k : ∀ b o, s.heap.get? b = some o → h'.get? b = some o) : Rel X σ { s with heap := h', toks := tk } := by
  obtain ⟨p, r⟩ := R
  refine ⟨p, r.base, fun b o e => k _ _ (r.keep b o e), fun q hq => ?_, r.nodup, fun t ht => ?_, r.gens, r.os⟩
  · obtain ⟨h1, o, h2, h3⟩ := r.has q hq; exact ⟨h1, o, k _ _ h2, h3⟩
  · obtain ⟨h1, h2, ps, h3, h4⟩ := r.tabs t ht; exact ⟨h1, h2, ps, k _ _ h3, h4⟩
theorem Rel.toks {s : Shared} {tk : Nat} (R : Rel X σ s) : Rel X σ { s with toks := tk } := R.grow fun _ _ e => e
theorem Rel0.fresh {p : Addr → Option Obj} {s : Shared} (r : Rel0 X p σ s) {a : Addr} (ha : s.heap.get? a = none) : p a = none ∧ a ∉ σ.map (·.1) ∧ ∀ t ∈ X.tabs, t.P ≠ a := by
  refine ⟨?_, fun hm => ?_, fun t ht e => ?_⟩
  · cases q : p a with
    | none => rfl
    | some o => rw [r.keep _ _ q] at ha; cases ha
  · obtain ⟨q, hq, rfl⟩ := List.mem_map.mp hm
    obtain ⟨_, o, h2, _⟩ := r.has q hq
    rw [h2] at ha; cases ha
  · obtain ⟨_, _, ps, h3, _⟩ := r.tabs t ht
    rw [e, ha] at h3; cases h3
theorem Rel.new {s : Shared} {h' : Heap} {tk : Nat} {a : Addr} {x : AO} {o : Obj} (R : Rel X σ s) (ha : s.heap.get? a = none) (k : ∀ b o, s.heap.get? b = some o → h'.get? b = some o) (ho : h'.get? a = some o)
    (hc : ∀ p, Rel0 X p σ s → Conc p x o) : Rel X ((a, x) :: σ) { s with heap := h', toks := tk } := by
  obtain ⟨p, r⟩ := R
  obtain ⟨f1, f2, f3⟩ := r.fresh ha
  refine ⟨p, r.base, fun b o e => k _ _ (r.keep b o e), fun q hq => ?_, by rw [List.map_cons]; exact List.nodup_cons.mpr ⟨f2, r.nodup⟩, fun t ht => ?_, r.gens, r.os⟩
  · rcases List.mem_cons.mp hq with rfl | hq
    · exact ⟨f1, o, ho, hc p r⟩
    · obtain ⟨h1, o, h2, h3⟩ := r.has q hq; exact ⟨h1, o, k _ _ h2, h3⟩
  · obtain ⟨h1, h2, ps, h3, h4⟩ := r.tabs t ht
    refine ⟨h1, fun hm => ?_, ps, k _ _ h3, h4⟩
    rw [List.map_cons] at hm
    rcases List.mem_cons.mp hm with e | hm
    · exact f3 t ht e
    · exact h2 hm
theorem Rel.get {s : Shared} (R : Rel X σ s) {a : Addr} {x : AO} (hm : (a, x) ∈ σ) : Got X σ s a x := by
  obtain ⟨p, r⟩ := R
  obtain ⟨_, o, h2, h3⟩ := r.has _ hm
  exact ⟨p, o, r, h2, h3⟩
end
section
variable {X : Cx} {σ : Hp}
theorem Rel.chg {s : Shared} {pre pre' new : Hp} {h' : Heap} {tk : Nat} (R : Rel X (pre ++ σ) s) (k : ∀ b o, b ∉ pre.map (·.1) → s.heap.get? b = some o → h'.get? b = some o) (ha : pre'.map (·.1) = pre.map (·.1))
    (hc : ∀ q ∈ pre', ∃ o, h'.get? q.1 = some o ∧ ∀ p, Conc p q.2 o) (hn : ∀ q ∈ new, s.heap.get? q.1 = none ∧ ∃ o, h'.get? q.1 = some o ∧ ∀ p, Conc p q.2 o) (hd : (new.map (·.1)).Nodup) : Rel X (new ++ (pre' ++ σ)) { s with heap := h', toks := tk } := by
  obtain ⟨p, r⟩ := R
  have nd := r.nodup
  rw [List.map_append, List.nodup_append] at nd
  have fr : ∀ q ∈ new, p q.1 = none ∧ q.1 ∉ (pre ++ σ).map (·.1) ∧ ∀ t ∈ X.tabs, t.P ≠ q.1 := fun q hq => r.fresh (hn q hq).1
  have hpn : ∀ b, b ∈ pre.map (·.1) → p b = none := fun b hb => by
    obtain ⟨q, hq, rfl⟩ := List.mem_map.mp hb
    exact (r.has q (List.mem_append_left _ hq)).1
  refine ⟨p, r.base, fun b o e => k b o (fun hb => by rw [hpn b hb] at e; cases e) (r.keep b o e), fun q hq => ?_, ?_, fun t ht => ?_, r.gens, r.os⟩
  · rcases List.mem_append.mp hq with hq | hq
    · obtain ⟨o, h1, h2⟩ := (hn q hq).2; exact ⟨(fr q hq).1, o, h1, h2 p⟩
    · rcases List.mem_append.mp hq with hq | hq
      · obtain ⟨o, h1, h2⟩ := hc q hq
        exact ⟨hpn _ (by (first | (refine rwG ha.symm ?_; try (with_reducible rfl)) | rw [← ha]); exact List.mem_map_of_mem hq), o, h1, h2 p⟩
      · obtain ⟨h1, o, h2, h3⟩ := r.has q (List.mem_append_right _ hq)
        exact ⟨h1, o, k _ _ (fun hb => nd.2.2 _ hb _ (List.mem_map_of_mem hq) rfl) h2, h3⟩
  · rw [List.map_append, List.map_append, ha, List.nodup_append]
    refine ⟨hd, by rw [← List.map_append]; exact r.nodup, fun a ha' b hb e => ?_⟩
    subst e
    obtain ⟨q, hq, rfl⟩ := List.mem_map.mp ha'
    exact (fr q hq).2.1 (by rw [List.map_append]; exact hb)
  · obtain ⟨h1, h2, ps, h3, h4⟩ := r.tabs t ht
    have h2' := h2
    rw [List.map_append, List.mem_append] at h2
    refine ⟨h1, fun hm => ?_, ps, k _ _ (fun hb => h2 (.inl hb)) h3, h4⟩
    rw [List.map_append, List.map_append, ha, List.mem_append, ← List.map_append] at hm
    rcases hm with hm | hm
    · obtain ⟨q, hq, e⟩ := List.mem_map.mp hm
      exact (fr q hq).2.2 t ht e.symm
    · exact h2' hm
end
inductive Chg (a : Addr) (x x' : AO) : Hp → Hp → Prop
  | here {r} : Chg a x x' ((a, x) :: r) ((a, x') :: r)
  | there {q r r'} : Chg a x x' r r' → Chg a x x' (q :: r) (q :: r')
theorem ch0 {a : Addr} {x x' : AO} {r : Hp} : Chg a x x' ((a, x) :: r) ((a, x') :: r) := .here
theorem ch1 {a : Addr} {x x' : AO} {q0 : Addr × AO} {r : Hp} : Chg a x x' (q0 :: (a, x) :: r) (q0 :: (a, x') :: r) := .there ch0
theorem ch2 {a : Addr} {x x' : AO} {q0 q1 : Addr × AO} {r : Hp} : Chg a x x' (q0 :: q1 :: (a, x) :: r) (q0 :: q1 :: (a, x') :: r) := .there ch1
theorem ch3 {a : Addr} {x x' : AO} {q0 q1 q2 : Addr × AO} {r : Hp} : Chg a x x' (q0 :: q1 :: q2 :: (a, x) :: r) (q0 :: q1 :: q2 :: (a, x') :: r) := .there ch2
theorem ch4 {a : Addr} {x x' : AO} {q0 q1 q2 q3 : Addr × AO} {r : Hp} : Chg a x x' (q0 :: q1 :: q2 :: q3 :: (a, x) :: r) (q0 :: q1 :: q2 :: q3 :: (a, x') :: r) := .there ch3
theorem ch5 {a : Addr} {x x' : AO} {q0 q1 q2 q3 q4 : Addr × AO} {r : Hp} : Chg a x x' (q0 :: q1 :: q2 :: q3 :: q4 :: (a, x) :: r) (q0 :: q1 :: q2 :: q3 :: q4 :: (a, x') :: r) := .there ch4
theorem ch6 {a : Addr} {x x' : AO} {q0 q1 q2 q3 q4 q5 : Addr × AO} {r : Hp} : Chg a x x' (q0 :: q1 :: q2 :: q3 :: q4 :: q5 :: (a, x) :: r) (q0 :: q1 :: q2 :: q3 :: q4 :: q5 :: (a, x') :: r) := .there ch5
theorem ch7 {a : Addr} {x x' : AO} {q0 q1 q2 q3 q4 q5 q6 : Addr × AO} {r : Hp} : Chg a x x' (q0 :: q1 :: q2 :: q3 :: q4 :: q5 :: q6 :: (a, x) :: r) (q0 :: q1 :: q2 :: q3 :: q4 :: q5 :: q6 :: (a, x') :: r) := .there ch6
theorem ch8 {a : Addr} {x x' : AO} {q0 q1 q2 q3 q4 q5 q6 q7 : Addr × AO} {r : Hp} : Chg a x x' (q0 :: q1 :: q2 :: q3 :: q4 :: q5 :: q6 :: q7 :: (a, x) :: r) (q0 :: q1 :: q2 :: q3 :: q4 :: q5 :: q6 :: q7 :: (a, x') :: r) := .there ch7
theorem ch9 {a : Addr} {x x' : AO} {q0 q1 q2 q3 q4 q5 q6 q7 q8 : Addr × AO} {r : Hp} : Chg a x x' (q0 :: q1 :: q2 :: q3 :: q4 :: q5 :: q6 :: q7 :: q8 :: (a, x) :: r) (q0 :: q1 :: q2 :: q3 :: q4 :: q5 :: q6 :: q7 :: q8 :: (a, x') :: r) := .there ch8
theorem ch10 {a : Addr} {x x' : AO} {q0 q1 q2 q3 q4 q5 q6 q7 q8 q9 : Addr × AO} {r : Hp} : Chg a x x' (q0 :: q1 :: q2 :: q3 :: q4 :: q5 :: q6 :: q7 :: q8 :: q9 :: (a, x) :: r) (q0 :: q1 :: q2 :: q3 :: q4 :: q5 :: q6 :: q7 :: q8 :: q9 :: (a, x') :: r) := .there ch9
theorem ch11 {a : Addr} {x x' : AO} {q0 q1 q2 q3 q4 q5 q6 q7 q8 q9 q10 : Addr × AO} {r : Hp} : Chg a x x' (q0 :: q1 :: q2 :: q3 :: q4 :: q5 :: q6 :: q7 :: q8 :: q9 :: q10 :: (a, x) :: r) (q0 :: q1 :: q2 :: q3 :: q4 :: q5 :: q6 :: q7 :: q8 :: q9 :: q10 :: (a, x') :: r) := .there ch10
theorem ch12 {a : Addr} {x x' : AO} {q0 q1 q2 q3 q4 q5 q6 q7 q8 q9 q10 q11 : Addr × AO} {r : Hp} : Chg a x x' (q0 :: q1 :: q2 :: q3 :: q4 :: q5 :: q6 :: q7 :: q8 :: q9 :: q10 :: q11 :: (a, x) :: r) (q0 :: q1 :: q2 :: q3 :: q4 :: q5 :: q6 :: q7 :: q8 :: q9 :: q10 :: q11 :: (a, x') :: r) := .there ch11
theorem ch13 {a : Addr} {x x' : AO} {q0 q1 q2 q3 q4 q5 q6 q7 q8 q9 q10 q11 q12 : Addr × AO} {r : Hp} : Chg a x x' (q0 :: q1 :: q2 :: q3 :: q4 :: q5 :: q6 :: q7 :: q8 :: q9 :: q10 :: q11 :: q12 :: (a, x) :: r) (q0 :: q1 :: q2 :: q3 :: q4 :: q5 :: q6 :: q7 :: q8 :: q9 :: q10 :: q11 :: q12 :: (a, x') :: r) := .there ch12
theorem ch14 {a : Addr} {x x' : AO} {q0 q1 q2 q3 q4 q5 q6 q7 q8 q9 q10 q11 q12 q13 : Addr × AO} {r : Hp} : Chg a x x' (q0 :: q1 :: q2 :: q3 :: q4 :: q5 :: q6 :: q7 :: q8 :: q9 :: q10 :: q11 :: q12 :: q13 :: (a, x) :: r) (q0 :: q1 :: q2 :: q3 :: q4 :: q5 :: q6 :: q7 :: q8 :: q9 :: q10 :: q11 :: q12 :: q13 :: (a, x') :: r) := .there ch13
theorem ch15 {a : Addr} {x x' : AO} {q0 q1 q2 q3 q4 q5 q6 q7 q8 q9 q10 q11 q12 q13 q14 : Addr × AO} {r : Hp} : Chg a x x' (q0 :: q1 :: q2 :: q3 :: q4 :: q5 :: q6 :: q7 :: q8 :: q9 :: q10 :: q11 :: q12 :: q13 :: q14 :: (a, x) :: r) (q0 :: q1 :: q2 :: q3 :: q4 :: q5 :: q6 :: q7 :: q8 :: q9 :: q10 :: q11 :: q12 :: q13 :: q14 :: (a, x') :: r) := .there ch14
inductive Split (a : Addr) (x x' : AO) (σ σ' : Hp) : Prop
  | mk (pre post : Hp) (e : σ = pre ++ (a, x) :: post) (e' : σ' = pre ++ (a, x') :: post)
theorem Chg.split {a : Addr} {x x' : AO} {σ σ' : Hp} (h : Chg a x x' σ σ') : Split a x x' σ σ' := by
  induction h with
  | here => exact ⟨[], _, rfl, rfl⟩
  | there _ ih => cases ih with
    | mk pre post e e' => exact ⟨_ :: pre, post, congrArg _ e, congrArg _ e'⟩
inductive Put (n : Str) (v : Value) : List (Str × Value) → List (Str × Value) → Prop
  | nil : Put n v [] [(n, v)]
  | here {w r} : Put n v ((n, w) :: r) ((n, v) :: r)
  | there {m w r r'} : (m == n) = false → Put n v r r' → Put n v ((m, w) :: r) ((m, w) :: r')
set_option tactic.hygienic true in
theorem Put.look {n : Str} {v : Value} {es es' : List (Str × Value)} (h : Put n v es es') (x : Str) : bnd es' x = if x = n then some v else bnd es x := by
  unfold Mine.bnd
  induction h with
  | nil =>
    by_cases e : x = n
    · subst e; simp
    · simp [e, Ne.symm e, beq_eq_false_iff_ne.mpr (Ne.symm e)]
  | here =>
    by_cases e : x = n
    · subst e; simp
    · simp [e, Ne.symm e, beq_eq_false_iff_ne.mpr (Ne.symm e)]
  | there hm _ ih =>
    rename_i m w r r' _
    by_cases e : x = n
    · subst e; simp only [List.find?_cons, hm, if_true] at ih ⊢; exact ih
    · rw [if_neg e] at ih ⊢
      simp only [List.find?_cons]
      cases q : m == x with
      | true => rfl
      | false => exact ih
theorem Put.keys {n : Str} {v : Value} {es es' : List (Str × Value)} (h : Put n v es es') : es'.map (·.1) = es.map (·.1) ∨ (n ∉ es.map (·.1) ∧ es'.map (·.1) = es.map (·.1) ++ [n]) := by
  induction h with
  | nil => exact .inr ⟨by simp, rfl⟩
  | here => exact .inl rfl
  | there hm _ ih =>
    rcases ih with ih | ⟨h1, h2⟩
    · exact .inl (by simp [ih])
    · refine .inr ⟨?_, by simp [h2]⟩
      simp only [List.map_cons, List.mem_cons, not_or]
      exact ⟨fun e => by rw [e] at hm; simp at hm, h1⟩
theorem Put.nodup {n : Str} {v : Value} {es es' : List (Str × Value)} (h : Put n v es es') (hn : (es.map (·.1)).Nodup) : (es'.map (·.1)).Nodup := by
  rcases h.keys with e | ⟨h1, e⟩
  · (first | (refine rwG e ?_; try (with_reducible rfl)) | rw [e]); exact hn
  · (first | (refine rwG e ?_; try (with_reducible rfl)) | rw [e])
    exact List.nodup_append.mpr ⟨hn, by simp, fun a ha b hb => by
      simp only [List.mem_singleton] at hb
      subst hb
      exact fun z => h1 (z ▸ ha)⟩
theorem bnd_mem {es : List (Str × Value)} {n : Str} {v : Value} (hn : (es.map (·.1)).Nodup) (hm : (n, v) ∈ es) : bnd es n = some v := by
  unfold bnd
  induction es with
  | nil => cases hm
  | cons e r ih =>
    rw [List.map_cons, List.nodup_cons] at hn
    simp only [List.find?_cons]
    rcases List.mem_cons.mp hm with e' | hm
    · (first | (refine rwG e'.symm ?_; try (with_reducible rfl)) | rw [← e']); simp
    · cases q : e.1 == n with
      | true =>
        have : e.1 = n := by simpa using q
        exact absurd (this ▸ List.mem_map_of_mem (f := (·.1)) hm) hn.1
      | false => exact ih hn.2 hm
inductive Ext (q : Addr × AO) : Hp → Hp → Prop
  | here {r} : Ext q (q :: r) r
  | there {p r r'} : Ext q r r' → Ext q (p :: r) (p :: r')
theorem ex0 {q : Addr × AO} {r : Hp} : Ext q (q :: r) r := .here
theorem ex1 {q q0 : Addr × AO} {r : Hp} : Ext q (q0 :: q :: r) (q0 :: r) := .there ex0
theorem ex2 {q q0 q1 : Addr × AO} {r : Hp} : Ext q (q0 :: q1 :: q :: r) (q0 :: q1 :: r) := .there ex1
theorem ex3 {q q0 q1 q2 : Addr × AO} {r : Hp} : Ext q (q0 :: q1 :: q2 :: q :: r) (q0 :: q1 :: q2 :: r) := .there ex2
theorem ex4 {q q0 q1 q2 q3 : Addr × AO} {r : Hp} : Ext q (q0 :: q1 :: q2 :: q3 :: q :: r) (q0 :: q1 :: q2 :: q3 :: r) := .there ex3
theorem ex5 {q q0 q1 q2 q3 q4 : Addr × AO} {r : Hp} : Ext q (q0 :: q1 :: q2 :: q3 :: q4 :: q :: r) (q0 :: q1 :: q2 :: q3 :: q4 :: r) := .there ex4
theorem ex6 {q q0 q1 q2 q3 q4 q5 : Addr × AO} {r : Hp} : Ext q (q0 :: q1 :: q2 :: q3 :: q4 :: q5 :: q :: r) (q0 :: q1 :: q2 :: q3 :: q4 :: q5 :: r) := .there ex5
theorem ex7 {q q0 q1 q2 q3 q4 q5 q6 : Addr × AO} {r : Hp} : Ext q (q0 :: q1 :: q2 :: q3 :: q4 :: q5 :: q6 :: q :: r) (q0 :: q1 :: q2 :: q3 :: q4 :: q5 :: q6 :: r) := .there ex6
theorem ex8 {q q0 q1 q2 q3 q4 q5 q6 q7 : Addr × AO} {r : Hp} : Ext q (q0 :: q1 :: q2 :: q3 :: q4 :: q5 :: q6 :: q7 :: q :: r) (q0 :: q1 :: q2 :: q3 :: q4 :: q5 :: q6 :: q7 :: r) := .there ex7
theorem ex9 {q q0 q1 q2 q3 q4 q5 q6 q7 q8 : Addr × AO} {r : Hp} : Ext q (q0 :: q1 :: q2 :: q3 :: q4 :: q5 :: q6 :: q7 :: q8 :: q :: r) (q0 :: q1 :: q2 :: q3 :: q4 :: q5 :: q6 :: q7 :: q8 :: r) := .there ex8
theorem ex10 {q q0 q1 q2 q3 q4 q5 q6 q7 q8 q9 : Addr × AO} {r : Hp} : Ext q (q0 :: q1 :: q2 :: q3 :: q4 :: q5 :: q6 :: q7 :: q8 :: q9 :: q :: r) (q0 :: q1 :: q2 :: q3 :: q4 :: q5 :: q6 :: q7 :: q8 :: q9 :: r) := .there ex9
theorem ex11 {q q0 q1 q2 q3 q4 q5 q6 q7 q8 q9 q10 : Addr × AO} {r : Hp} : Ext q (q0 :: q1 :: q2 :: q3 :: q4 :: q5 :: q6 :: q7 :: q8 :: q9 :: q10 :: q :: r) (q0 :: q1 :: q2 :: q3 :: q4 :: q5 :: q6 :: q7 :: q8 :: q9 :: q10 :: r) := .there ex10
theorem ex12 {q q0 q1 q2 q3 q4 q5 q6 q7 q8 q9 q10 q11 : Addr × AO} {r : Hp} : Ext q (q0 :: q1 :: q2 :: q3 :: q4 :: q5 :: q6 :: q7 :: q8 :: q9 :: q10 :: q11 :: q :: r) (q0 :: q1 :: q2 :: q3 :: q4 :: q5 :: q6 :: q7 :: q8 :: q9 :: q10 :: q11 :: r) := .there ex11
theorem ex13 {q q0 q1 q2 q3 q4 q5 q6 q7 q8 q9 q10 q11 q12 : Addr × AO} {r : Hp} : Ext q (q0 :: q1 :: q2 :: q3 :: q4 :: q5 :: q6 :: q7 :: q8 :: q9 :: q10 :: q11 :: q12 :: q :: r) (q0 :: q1 :: q2 :: q3 :: q4 :: q5 :: q6 :: q7 :: q8 :: q9 :: q10 :: q11 :: q12 :: r) := .there ex12
theorem ex14 {q q0 q1 q2 q3 q4 q5 q6 q7 q8 q9 q10 q11 q12 q13 : Addr × AO} {r : Hp} : Ext q (q0 :: q1 :: q2 :: q3 :: q4 :: q5 :: q6 :: q7 :: q8 :: q9 :: q10 :: q11 :: q12 :: q13 :: q :: r) (q0 :: q1 :: q2 :: q3 :: q4 :: q5 :: q6 :: q7 :: q8 :: q9 :: q10 :: q11 :: q12 :: q13 :: r) := .there ex13
theorem ex15 {q q0 q1 q2 q3 q4 q5 q6 q7 q8 q9 q10 q11 q12 q13 q14 : Addr × AO} {r : Hp} : Ext q (q0 :: q1 :: q2 :: q3 :: q4 :: q5 :: q6 :: q7 :: q8 :: q9 :: q10 :: q11 :: q12 :: q13 :: q14 :: q :: r) (q0 :: q1 :: q2 :: q3 :: q4 :: q5 :: q6 :: q7 :: q8 :: q9 :: q10 :: q11 :: q12 :: q13 :: q14 :: r) := .there ex14
theorem Ext.perm {q : Addr × AO} {σ r : Hp} (h : Ext q σ r) : σ.Perm (q :: r) := by
  induction h with
  | here => exact .refl _
  | there _ ih => exact (ih.cons _).trans (.swap ..)
inductive Pick : Hp → Hp → Prop
  | refl {σ} : Pick σ σ
  | drop {q σ σ'} : Pick σ' σ → Pick σ' (q :: σ)
  | take {q σ r σ'} : Ext q σ r → Pick σ' r → Pick (q :: σ') σ
  | nil {σ} : Pick [] σ
inductive Lft (P : Hp → Hp) (q : Hp → Prop) (σ : Hp) : Prop
  | mk (τ : Hp) (hp : Pick (P τ) σ) (h : q τ)
inductive OutQ {β : Type} (Q : β → Hp → Prop) (f : β) (σ : Hp) : Prop
  | mk (σ' : Hp) (hp : Pick σ' σ) (h : Q f σ')
theorem Pick.spec {σ' σ : Hp} (h : Pick σ' σ) : ∃ τ, σ.Perm τ ∧ σ'.Sublist τ := by
  induction h with
  | refl => exact ⟨_, .refl _, .refl _⟩
  | drop _ ih => obtain ⟨τ, h1, h2⟩ := ih; exact ⟨_ :: τ, h1.cons _, h2.cons _⟩
  | take h _ ih => obtain ⟨τ, h1, h2⟩ := ih; exact ⟨_ :: τ, h.perm.trans (h1.cons _), h2.cons_cons _⟩
  | nil => exact ⟨_, .refl _, List.nil_sublist _⟩
section
variable {X : Cx} {A : Around} {α β γ δ : Type} {σ : Hp} {E : Value → Shared → Prop} {env : Env}
theorem Rel.pick {σ' : Hp} {s : Shared} (R : Rel X σ s) (h : Pick σ' σ) : Rel X σ' s := by
  obtain ⟨τ, h1, h2⟩ := h.spec
  exact (R.perm h1).sublist h2
theorem W_pick {f : α → β} {t : Sem α} {σ' : Hp} {Q : β → Hp → Prop} (h : Pick σ' σ) (k : W X A f t σ' Q E) : W X A f t σ Q E := fun s R => k s (R.pick h)
theorem W.post {f : α → β} {t : Sem α} {Q Q' : β → Hp → Prop} (h : W X A f t σ Q E) (k : ∀ b σ', Q b σ' → OutQ Q' b σ') : W X A f t σ Q' E :=
  fun s R => wpAny_mono (h s R) (fun _ _ ⟨σ', R', q⟩ => let ⟨σ'', h1, h2⟩ := k _ _ q; ⟨σ'', R'.pick h1, h2⟩) fun _ _ e => e
structure Rm (n : Nat) (A : Around) : Prop where
  handled : A.handled = none
  depth : A.depth + n < 1000
  units : A.units + 20 * n < 9900
theorem u20 {n m k u : Nat} (h : k + 20 * n ≤ 20 * m) (l : u + 20 * m < 9900) : u + k + 20 * n < 9900 := Nat.lt_of_le_of_lt (Nat.add_assoc u k _ ▸ Nat.add_le_add_left h u) l
theorem u20' {k n : Nat} (h : k ≤ 20) : k + 20 * n ≤ 20 * (n + 1) := Nat.add_comm _ k ▸ Nat.add_le_add_left h _
theorem Rm.le {n m : Nat} (h : Rm n A) (l : m ≤ n) : Rm m A := ⟨h.handled, Nat.lt_of_le_of_lt (Nat.add_le_add_left l _) h.depth, Nat.lt_of_le_of_lt (Nat.add_le_add_left (Nat.mul_le_mul_left _ l) _) h.units⟩
theorem Rm.in1 {n : Nat} (h : Rm (n + 1) A) : Rm n A.in1 := ⟨h.handled, Nat.lt_of_succ_lt h.depth, u20 (u20' (by decide)) h.units⟩
theorem Rm.deeper {n : Nat} (h : Rm (n + 1) A) (env : Env) : Rm n (A.deeper env) := ⟨h.handled, Nat.add_right_comm A.depth 1 n ▸ h.depth, u20 (u20' (by decide)) h.units⟩
theorem Rm.room {n : Nat} (h : Rm n A) : A.depth < recursionLimit := Nat.lt_of_le_of_lt (Nat.le_add_right ..) h.depth
theorem Rm.line {n : Nat} (h : Rm n A) : A.units < cLine := Nat.lt_of_le_of_lt (Nat.le_add_right ..) h.units
noncomputable abbrev EV (X : Cx) (A : Around) (env : Env) (E : Value → Shared → Prop) (e : Expr) (σ : Hp) (Q : Value → Hp → Prop) : Prop := W X A er (eval e env) σ Q E
noncomputable def BIN (X : Cx) (A : Around) (E : Value → Shared → Prop) (op : Operator) (a b : Value) (σ : Hp) (Q : Value → Hp → Prop) : Prop :=
  ∀ a' b', er a' = a → er b' = b → W X A er (binaryOp op a' b') σ Q E
noncomputable def IOP (X : Cx) (A : Around) (E : Value → Shared → Prop) (op : Operator) (a b : Value) (σ : Hp) (Q : Value → Hp → Prop) : Prop :=
  ∀ a' b', er a' = a → er b' = b → W X A er (inplaceOp op a' b') σ Q E
noncomputable def CMP (X : Cx) (A : Around) (E : Value → Shared → Prop) (op : CmpOp) (a b : Value) (σ : Hp) (Q : Value → Hp → Prop) : Prop :=
  ∀ a' b', er a' = a → er b' = b → W X A er (compareOp op a' b') σ Q E
noncomputable def TRU (X : Cx) (A : Around) (E : Value → Shared → Prop) (a : Value) (σ : Hp) (Q : Bool → Hp → Prop) : Prop :=
  ∀ a', er a' = a → W X A id (truthy a') σ Q E
noncomputable def UNA (X : Cx) (A : Around) (E : Value → Shared → Prop) (op : UnaryOp) (a : Value) (σ : Hp) (Q : Value → Hp → Prop) : Prop :=
  ∀ a', er a' = a → W X A er (unaryOp op a') σ Q E
noncomputable def CW (X : Cx) (A : Around) (E : Value → Shared → Prop) (f : Value) (vs : List Value) (σ : Hp) (Q : Value → Hp → Prop) : Prop :=
  ∀ vs', vs'.map er = vs → W X A er (call f vs') σ Q E
noncomputable abbrev TE (X : Cx) (A : Around) (env : Env) (E : Value → Shared → Prop) (e : Expr) (σ : Hp) (Q : Bool → Hp → Prop) : Prop := W X A id (isTrue e env (eval e env)) σ Q E
noncomputable abbrev EX (X : Cx) (A : Around) (env : Env) (E : Value → Shared → Prop) (st : Stmt) (σ : Hp) (Q : Flow → Hp → Prop) : Prop := W X A erF (exec st env) σ Q E
noncomputable abbrev XS (X : Cx) (A : Around) (env : Env) (E : Value → Shared → Prop) (st : List Stmt) (σ : Hp) (Q : Flow → Hp → Prop) : Prop := W X A erF (execs st env) σ Q E
theorem EV_int {i : Int} {k pos} {Q : Value → Hp → Prop} (q : Q (I i) σ) : EV X A env E (.Constant (.int i) k pos) σ Q := fun s R => wpAny_Constant_int ⟨σ, R.toks, q⟩
theorem EV_str {x : Str} {k pos} {Q : Value → Hp → Prop} (q : Q (S x) σ) : EV X A env E (.Constant (.str x) k pos) σ Q := fun s R => wpAny_Constant_str ⟨σ, R.toks, q⟩
theorem EV_bool {b : Bool} {k pos} {Q : Value → Hp → Prop} (q : Q (.bool b) σ) : EV X A env E (.Constant (.bool b) k pos) σ Q := fun s R => wpAny_Constant_bool ⟨σ, R, q⟩
theorem EV_none {k pos} {Q : Value → Hp → Prop} (q : Q .none σ) : EV X A env E (.Constant .none k pos) σ Q := fun s R => wpAny_Constant_none ⟨σ, R, q⟩
inductive NsOf (s : Shared) (a : Addr) (es : List (Str × Value)) : Prop
  | mk (m : Str → Option Value) (hn : s.heap.Ns1 a m) (hd : (es.map (·.1)).Nodup) (he : ∀ n, (m n).map er = bnd es n)
theorem Rel.ns {s : Shared} (R : Rel X σ s) {a : Addr} {es : List (Str × Value)} (hm : (a, AO.ns es) ∈ σ) : NsOf s a es := by
  obtain ⟨p, o, _, ho, hn, ents, ep, hd, hk, hu, hl⟩ := R.get hm
  exact ⟨nsFind ents, ⟨o, ents, ep, ho, hd, hk, hu, fun _ => rfl⟩, hn, hl⟩
theorem loadName_L {x : Str} {es : List (Str × Value)} {v : Value} {Q : Value → Hp → Prop} (hk : env.scope.kind = .function) (hl : env.kindOf x = some .local) (hm : (env.locals, AO.ns es) ∈ σ) (hv : (x, v) ∈ es) (q : Q v σ) :
    W X A er (loadName env x) σ Q E := fun s R => by
  obtain ⟨m, hn, hd, he⟩ := R.ns hm
  have h1 := he x
  rw [bnd_mem hd hv] at h1
  obtain ⟨v', h2, h3⟩ := Option.map_eq_some_iff.mp h1
  exact wpAny_loadName_local hk hl hn.ns h2 ⟨σ, R, h3 ▸ q⟩
theorem EV_local {x : Str} {pos : Pos} {es : List (Str × Value)} {v : Value} {Q : Value → Hp → Prop} (hk : env.scope.kind = .function) (hl : env.kindOf x = some .local) (hd : (x == ("__debug__" : Str)) = false) (hm : (env.locals, AO.ns es) ∈ σ) (hv : (x, v) ∈ es) (q : Q v σ) :
    EV X A env E (.Name x pos) σ Q := fun s R => wpAny_Name (loadName_L hk hl hm hv q s R) hd
structure GlobIs (X : Cx) (x : Str) (v : Value) : Prop where
  at_ : ∃ v', X.mg x = some v' ∧ er v' = v
structure BltnIs (X : Cx) (x : Str) (v : Value) : Prop where
  no : X.mg x = none
  at_ : ∃ v', X.mb x = some v' ∧ er v' = v
theorem loadName_global {x : Str} (hk : env.scope.kind = .function) (hl : env.kindOf x = some .globalImplicit) : loadName env x = loadGlobal env x := loadName_read hk hl
theorem EV_global {x : Str} {pos : Pos} {v : Value} {Q : Value → Hp → Prop} (G : GlobIs X x v) (hk : env.scope.kind = .function) (hl : env.kindOf x = some .globalImplicit) (hd : (x == ("__debug__" : Str)) = false) (hg : env.globals = mainGlobals) (q : Q v σ) :
    EV X A env E (.Name x pos) σ Q := fun s R => by
  obtain ⟨v', h2, h3⟩ := G.at_
  refine wpAny_Name ?_ hd
  rw [loadName_global hk hl]
  exact loadGlobal_global (hg ▸ X.g.keeps R.keep) h2 ⟨σ, R, h3 ▸ q⟩
theorem EV_builtin {x : Str} {pos : Pos} {v : Value} {Q : Value → Hp → Prop} (G : BltnIs X x v) (hk : env.scope.kind = .function) (hl : env.kindOf x = some .globalImplicit) (hd : (x == ("__debug__" : Str)) = false) (hg : env.globals = mainGlobals) (hb : env.builtins = builtinsNs) (q : Q v σ) :
    EV X A env E (.Name x pos) σ Q := fun s R => by
  obtain ⟨v', h4, h5⟩ := G.at_
  refine wpAny_Name ?_ hd
  rw [loadName_global hk hl]
  exact loadGlobal_builtin (hg ▸ X.g.keeps R.keep) G.no (hb ▸ X.b.keeps R.keep) h4 ⟨σ, R, h5 ▸ q⟩
theorem Rel.cell {s : Shared} (R : Rel X σ s) {c : Addr} {v : Option Value} (hm : (c, AO.cell v) ∈ σ) : ∃ v', s.heap.IsCell c v' ∧ v'.map er = v := by
  obtain ⟨p, o, _, ho, v', hd, he⟩ := R.get hm
  exact ⟨v', ⟨o, ho, hd⟩, he⟩
theorem loadName_C {x : Str} {c : Addr} {v : Value} {Q : Value → Hp → Prop} (hk : env.scope.kind = .function) (hl : env.kindOf x = some .cell ∨ env.kindOf x = some .free) (hn : (x == ("__classdict__" : Str)) = false)
    (hc : env.cells.lookup x = some c) (hm : (c, AO.cell (some v)) ∈ σ) (q : Q v σ) : W X A er (loadName env x) σ Q E := fun s R => by
  obtain ⟨v', h1, h2⟩ := R.cell hm
  cases v' with
  | none => cases h2
  | some v' =>
    have h3 : er v' = v := Option.some.inj h2
    rcases hl with hl | hl
    · exact wpAny_loadName_cell hk hl hc h1 ⟨σ, R, h3 ▸ q⟩
    · exact wpAny_loadName_free hk hl hc h1 ⟨σ, R, h3 ▸ q⟩ hn
theorem EV_cell {x : Str} {pos : Pos} {c : Addr} {v : Value} {Q : Value → Hp → Prop} (hk : env.scope.kind = .function) (hl : env.kindOf x = some .cell) (hd : (x == ("__debug__" : Str)) = false) (hn : (x == ("__classdict__" : Str)) = false)
    (hc : env.cells.lookup x = some c) (hm : (c, AO.cell (some v)) ∈ σ) (q : Q v σ) : EV X A env E (.Name x pos) σ Q := fun s R => wpAny_Name (loadName_C hk (.inl hl) hn hc hm q s R) hd
theorem EV_free {x : Str} {pos : Pos} {c : Addr} {v : Value} {Q : Value → Hp → Prop} (hk : env.scope.kind = .function) (hl : env.kindOf x = some .free) (hd : (x == ("__debug__" : Str)) = false) (hn : (x == ("__classdict__" : Str)) = false)
    (hc : env.cells.lookup x = some c) (hm : (c, AO.cell (some v)) ∈ σ) (q : Q v σ) : EV X A env E (.Name x pos) σ Q := fun s R => wpAny_Name (loadName_C hk (.inr hl) hn hc hm q s R) hd
noncomputable def locOk (env : Env) (x : Str) : Bool := env.scope.kind == .function && (env.kindOf x == some .local && !(x == ("__debug__" : Str)))
theorem locOk.all {env : Env} {x : Str} (h : locOk env x = true) : env.scope.kind = .function ∧ env.kindOf x = some .local ∧ (x == ("__debug__" : Str)) = false := by
  unfold locOk at h
  rw [Bool.and_eq_true, Bool.and_eq_true, beq_iff_eq, beq_iff_eq, Bool.not_eq_true'] at h
  exact h
theorem EV_loc {x : Str} {pos : Pos} {es : List (Str × Value)} {v : Value} {Q : Value → Hp → Prop} (h : locOk env x = true) (hm : (env.locals, AO.ns es) ∈ σ) (hv : (x, v) ∈ es) (q : Q v σ) : EV X A env E (.Name x pos) σ Q :=
  EV_local (locOk.all h).1 (locOk.all h).2.1 (locOk.all h).2.2 hm hv q
theorem ns_conc {p : Addr → Option Obj} {h : Heap} {a : Addr} {m : Str → Option Value} {es : List (Str × Value)} (hn : h.Ns1 a m) (hd : (es.map (·.1)).Nodup) (he : ∀ n, (m n).map er = bnd es n) : ∃ o, h.get? a = some o ∧ Conc p (.ns es) o := by
  obtain ⟨o, ents, ep, ho, hd', hk, hu, hl⟩ := hn
  exact ⟨o, ho, hd, ents, ep, hd', hk, hu, fun n => by (first | (refine rwG hl ?_; try (with_reducible rfl)) | rw [hl]); exact he n⟩
theorem Put.conc {n : Str} {v : Value} {es es' : List (Str × Value)} {m : Str → Option Value} (hp : Put n (er v) es es') (he : ∀ n, (m n).map er = bnd es n) (x : Str) : ((if x = n then some v else m x) : Option Value).map er = bnd es' x := by
  rw [hp.look]
  by_cases e : x = n
  · ((first | refine ifP e ?_ | rw [if_pos e]); (first | refine ifP e ?_ | rw [if_pos e])); rfl
  · ((first | refine ifN e ?_ | rw [if_neg e]); (first | refine ifN e ?_ | rw [if_neg e])); exact he x
theorem nsSet_W {a : Addr} {x : Str} {es es' : List (Str × Value)} {v : Value} {σ' : Hp} {Q : Unit → Hp → Prop} (hc : Chg a (.ns es) (.ns es') σ σ') (hp : Put x (er v) es es') (q : Q () σ') :
    W X A id (nsSet a x v) σ Q E := fun s R => by
  obtain ⟨pre, post, rfl, rfl⟩ := hc.split
  obtain ⟨m, hn, hd, he⟩ := R.ns (es := es) (a := a) (List.mem_append_right _ (.head _))
  refine wpAny_nsSet1 hn (fun h' hn' hs => ?_)
  obtain ⟨o', ho', hc'⟩ := ns_conc (p := fun _ => none) hn' (hp.nodup hd) (hp.conc he)
  exact ⟨_, R.upd (x' := .ns es') hs ho' (fun _ _ => hc'), q⟩
theorem storeName_L {x : Str} {es es' : List (Str × Value)} {v : Value} {σ' : Hp} {Q : Unit → Hp → Prop} (hk : env.scope.kind = .function) (hl : env.kindOf x = some .local) (hc : Chg env.locals (.ns es) (.ns es') σ σ') (hp : Put x (er v) es es') (q : Q () σ') :
    W X A id (storeName env x v) σ Q E := by
  rw [storeName_local hl (by rw [hk]; rfl)]
  exact nsSet_W hc hp q
theorem storeName_C {x : Str} {c : Addr} {v₀ : Option Value} {v : Value} {σ' : Hp} {Q : Unit → Hp → Prop} (hk : env.scope.kind = .function) (hl : env.kindOf x = some .cell) (he : env.cells.lookup x = some c) (hc : Chg c (.cell v₀) (.cell (some (er v))) σ σ') (q : Q () σ') :
    W X A id (storeName env x v) σ Q E := fun s R => by
  obtain ⟨pre, post, rfl, rfl⟩ := hc.split
  obtain ⟨v', h1, h2⟩ := R.cell (c := c) (v := v₀) (List.mem_append_right _ (.head _))
  refine wpAny_storeName_cell hk hl he h1 (fun h' hc' hs => ?_)
  obtain ⟨o', ho', hd'⟩ := hc'
  exact ⟨_, R.upd (tk := s.toks) (x' := .cell (some (er v))) hs ho' (fun _ _ => ⟨_, hd', rfl⟩), q⟩
noncomputable def ST (X : Cx) (A : Around) (env : Env) (E : Value → Shared → Prop) (x : Str) (v : Value) (σ : Hp) (Q : Hp → Prop) : Prop :=
  ∀ v', er v' = v → W X A id (storeName env x v') σ (fun _ σ' => Q σ') E
theorem ST_local {x : Str} {es es' : List (Str × Value)} {v : Value} {σ' : Hp} {Q : Hp → Prop} (hk : env.scope.kind = .function) (hl : env.kindOf x = some .local) (hc : Chg env.locals (.ns es) (.ns es') σ σ') (hp : Put x v es es') (q : Q σ') : ST X A env E x v σ Q :=
  fun v' e => storeName_L hk hl hc (e ▸ hp) q
theorem ST_loc {x : Str} {es es' : List (Str × Value)} {v : Value} {σ' : Hp} {Q : Hp → Prop} (h : locOk env x = true) (hc : Chg env.locals (.ns es) (.ns es') σ σ') (hp : Put x v es es') (q : Q σ') : ST X A env E x v σ Q :=
  ST_local (locOk.all h).1 (locOk.all h).2.1 hc hp q
theorem ST_cell {x : Str} {c : Addr} {v₀ : Option Value} {v : Value} {σ' : Hp} {Q : Hp → Prop} (hk : env.scope.kind = .function) (hl : env.kindOf x = some .cell) (he : env.cells.lookup x = some c) (hc : Chg c (.cell v₀) (.cell (some v)) σ σ') (q : Q σ') : ST X A env E x v σ Q :=
  fun v' e => storeName_C hk hl he (e ▸ hc) q
end
section
variable {X : Cx} {A : Around} {α β γ δ : Type} {σ : Hp} {E : Value → Shared → Prop} {env : Env}
theorem W.use {f : α → β} {t : Sem α} {Q : β → Hp → Prop} {P : α → Shared → Prop} {s : Shared} (h : W X A f t σ Q E) (R : Rel X σ s) (k : ∀ a s' σ', Rel X σ' s' → Q (f a) σ' → P a s') : wpAny (model X.prog X.w) A t P E s :=
  wpAny_mono (h s R) (fun a s' ⟨σ', R', q⟩ => k a s' σ' R' q) fun _ _ e => e
noncomputable abbrev kBin2 (X : Cx) (A : Around) (E : Value → Shared → Prop) (op : Operator) (Q : Value → Hp → Prop) (a : Value) : Value → Hp → Prop := fun b σ => BIN X A E op a b σ Q
noncomputable abbrev kBin (X : Cx) (A : Around) (env : Env) (E : Value → Shared → Prop) (op : Operator) (r : Expr) (Q : Value → Hp → Prop) : Value → Hp → Prop := fun a σ => EV X A env E r σ (kBin2 X A E op Q a)
theorem EV_BinOp {l op r pos} {Q : Value → Hp → Prop} (h : EV X A env E l σ (kBin X A env E op r Q)) : EV X A env E (.BinOp l op r pos) σ Q := fun s R =>
  wpAny_BinOp (h.use R fun a s₁ σ₁ R₁ h₁ => h₁.use R₁ fun b s₂ σ₂ R₂ h₂ => h₂ a b rfl rfl s₂ R₂)
theorem EV_Cmp {l op r pos} {Q : Value → Hp → Prop} (hm : behindInMarks op r = false) (h : EV X A env E l σ (fun a σ₁ => EV X A env E r σ₁ (fun b σ₂ => CMP X A E op a b σ₂ Q))) : EV X A env E (.Compare l [op] [r] pos) σ Q := fun s R =>
  wpAny_Compare1 (h.use R fun a s₁ σ₁ R₁ h₁ => h₁.use R₁ fun b s₂ σ₂ R₂ h₂ => h₂ a b rfl rfl s₂ R₂) hm
theorem EV_Unary {op x pos} {Q : Value → Hp → Prop} (h : EV X A env E x σ (fun a σ₁ => UNA X A E op a σ₁ Q)) : EV X A env E (.UnaryOp op x pos) σ Q := fun s R =>
  wpAny_UnaryOp (h.use R fun a s₁ σ₁ R₁ h₁ => h₁ a rfl s₁ R₁)
theorem EV_IfExp {test body orelse pos} {Q : Value → Hp → Prop} (h : TE X A env E test σ (fun b σ₁ => if b then EV X A env E body σ₁ Q else EV X A env E orelse σ₁ Q)) : EV X A env E (.IfExp test body orelse pos) σ Q := fun s R =>
  wpAny_IfExp (h.use R fun b s₁ σ₁ R₁ h₁ => by
    cases b
    · (first | refine ifN Bool.false_ne_true ?_ | rw [if_neg Bool.false_ne_true])
      exact (show EV X A env E orelse σ₁ Q from by simpa using h₁) s₁ R₁
    · (first | refine ifP rfl ?_ | rw [if_pos rfl])
      exact (show EV X A env E body σ₁ Q from by simpa using h₁) s₁ R₁)
theorem EV_Or2 {x y : Expr} {pos : Pos} {Q : Value → Hp → Prop} (h : EV X A env E x σ (fun a σ₁ => TRU X A E a σ₁ (fun b σ₂ => if b then Q a σ₂ else EV X A env E y σ₂ Q))) : EV X A env E (.BoolOp .Or [x, y] pos) σ Q := fun s R => by
  show wpAny (model X.prog X.w) A (boolOp pos .Or [eval x env, eval y env]) _ E s
  refine wpAny_bind (h.use R fun a s₁ σ₁ R₁ h₁ => wpAny_bind (wpAny_standAt (wpAny_bind (wpAny_holding ((h₁ a rfl).use R₁ fun b s₂ σ₂ R₂ h₂ => ?_)))))
  cases b
  · exact (show EV X A env E y σ₂ Q from by simpa using h₂) s₂ R₂
  · exact wpAny_pure ⟨σ₂, R₂, by simpa using h₂⟩
noncomputable abbrev kTru (X : Cx) (A : Around) (E : Value → Shared → Prop) (Q : Bool → Hp → Prop) : Value → Hp → Prop := fun a σ => TRU X A E a σ Q
noncomputable abbrev kCmp2 (X : Cx) (A : Around) (E : Value → Shared → Prop) (op : CmpOp) (Q : Value → Hp → Prop) (a : Value) : Value → Hp → Prop := fun b σ => CMP X A E op a b σ Q
noncomputable abbrev kCmp (X : Cx) (A : Around) (env : Env) (E : Value → Shared → Prop) (op : CmpOp) (r : Expr) (Q : Value → Hp → Prop) : Value → Hp → Prop := fun a σ => EV X A env E r σ (kCmp2 X A E op Q a)
theorem TE_plain {e : Expr} {Q : Bool → Hp → Prop} (he : isTrue e env (eval e env) = (do let v ← eval e env; standAt e.pos; holding [v] (truthy v))) (h : EV X A env E e σ (kTru X A E Q)) : TE X A env E e σ Q := fun s R =>
  wpAny_isTrue_value (h.use R fun a s₁ σ₁ R₁ h₁ => h₁ a rfl s₁ R₁) he
theorem TE_not {x pos} {Q : Bool → Hp → Prop} (h : TE X A env E x σ (fun b σ₁ => Q (!b) σ₁)) : TE X A env E (.UnaryOp .Not x pos) σ Q := fun s R =>
  wpAny_isTrue_Not (h.use R fun b s₁ σ₁ R₁ q => ⟨σ₁, R₁, q⟩)
theorem TE_Cmp {l op r pos} {Q : Bool → Hp → Prop} (hm : behindInMarks op r = false) (h : EV X A env E l σ (kCmp X A env E op r (kTru X A E Q))) : TE X A env E (.Compare l [op] [r] pos) σ Q := fun s R =>
  wpAny_isTrue_Compare1 (h.use R fun a s₁ σ₁ R₁ h₁ => h₁.use R₁ fun b s₂ σ₂ R₂ h₂ => (h₂ a b rfl rfl).use R₂ fun c s₃ σ₃ R₃ h₃ => h₃ c rfl s₃ R₃) hm
theorem TE_IfExp {test body orelse pos} {Q : Bool → Hp → Prop} (h : TE X A env E test σ (fun b σ₁ => if b then TE X A env E body σ₁ Q else TE X A env E orelse σ₁ Q)) : TE X A env E (.IfExp test body orelse pos) σ Q := fun s R =>
  isTrue_IfExp (h.use R fun b s₁ σ₁ R₁ h₁ => by
    cases b
    · (first | refine ifN Bool.false_ne_true ?_ | rw [if_neg Bool.false_ne_true])
      exact (show TE X A env E orelse σ₁ Q from by simpa using h₁) s₁ R₁
    · (first | refine ifP rfl ?_ | rw [if_pos rfl])
      exact (show TE X A env E body σ₁ Q from by simpa using h₁) s₁ R₁)
noncomputable def ALL (X : Cx) (A : Around) (env : Env) (E : Value → Shared → Prop) : List Expr → Hp → (Bool → Hp → Prop) → Prop
  | [], σ, Q => Q true σ
  | e :: r, σ, Q => TE X A env E e σ (fun b σ₁ => if b then ALL X A env E r σ₁ Q else Q false σ₁)
noncomputable def ANY (X : Cx) (A : Around) (env : Env) (E : Value → Shared → Prop) : List Expr → Hp → (Bool → Hp → Prop) → Prop
  | [], σ, Q => Q false σ
  | e :: r, σ, Q => TE X A env E e σ (fun b σ₁ => if b then Q true σ₁ else ANY X A env E r σ₁ Q)
theorem ALL.to : ∀ {es : List Expr} {σ : Hp} {Q : Bool → Hp → Prop}, ALL X A env E es σ Q → W X A id (allTrue .And es env) σ Q E
  | [], _, _, h => fun s R => wpAny_allTrue_And_nil ⟨_, R, h⟩
  | e :: r, σ, Q, h => fun s R => wpAny_allTrue_And_cons ((show TE X A env E e σ (fun b σ₁ => if b then ALL X A env E r σ₁ Q else Q false σ₁) from h).use R fun b s₁ σ₁ R₁ h₁ => by
      cases b
      · exact ⟨σ₁, R₁, by simpa using h₁⟩
      · exact (ALL.to (show ALL X A env E r σ₁ Q from by simpa using h₁)) s₁ R₁)
theorem ANY.to : ∀ {es : List Expr} {σ : Hp} {Q : Bool → Hp → Prop}, ANY X A env E es σ Q → W X A id (allTrue .Or es env) σ Q E
  | [], _, _, h => fun s R => wpAny_allTrue_Or_nil ⟨_, R, h⟩
  | e :: r, σ, Q, h => fun s R => wpAny_allTrue_Or_cons ((show TE X A env E e σ (fun b σ₁ => if b then Q true σ₁ else ANY X A env E r σ₁ Q) from h).use R fun b s₁ σ₁ R₁ h₁ => by
      cases b
      · exact (ANY.to (show ANY X A env E r σ₁ Q from by simpa using h₁)) s₁ R₁
      · exact ⟨σ₁, R₁, by simpa using h₁⟩)
theorem TE_And {es pos} {Q : Bool → Hp → Prop} (h : ALL X A env E es σ Q) : TE X A env E (.BoolOp .And es pos) σ Q := fun s R => wpAny_isTrue_BoolOp (h.to s R)
theorem TE_Or {es pos} {Q : Bool → Hp → Prop} (h : ANY X A env E es σ Q) : TE X A env E (.BoolOp .Or es pos) σ Q := fun s R => wpAny_isTrue_BoolOp (h.to s R)
theorem TE_Cmp2 {l op₁ op₂ r₁ r₂ pos} {Q : Bool → Hp → Prop} (hm : lastMarks [op₁, op₂] [r₁, r₂] = false)
    (h : EV X A env E l σ (fun a σ₁ => EV X A env E r₁ σ₁ (fun b σ₂ => CMP X A E op₁ a b σ₂ (fun c σ₃ => TRU X A E c σ₃ (fun t σ₄ => if t then EV X A env E r₂ σ₄ (fun d σ₅ => CMP X A E op₂ b d σ₅ (fun c' σ₆ => TRU X A E c' σ₆ Q)) else Q false σ₄))))) :
    TE X A env E (.Compare l [op₁, op₂] [r₁, r₂] pos) σ Q 
 := fun s R => by
  refine isTrue_chain (ops := []) (rs := []) (h.use R fun a s₁ σ₁ R₁ h₁ => ?_) hm
  show wpAny (model X.prog X.w) A (testChain pos a [op₁, op₂] [eval r₁ env, eval r₂ env]) _ E s₁
  refine wpAny_bind (wpAny_holding (h₁.use R₁ fun b s₂ σ₂ R₂ h₂ => ?_))
  refine wpAny_bind (wpAny_standAt (wpAny_bind (wpAny_holding ((h₂ a b rfl rfl).use R₂ fun c s₃ σ₃ R₃ h₃ => ?_))))
  refine wpAny_bind (wpAny_release (wpAny_bind (wpAny_holding ((h₃ c rfl).use R₃ fun t s₄ σ₄ R₄ h₄ => ?_))))
  cases t
  · exact wpAny_pure ⟨σ₄, R₄, by simpa using h₄⟩
  · have h₄' : EV X A env E r₂ σ₄ (fun d σ₅ => CMP X A E op₂ (er b) d σ₅ (fun c' σ₆ => TRU X A E c' σ₆ Q)) := by simpa using h₄
    show wpAny (model X.prog X.w) A (testChain pos b [op₂] [eval r₂ env]) _ E s₄
    refine wpAny_bind (wpAny_holding (h₄'.use R₄ fun d s₅ σ₅ R₅ h₅ => wpAny_bind (wpAny_standAt ?_)))
    refine wpAny_bind (wpAny_operating ?_)
    exact (h₅ b d rfl rfl).use R₅ fun c' s₆ σ₆ R₆ h₆ => wpAny_holding (h₆ c' rfl s₆ R₆)
theorem TRU_bool {b : Bool} {Q : Bool → Hp → Prop} (q : Q b σ) : TRU X A E (.bool b) σ Q := fun a' e s R => by rw [er_bool e]; exact wpAny_truthy_bool ⟨σ, R, q⟩
theorem TRU_none {Q : Bool → Hp → Prop} (q : Q false σ) : TRU X A E .none σ Q := fun a' e s R => by rw [er_none e]; exact truthy_none ⟨σ, R, q⟩
noncomputable abbrev ES (X : Cx) (A : Around) (env : Env) (E : Value → Shared → Prop) (pos : Pos) (es : List Expr) (σ : Hp) (Q : List Value → Hp → Prop) : Prop := W X A (List.map er) (spliced (backTo pos (starEach es env))) σ Q E
theorem ES_nil {pos} {Q : List Value → Hp → Prop} (q : Q [] σ) : ES X A env E pos [] σ Q := fun s R => wpAny_items_nil ⟨σ, R, q⟩
noncomputable abbrev kEs2 (Q : List Value → Hp → Prop) (v : Value) : List Value → Hp → Prop := fun vs σ => Q (v :: vs) σ
noncomputable abbrev kEs (X : Cx) (A : Around) (env : Env) (E : Value → Shared → Prop) (pos : Pos) (r : List Expr) (Q : List Value → Hp → Prop) : Value → Hp → Prop := fun v σ => ES X A env E pos r σ (kEs2 Q v)
theorem ES_cons {pos e r} {Q : List Value → Hp → Prop} (he : starEach (e :: r) env = (false, eval e env) :: starEach r env) (h : EV X A env E e σ (kEs X A env E pos r Q)) : ES X A env E pos (e :: r) σ Q := fun s R =>
  wpAny_items_cons (h.use R fun v s₁ σ₁ R₁ h₁ => h₁.use R₁ fun vs s₂ σ₂ R₂ q => ⟨σ₂, R₂, q⟩) he
noncomputable def noStar : Expr → Bool
  | .Starred .. => false
  | _ => true
theorem ES_con {pos e r} {Q : List Value → Hp → Prop} (he : noStar e = true) (h : EV X A env E e σ (kEs X A env E pos r Q)) : ES X A env E pos (e :: r) σ Q :=
  ES_cons (by cases e <;> first | rfl | cases he) h
noncomputable def KP (X : Cx) (f : Value) (σ : Hp) : Prop := ∀ s, Rel X σ s → ∃ k, (k = Keeper.frame ∨ k = Keeper.machine ∨ k = Keeper.boundFrame) ∧ Looks (model X.prog X.w) s.heap (keeperOf f) k
theorem callWith_W {pos : Pos} {f : Value} {first : List Value} {args : List Expr} {Q : Value → Hp → Prop} (hst : (backTo pos (starEach args env)).all (fun x => !x.1) = true)
    (h : ES X A env E pos args σ (fun vs σ₁ => KP X f σ₁ ∧ CW X A E f (first.map er ++ vs) σ₁ Q)) : W X A er (callWith pos f first (backTo pos (starEach args env)) []) σ Q E := fun s R => by
  have hp : ((backTo pos (starEach args env)).any (·.1) || ([] : List (Option Str × Sem Value)).any (·.1.isNone)) = false := by
    rw [List.any_nil, Bool.or_false]
    rw [List.all_eq_true] at hst
    rw [List.any_eq_false]
    intro x hx
    have := hst x hx
    simpa using this
  refine callWith_of (P := fun h => ∃ k, (k = Keeper.frame ∨ k = Keeper.machine ∨ k = Keeper.boundFrame) ∧ Looks (model X.prog X.w) h (keeperOf f) k) hp (fun _ k => k) ?_
  have key : wpAny (model X.prog X.w) A (spliced (backTo pos (starEach args env))) (fun vs s₁ => (∃ k, (k = Keeper.frame ∨ k = Keeper.machine ∨ k = Keeper.boundFrame) ∧ Looks (model X.prog X.w) s₁.heap (keeperOf f) k) ∧
      wpAny (model X.prog X.w) A (call f (first ++ vs) []) (fun a s' => Ends X Q (er a) s') E s₁) E s :=
    h.use R fun vs s₁ σ₁ R₁ h₁ => ⟨h₁.1 s₁ R₁, h₁.2 (first ++ vs) (by rw [List.map_append]) s₁ R₁⟩
  cases ha : backTo pos (starEach args env) with
  | nil =>
    rw [ha] at key
    unfold evalArgs
    show wpAny _ A (spliced [] >>= _) _ E s
    refine wpAny_bind (wpAny_mono key (fun vs s' h' => wpAny_bind (wpAny_pure ?_)) fun _ _ x => x)
    refine wpAny_holding ?_
    exact wpAny_bind (wpAny_pure (wpAny_bind (wpAny_pure (wpAny_pure h'))))
  | cons x r =>
    obtain ⟨b, t⟩ := x
    rw [ha] at key hst
    have hb : b = false := by simpa using (List.all_eq_true.mp hst (b, t) (.head _))
    subst hb
    exact evalArgs_plain key
end
noncomputable def F0 : Value → Shared → Prop := fun _ _ => False
section
variable {X : Cx} {A : Around} {α β γ δ : Type} {σ : Hp} {E : Value → Shared → Prop} {env : Env}
theorem W.any {f : α → β} {t : Sem α} {Q : β → Hp → Prop} (h : W X A f t σ Q F0) : W X A f t σ Q E := h.monoE (fun _ _ q => q) fun _ _ e => e.elim
noncomputable def GA (X : Cx) (A : Around) (E : Value → Shared → Prop) (o : Value) (attr : Str) (σ : Hp) (Q : Value → Hp → Prop) : Prop := ∀ o', er o' = o → W X A er (getAttr o' attr true) σ Q E
noncomputable def SA (X : Cx) (A : Around) (E : Value → Shared → Prop) (o : Value) (attr : Str) (v : Value) (σ : Hp) (Q : Hp → Prop) : Prop := ∀ o' v', er o' = o → er v' = v → W X A id (setAttr o' attr v') σ (fun _ => Q) E
noncomputable def GM (X : Cx) (A : Around) (E : Value → Shared → Prop) (o : Value) (name : Str) (σ : Hp) (Q : Value × List Value → Hp → Prop) : Prop :=
  ∀ o' pl, er o' = o → W X A (fun fx : Value × List Value => (fx.1, fx.2.map er)) (getMethod o' name pl) σ Q E
noncomputable def SI (X : Cx) (A : Around) (E : Value → Shared → Prop) (o i v : Value) (σ : Hp) (Q : Hp → Prop) : Prop := ∀ o' i' v', er o' = o → er i' = i → er v' = v → W X A id (setItem o' i' v') σ (fun _ => Q) E
noncomputable def SUB (X : Cx) (A : Around) (E : Value → Shared → Prop) (value slice : Expr) (o i : Value) (σ : Hp) (Q : Value → Hp → Prop) : Prop := ∀ o' i', er o' = o → er i' = i → W X A er (subscriptTail value slice o' i') σ Q E
noncomputable def bare : Value → Bool
  | .ref _ => true
  | .builtin _ => true
  | .type _ => true
  | _ => false
theorem bare_eq {f f' : Value} (h : bare f = true) (e : er f' = f) : f' = f := by
  cases f <;> first | exact er_ref e | exact er_builtin e | exact er_type e | cases h
noncomputable abbrev kCall2 (X : Cx) (A : Around) (E : Value → Shared → Prop) (Q : Value → Hp → Prop) (f : Value) : List Value → Hp → Prop := fun vs σ => KP X f σ ∧ CW X A E f vs σ Q
noncomputable abbrev kCall (X : Cx) (A : Around) (env : Env) (E : Value → Shared → Prop) (pos : Pos) (args : List Expr) (Q : Value → Hp → Prop) : Value → Hp → Prop := fun f σ => bare f = true ∧ ES X A env E pos args σ (kCall2 X A E Q f)
theorem EV_Call {func args pos} {Q : Value → Hp → Prop} (he : eval (.Call func args [] pos) env = (do callWith pos (← eval func env) [] (backTo pos (starEach args env)) []))
    (hst : (backTo pos (starEach args env)).all (fun x => !x.1) = true)
    (h : EV X A env E func σ (kCall X A env E pos args Q)) : EV X A env E (.Call func args [] pos) σ Q := by
  refine W_congr he (W_bind (h.mono fun f σ₁ ⟨h1, h2⟩ f' e => ?_))
  obtain rfl := bare_eq h1 e
  exact callWith_W hst h2
theorem EV_CallN {x p args pos} {Q : Value → Hp → Prop} (hst : (backTo pos (starEach args env)).all (fun x => !x.1) = true)
    (h : EV X A env E (.Name x p) σ (kCall X A env E pos args Q)) : EV X A env E (.Call (.Name x p) args [] pos) σ Q := EV_Call (by rfl) hst h
noncomputable abbrev kMeth3 (X : Cx) (A : Around) (E : Value → Shared → Prop) (Q : Value → Hp → Prop) (fx : Value × List Value) : List Value → Hp → Prop := fun vs σ => KP X fx.1 σ ∧ CW X A E fx.1 (fx.2 ++ vs) σ Q
noncomputable abbrev kMeth2 (X : Cx) (A : Around) (env : Env) (E : Value → Shared → Prop) (pos : Pos) (args : List Expr) (Q : Value → Hp → Prop) : Value × List Value → Hp → Prop := fun fx σ => bare fx.1 = true ∧ ES X A env E pos args σ (kMeth3 X A E Q fx)
noncomputable abbrev kMeth (X : Cx) (A : Around) (env : Env) (E : Value → Shared → Prop) (name : Str) (pos : Pos) (args : List Expr) (Q : Value → Hp → Prop) : Value → Hp → Prop := fun ov σ => GM X A E ov name σ (kMeth2 X A env E pos args Q)
theorem EV_Meth {o name apos args pos pl} {Q : Value → Hp → Prop}
    (he : eval (.Call (.Attribute o name apos) args [] pos) env = (do
      let ov ← eval o env
      standAt apos.atName
      let (f, first) ← holding [ov] (getMethod ov name pl)
      callWith pos f first (backTo pos (starEach args env)) (backToKw pos (keywordEach [] env))))
    (hst : (backTo pos (starEach args env)).all (fun x => !x.1) = true)
    (h : EV X A env E o σ (kMeth X A env E name pos args Q)) :
    EV X A env E (.Call (.Attribute o name apos) args [] pos) σ Q := fun s R =>
  methodCall_KW (pl := pl) (h.use R fun ov s₁ σ₁ R₁ h₁ => (h₁ ov pl rfl).use R₁ fun fx s₂ σ₂ R₂ h₂ => callWith_W (f := fx.1) (first := fx.2) hst h₂.2 s₂ R₂) he
theorem EV_Attr {value attr pos} {Q : Value → Hp → Prop}
    (he : eval (.Attribute value attr pos) env = (do
      let o ← eval value env
      standAt pos.atName
      let r ← holding [o] (getAttr o attr true)
      letTemporaryGo value o r
      pure r))
    (h : EV X A env E value σ (fun o σ₁ => GA X A E o attr σ₁ Q)) : EV X A env E (.Attribute value attr pos) σ Q := fun s R =>
  Attribute_any_ (h.use R fun o s₁ σ₁ R₁ h₁ => h₁ o rfl s₁ R₁) he
noncomputable abbrev kSub2 (X : Cx) (A : Around) (E : Value → Shared → Prop) (value slice : Expr) (Q : Value → Hp → Prop) (o : Value) : Value → Hp → Prop := fun i σ => SUB X A E value slice o i σ Q
noncomputable abbrev kSub (X : Cx) (A : Around) (env : Env) (E : Value → Shared → Prop) (value slice : Expr) (Q : Value → Hp → Prop) : Value → Hp → Prop := fun o σ => EV X A env E slice σ (kSub2 X A E value slice Q o)
theorem EV_Sub {value slice pos} {Q : Value → Hp → Prop} (h : EV X A env E value σ (kSub X A env E value slice Q)) : EV X A env E (.Subscript value slice pos) σ Q := fun s R =>
  Subscript_ (h.use R fun o s₁ σ₁ R₁ h₁ => h₁.use R₁ fun i s₂ σ₂ R₂ h₂ => h₂ o i rfl rfl s₂ R₂)
theorem push_new {s : Shared} {x : AO} {o : Obj} {tk : Nat} (R : Rel X σ s) (hf : o.isFreed = false) (hc : ∀ p, Rel0 X p σ s → Conc p x o) : Rel X ((s.heap.objs.size, x) :: σ) { s with heap := s.heap.push o, toks := tk } :=
  R.new (by cases q : s.heap.get? s.heap.objs.size with | none => rfl | some o' => exact absurd (Heap.lt_size q) (Nat.lt_irrefl _)) (fun b o' e => Heap.get?_push_of_some _ e) (Heap.get?_push_size _ hf) hc
noncomputable abbrev kList (T : String) (Q : Value → Hp → Prop) : List Value → Hp → Prop := fun vs σ => vs.length ≤ sizeLine ∧ ∀ a, Q (.ref a) ((a, .seq T vs) :: σ)
theorem EV_List {elts pos} {Q : Value → Hp → Prop} (h : ES X A env E pos elts σ (kList "list" Q)) : EV X A env E (.List elts pos) σ Q := fun s R =>
  wpAny_List (h.use R fun vs s₁ σ₁ R₁ h₁ => ⟨by have := h₁.1; rwa [List.length_map] at this, _, push_new (x := .seq "list" (vs.map er)) (tk := s₁.toks) R₁ rfl (fun p _ => ⟨_, 0, rfl, by simp⟩), h₁.2 _⟩)
theorem EV_Tuple {elts k pos} {Q : Value → Hp → Prop} (h : ES X A env E pos elts σ (kList "tuple" Q)) : EV X A env E (.Tuple elts k pos) σ Q := fun s R =>
  wpAny_Tuple (h.use R fun vs s₁ σ₁ R₁ h₁ => ⟨by have := h₁.1; rwa [List.length_map] at this, _, push_new (x := .seq "tuple" (vs.map er)) (tk := s₁.toks) R₁ rfl (fun p _ => ⟨_, 0, rfl, by simp⟩), h₁.2 _⟩)
theorem XS_nil {Q : Flow → Hp → Prop} (q : Q .next σ) : XS X A env E [] σ Q := fun s R => wpAny_execs_nil ⟨σ, R, q⟩
noncomputable abbrev kXs (X : Cx) (A : Around) (env : Env) (E : Value → Shared → Prop) (rest : List Stmt) (Q : Flow → Hp → Prop) : Flow → Hp → Prop := fun f σ => match f with | .next => XS X A env E rest σ Q | f => Q f σ
theorem XS_cons {st rest} {Q : Flow → Hp → Prop} (h : EX X A env E st σ (kXs X A env E rest Q)) : XS X A env E (st :: rest) σ Q := fun s R =>
  wpAny_execs_cons (h.use R fun f s₁ σ₁ R₁ h₁ => by
    cases f with
    | next => exact (show XS X A env E rest σ₁ Q from h₁) s₁ R₁
    | _ => exact ⟨σ₁, R₁, h₁⟩)
noncomputable abbrev kAs (X : Cx) (A : Around) (env : Env) (E : Value → Shared → Prop) (x : Str) (Q : Flow → Hp → Prop) : Value → Hp → Prop := fun v σ => ST X A env E x v σ (Q .next)
theorem EX_Assign {x pos' value pos} {Q : Flow → Hp → Prop} (hs : swapsWith value (some (.Name x pos')) pos.line env = pure false) (h : EV X A env E value σ (kAs X A env E x Q)) :
    EX X A env E (.Assign [.Name x pos'] value pos) σ Q := fun s R =>
  wpAny_Assign_Name (h.use R fun v s₁ σ₁ R₁ h₁ => (h₁ v rfl).use R₁ fun _ s₂ σ₂ R₂ q => ⟨σ₂, R₂, q⟩) hs
theorem EX_AssignAttr {o attr pos' value pos} {Q : Flow → Hp → Prop} (hs : swapsWith value (some (.Attribute o attr pos')) pos.line env = pure false)
    (h : EV X A env E value σ (fun v σ₁ => EV X A env E o σ₁ (fun ov σ₂ => SA X A E ov attr v σ₂ (fun σ₃ => Q .next σ₃)))) : EX X A env E (.Assign [.Attribute o attr pos'] value pos) σ Q := fun s R =>
  plainObj_wpAny_Assign_Attribute (h.use R fun v s₁ σ₁ R₁ h₁ => h₁.use R₁ fun ov s₂ σ₂ R₂ h₂ => (h₂ ov v rfl rfl).use R₂ fun _ s₃ σ₃ R₃ q => ⟨σ₃, R₃, q⟩) hs
theorem EX_AssignSub {o i pos' value pos} {Q : Flow → Hp → Prop} (hs : swapsWith value (some (.Subscript o i pos')) pos.line env = pure false)
    (h : EV X A env E value σ (fun v σ₁ => EV X A env E o σ₁ (fun ov σ₂ => EV X A env E i σ₂ (fun iv σ₃ => SI X A E ov iv v σ₃ (fun σ₄ => Q .next σ₄))))) : EX X A env E (.Assign [.Subscript o i pos'] value pos) σ Q := fun s R =>
  wpAny_Assign_Subscript (h.use R fun v s₁ σ₁ R₁ h₁ => h₁.use R₁ fun ov s₂ σ₂ R₂ h₂ => h₂.use R₂ fun iv s₃ σ₃ R₃ h₃ => (h₃ ov iv v rfl rfl rfl).use R₃ fun _ s₄ σ₄ R₄ q => ⟨σ₄, R₄, q⟩) hs
noncomputable abbrev kAug2 (X : Cx) (A : Around) (E : Value → Shared → Prop) (op : Operator) (Q : Value → Hp → Prop) (a : Value) : Value → Hp → Prop := fun b σ => IOP X A E op a b σ Q
noncomputable abbrev kAug (X : Cx) (A : Around) (env : Env) (E : Value → Shared → Prop) (op : Operator) (r : Expr) (Q : Value → Hp → Prop) : Value → Hp → Prop := fun a σ => EV X A env E r σ (kAug2 X A E op Q a)
theorem EX_Aug {x pos' op value pos} {Q : Flow → Hp → Prop} (h : W X A er (loadName env x) σ (kAug X A env E op value (kAs X A env E x Q)) E) :
    EX X A env E (.AugAssign (.Name x pos') op value pos) σ Q := fun s R =>
  wpAny_AugAssign_Name (h.use R fun old s₁ σ₁ R₁ h₁ => h₁.use R₁ fun v s₂ σ₂ R₂ h₂ => (h₂ old v rfl rfl).use R₂ fun r s₃ σ₃ R₃ h₃ => (h₃ r rfl).use R₃ fun _ s₄ σ₄ R₄ q => ⟨σ₄, R₄, q⟩)
theorem EX_AugAttr {o value attr tpos pos op} {Q : Flow → Hp → Prop} (h : EV X A env E o σ (fun ov σ₁ => GA X A E ov attr σ₁ (fun old σ₂ => EV X A env E value σ₂ (fun v σ₃ => IOP X A E op old v σ₃ (fun r σ₄ => SA X A E ov attr r σ₄ (fun σ₅ => Q .next σ₅)))))) :
    EX X A env E (.AugAssign (.Attribute o attr tpos) op value pos) σ Q := fun s R =>
  wpAny_AugAssign_AttributeAny (h.use R fun ov s₁ σ₁ R₁ h₁ => (h₁ ov rfl).use R₁ fun old s₂ σ₂ R₂ h₂ => h₂.use R₂ fun v s₃ σ₃ R₃ h₃ => (h₃ old v rfl rfl).use R₃ fun r s₄ σ₄ R₄ h₄ => (h₄ ov r rfl rfl).use R₄ fun _ s₅ σ₅ R₅ q => ⟨σ₅, R₅, q⟩)
noncomputable abbrev kRet (Q : Flow → Hp → Prop) : Value → Hp → Prop := fun v σ => Q (.ret v) σ
theorem EX_Return {e pos} {Q : Flow → Hp → Prop} (h : EV X A env E e σ (kRet Q)) : EX X A env E (.Return (some e) pos) σ Q := fun s R =>
  wpAny_Return_some (h.use R fun v s₁ σ₁ R₁ q => ⟨σ₁, R₁, q⟩)
theorem EX_If {test body orelse pos} {Q : Flow → Hp → Prop} (h : TE X A env E test σ (fun b σ₁ => if b then XS X A env E body σ₁ Q else XS X A env E orelse σ₁ Q)) : EX X A env E (.If test body orelse pos) σ Q := fun s R =>
  wpAny_If (h.use R fun b s₁ σ₁ R₁ h₁ => by
    cases b
    · simp only [Bool.false_eq_true, if_false] at h₁ ⊢; exact h₁ s₁ R₁
    · simp only [if_true] at h₁ ⊢; exact h₁ s₁ R₁)
theorem EX_Continue {pos} {Q : Flow → Hp → Prop} (q : Q .cont σ) : EX X A env E (.Continue pos) σ Q := fun s R => wpAny_Continue ⟨σ, R, q⟩
noncomputable abbrev kExp (Q : Flow → Hp → Prop) : Value → Hp → Prop := fun v σ => v = .none ∧ Q .next σ
theorem EX_Expr {e pos} {Q : Flow → Hp → Prop} (hi : interactive env = false) (hs : swapsWith e none pos.line env = pure false) (h : EV X A env E e σ (kExp Q)) : EX X A env E (.Expr e pos) σ Q := fun s R =>
  wpAny_Expr (h.use R fun v s₁ σ₁ R₁ ⟨e, q⟩ => by obtain rfl := er_none e; exact ⟨σ₁, R₁, q⟩) hi hs
end
section
variable {X : Cx} {A : Around} {α β γ δ : Type} {σ : Hp} {E : Value → Shared → Prop} {env : Env}
theorem Rel.lim {s : Shared} (R : Rel X σ s) : s.heap.NoLimit := X.lim.keeps R.keep
noncomputable def BD (X : Cx) (A : Around) (env : Env) (E : Value → Shared → Prop) : List (Str × Value) → Hp → (Hp → Prop) → Prop
  | [], σ, K => K σ
  | (n, v) :: r, σ, K => ST X A env E n v σ (fun σ' => BD X A env E r σ' K)
noncomputable def CK : List (Str × NameKind) → List (Str × Addr) → Hp → (List (Str × Addr) → Hp → Prop) → Prop
  | [], cs, σ, K => K cs σ
  | (n, k) :: r, cs, σ, K => if k == .cell then ∀ c, CK r ((n, c) :: cs) ((c, .cell none) :: σ) K else CK r cs σ K
theorem CK_plain {names : List (Str × NameKind)} {cs : List (Str × Addr)} {σ : Hp} {K : List (Str × Addr) → Hp → Prop} (e : (names.all fun x => x.2 != .cell) = true) (h : K cs σ) : CK names cs σ K := by
  induction names with
  | nil => exact h
  | cons x r ih =>
    rw [List.all_cons, Bool.and_eq_true] at e
    have : (x.2 == NameKind.cell) = false := by have := e.1; simpa using this
    show if x.2 == .cell then _ else _
    ((first | (refine rwG this ?_; try (with_reducible rfl)) | rw [this]); (first | refine ifN Bool.false_ne_true ?_ | rw [if_neg Bool.false_ne_true]))
    exact ih e.2
theorem forIn_cells (f : Str × NameKind → List (Str × Addr) → Sem (ForInStep (List (Str × Addr))))
    (hf : ∀ name kind cells, f (name, kind) cells = if kind == .cell then (do let a ← alloc { cls := .type "cell", data := .cell none }; pure (.yield ((name, a) :: cells))) else pure (.yield cells))
    (names : List (Str × NameKind)) : ∀ (acc : List (Str × Addr)) (σ : Hp) (Q : List (Str × Addr) → Hp → Prop), CK names acc σ Q → W X A id (forIn names acc f) σ Q E := by
  induction names with
  | nil => intro acc σ Q h; rw [List.forIn_nil]; exact W_pure h
  | cons x r ih =>
    intro acc σ Q h s R
    rw [List.forIn_cons, hf]
    have h : if x.2 == .cell then ∀ c, CK r ((x.1, c) :: acc) ((c, .cell none) :: σ) Q else CK r acc σ Q := h
    cases hk : (x.2 == NameKind.cell) with
    | true =>
      rw [hk, if_pos rfl] at h
      (first | refine ifP rfl ?_ | rw [if_pos rfl])
      exact wpAny_bind (wpAny_bind (wpAny_alloc (wpAny_pure (ih _ _ Q (h _) _ (push_new (x := .cell none) (tk := s.toks) R rfl (fun p _ => ⟨none, rfl, rfl⟩))))))
    | false =>
      rw [hk, if_neg Bool.false_ne_true] at h
      (first | refine ifN Bool.false_ne_true ?_ | rw [if_neg Bool.false_ne_true])
      exact wpAny_bind (wpAny_pure (ih _ _ Q h s R))
theorem forIn_binds (f : Str × Value → PUnit → Sem (ForInStep PUnit)) (hf : ∀ n v u, f (n, v) u = (do storeName env n v; pure (.yield PUnit.unit)))
    (binds : List (Str × Value)) : ∀ (bs : List (Str × Value)) (σ : Hp) (K : Hp → Prop), binds.map (fun b => (b.1, er b.2)) = bs → BD X A env E bs σ K → W X A id (forIn binds PUnit.unit f) σ (fun _ σ' => K σ') E := by
  induction binds with
  | nil => intro bs σ K e h; subst e; rw [List.forIn_nil]; exact W_pure h
  | cons x r ih =>
    intro bs σ K e h
    subst e
    rw [List.forIn_cons, hf]
    refine W_bind (f := id) (W_bind (f := id) ((show ST X A env E x.1 (er x.2) σ _ from h) x.2 rfl |>.mono fun _ σ₁ h₁ _ _ => W_pure (f := id) ?_))
    intro a ea
    subst ea
    exact ih _ σ₁ K rfl h₁
theorem W_alloc {f : α → β} {o : Obj} {x : AO} {k : Addr → Sem α} {Q : β → Hp → Prop} (hf : o.isFreed = false) (hc : ∀ p, Conc p x o) (h : ∀ a, W X A f (k a) ((a, x) :: σ) Q E) : W X A f (alloc o >>= k) σ Q E := fun s R =>
  wpAny_bind (wpAny_alloc (h _ _ (push_new (tk := s.toks) R hf fun p _ => hc p)))
theorem newFunctionEnv_W {scope : Scope} {globals : Addr} {closure : List (Str × Addr)} {binds bs : List (Str × Value)} {qual : Str} {func : Option Addr} {code : Value} {around : Option Env} {builtins : Addr} {Q : Env → Hp → Prop}
    (hb : binds.map (fun b => (b.1, er b.2)) = bs)
    (h : ∀ L, CK scope.names closure ((L, .ns []) :: σ) (fun cs σ₁ => BD X A (newEnv scope L globals cs qual func code around builtins) E bs σ₁ (fun σ₂ => Q (newEnv scope L globals cs qual func code around builtins) σ₂))) :
    W X A id (newFunctionEnv scope globals closure binds qual func code around builtins) σ Q E := by
  unfold newFunctionEnv
  refine W_alloc (x := .ns []) rfl (fun p => ⟨List.nodup_nil, #[], 0, rfl, fun _ he => by simp at he, List.Pairwise.nil, fun _ => rfl⟩) fun L => ?_
  refine W_bind (f := id) ((forIn_cells _ ?hf scope.names closure _ _ (h L)).mono fun cs σ₁ h₁ cs' e => ?_)
  case hf => exact fun name kind cells => by cases hkc : kind == NameKind.cell <;> simp [hkc]
  subst e
  cases around with
  | none => exact W_bind (f := id) ((forIn_binds _ (fun _ _ _ => rfl) binds bs σ₁ _ hb h₁).mono fun _ σ₂ h₂ _ _ => W_pure h₂)
  | some o => exact W_bind (f := id) ((forIn_binds _ (fun _ _ _ => rfl) binds bs σ₁ _ hb h₁).mono fun _ σ₂ h₂ _ _ => W_pure h₂)
noncomputable def retv : Flow → Value
  | .ret v => v
  | _ => .none
noncomputable abbrev RetF (Q : Value → Hp → Prop) : Flow → Hp → Prop := fun fl σ => OutQ Q (retv fl) σ
theorem erF_retv (f : Flow) : retv (erF f) = er (match f with | .ret v => v | _ => .none) := by cases f <;> rfl
end
section
variable {X : Cx} {A : Around} {α β γ δ : Type} {σ : Hp} {E : Value → Shared → Prop} {env : Env}
theorem Rel.but {s : Shared} {a : Addr} {x : AO} {h' : Heap} {tk : Nat} (R : Rel X ((a, x) :: σ) s) (k : Heap.ExtBut a s.heap h') : Rel X σ { s with heap := h', toks := tk } := by
  obtain ⟨p, r⟩ := R
  have hn := r.nodup
  rw [List.map_cons, List.nodup_cons] at hn
  have ha := (r.has (a, x) (.head _)).1
  refine ⟨p, r.base, fun b o e => k b o (fun z => by rw [z, ha] at e; cases e) (r.keep b o e), fun q hq => ?_, hn.2, fun t ht => ?_, r.gens, r.os⟩
  · obtain ⟨h1, o, h2, h3⟩ := r.has q (.tail _ hq)
    exact ⟨h1, o, k _ _ (fun z => hn.1 (by show a ∈ _; (first | (refine rwG z.symm ?_; try (with_reducible rfl)) | rw [← z]); exact List.mem_map_of_mem hq)) h2, h3⟩
  · obtain ⟨h1, h2, ps, h3, h4⟩ := r.tabs t ht
    rw [List.map_cons] at h2
    exact ⟨h1, fun z => h2 (.tail _ z), ps, k _ _ (fun z => h2 (by (first | (refine rwG z ?_; try (with_reducible rfl)) | rw [z]); exact .head _)) h3, h4⟩
theorem Rel.upd0 {s : Shared} {a : Addr} {x x' : AO} {h' : Heap} {tk : Nat} {o' : Obj} (R : Rel X ((a, x) :: σ) s) (hs : Heap.SameBut a s.heap h') (ho : h'.get? a = some o') (hc : ∀ p, Conc p x' o') : Rel X ((a, x') :: σ) { s with heap := h', toks := tk } :=
  R.upd (pre := []) hs ho fun p _ => hc p
noncomputable def AS (X : Cx) (A : Around) (env : Env) (E : Value → Shared → Prop) (target : Expr) (v : Value) (σ : Hp) (Q : Hp → Prop) : Prop := ∀ v', er v' = v → W X A id (assign target env v') σ (fun _ => Q) E
noncomputable def LG (X : Cx) (A : Around) (E : Value → Shared → Prop) (target : Expr) (it : Addr) (v : Value) (σ : Hp) (Q : Hp → Prop) : Prop := ∀ v', er v' = v → W X A id (letOwnedTupleGo target (.ref it) v') σ (fun _ => Q) E
noncomputable abbrev NX (X : Cx) (A : Around) (E : Value → Shared → Prop) (it : Addr) (σ : Hp) (Q : Option Value → Hp → Prop) : Prop := W X A (Option.map er) (pyNext (.ref it)) σ Q E
noncomputable def PI (X : Cx) (A : Around) (E : Value → Shared → Prop) (x : Value) (σ : Hp) (Q : Value → Hp → Prop) : Prop := ∀ x', er x' = x → W X A er (pyIter x') σ Q E
noncomputable def Im (X : Cx) (σ σ' : Hp) : Prop := ∀ s, Rel X σ s → Rel X σ' s
theorem Pick.im {σ' σ : Hp} (h : Pick σ' σ) : Im X σ σ' := fun _ R => R.pick h
theorem Im.perm {σ' σ : Hp} (h : σ.Perm σ') : Im X σ σ' := fun _ R => R.perm h
theorem W_im {f : α → β} {t : Sem α} {σ' : Hp} {Q : β → Hp → Prop} (h : Im X σ σ') (k : W X A f t σ' Q E) : W X A f t σ Q E := fun s R => k s (h s R)
noncomputable abbrev LoopF (P : Hp → Hp) (N : Hp → Prop) (Q : Flow → Hp → Prop) : Flow → Hp → Prop := fun f σ => match f with
  | .next | .cont => Lft P N σ
  | .brk => OutQ Q .next σ
  | .ret v => OutQ Q (.ret v) σ
noncomputable def Turn (X : Cx) (A : Around) (env : Env) (target : Expr) (it : Addr) (body : List Stmt) (I : Nat → Hp → Prop) (Q : Flow → Hp → Prop) (n : Nat) (σ : Hp) : Prop :=
  NX X A F0 it σ (fun r σ₁ => match r with
    | none => ∃ σ', Im X σ₁ σ' ∧ Q .next σ'
    | some v => LG X A F0 target it v σ₁ (fun σ₂ => AS X A env F0 target v σ₂ (fun σ₃ => XS X A env F0 body σ₃ (fun f σ₄ => match f with
      | .next | .cont => ∃ m σ', Im X σ₄ σ' ∧ m < n ∧ I m σ'
      | .brk => ∃ σ', Im X σ₄ σ' ∧ Q .next σ'
      | .ret v => ∃ σ', Im X σ₄ σ' ∧ Q (.ret v) σ'))))
theorem forLoop_W {target : Expr} {it : Addr} {body : List Stmt} {R : Result → Shared → Prop} (I : Nat → Hp → Prop) (Q : Flow → Hp → Prop) (hR : ∀ f σ' s', Rel X σ' s' → Q (erF f) σ' → R (.ok f) s')
    (turn : ∀ n σ, I n σ → Turn X A env target it body I Q n σ) (n : Nat) (h : I n σ) (s : Shared) (r : Rel X σ s) :
    codeAny (model X.prog X.w) A (.forLoop target (.ref it) body [] env) R s := by
  refine codeAny_forLoop_any (fun n s => Ends X I n s) ?_ n ⟨σ, r, h⟩
  rintro n s ⟨σ, r, hI⟩
  refine wpAny_mono (turn n σ hI s r) (fun ov s₁ ⟨σ₁, R₁, h₁⟩ => ?_) fun _ _ x => x.elim
  cases ov with
  | none => obtain ⟨σ', hp, q⟩ := h₁; exact wpAny_execs_nil (hR .next _ _ (hp _ R₁) q)
  | some v =>
    refine wpAny_mono (h₁ v rfl s₁ R₁) (fun _ s₂ ⟨σ₂, R₂, h₂⟩ => ?_) fun _ _ x => x.elim
    refine wpAny_mono (h₂ v rfl s₂ R₂) (fun _ s₃ ⟨σ₃, R₃, h₃⟩ => ?_) fun _ _ x => x.elim
    refine wpAny_mono (h₃ s₃ R₃) (fun f s₄ ⟨σ₄, R₄, h₄⟩ => ?_) fun _ _ x => x.elim
    cases f with
    | next => obtain ⟨m, σ', hp, hm, hi⟩ := h₄; exact ⟨m, hm, σ', hp _ R₄, hi⟩
    | cont => obtain ⟨m, σ', hp, hm, hi⟩ := h₄; exact ⟨m, hm, σ', hp _ R₄, hi⟩
    | brk => obtain ⟨σ', hp, q⟩ := h₄; exact hR .next _ _ (hp _ R₄) q
    | ret v => obtain ⟨σ', hp, q⟩ := h₄; exact hR (.ret v) _ _ (hp _ R₄) q
inductive ForK (X : Cx) (A : Around) (env : Env) (target : Expr) (body : List Stmt) (Q : Flow → Hp → Prop) (i : Value) (σ : Hp) : Prop
  | mk (it : Addr) (e : i = .ref it) (I : Nat → Hp → Prop) (n : Nat) (h0 : I n σ) (turn : ∀ n σ, I n σ → Turn X A env target it body I Q n σ)
theorem EX_For {target iter body pos} {Q : Flow → Hp → Prop} (hs : ∀ x, foldedSetIterable iter env x = pure x)
    (h : EV X A env E iter σ (fun x σ₁ => PI X A E x σ₁ (ForK X A env target body Q))) :
    EX X A env E (.For target iter body [] pos) σ Q := fun s R =>
  wpAny_For (h.use R fun x s₁ σ₁ R₁ h₁ => (h₁ x rfl).use R₁ fun i s₂ σ₂ R₂ ⟨it, ei, I, n, hI, turn⟩ => by
    obtain rfl := er_ref ei
    exact forLoop_W I Q (fun f σ' s' r q => ⟨σ', r, q⟩) turn n hI s₂ R₂) hs
theorem AS_Name {x pos v} {Q : Hp → Prop} (h : ST X A env E x v σ Q) : AS X A env E (.Name x pos) v σ Q := fun v' e s R => wpAny_assign_Name (h v' e s R)
theorem LG_Name {x : Str} {pos : Pos} {it : Addr} {v : Value} {Q : Hp → Prop} (q : Q σ) : LG X A E (.Name x pos) it v σ Q := fun v' e => W_pure (f := id) q
noncomputable def AE (X : Cx) (A : Around) (env : Env) (E : Value → Shared → Prop) : List Expr → List Value → Hp → (Hp → Prop) → Prop
  | [], _, σ, K => K σ
  | _ :: _, [], σ, K => K σ
  | t :: ts, v :: vs, σ, K => AS X A env E t v σ (fun σ' => AE X A env E ts vs σ' K)
theorem assign_plain {t : Expr} {ts : List Expr} (h : noStar t = true) : assignEach (t :: ts) env = (false, assign t env) :: assignEach ts env := by
  cases t <;> first | rfl | cases h
set_option tactic.hygienic true in
theorem AE.to {ts : List Expr} (ht : ts.all noStar = true) : ∀ {vs vs' : List Value} {σ : Hp} {K : Hp → Prop}, vs'.map er = vs → AE X A env E ts vs σ K →
    W X A id (assignInOrder ((assignEach ts env).map (·.2)) vs') σ (fun _ => K) E := by
  induction ts with
  | nil => intro vs vs' σ K e h; cases vs' <;> exact W_pure (f := id) h
  | cons t ts ih =>
    intro vs vs' σ K e h
    rw [List.all_cons, Bool.and_eq_true] at ht
    rw [assign_plain ht.1]
    subst e
    cases vs' with
    | nil => exact W_pure (f := id) h
    | cons v' vs' =>
      refine W_bind (f := id) ?_
      have h' : AS X A env E t (er v') σ (fun σ' => AE X A env E ts (vs'.map er) σ' K) := h
      have key : W X A id (assign t env v') σ (fun b σ' => ∀ a, id a = b → W X A id (assignInOrder ((assignEach ts env).map (·.2)) vs') σ' (fun _ => K) E) E :=
        (h' v' rfl).mono fun _ σ₁ h₁ _ _ => ih ht.2 rfl h₁
      exact fun s R => wpAny_holding (key s R)
set_option tactic.hygienic true in
theorem findIdx_assignEach {ts : List Expr} (ht : ts.all noStar = true) : (assignEach ts env).findIdx? (·.1) = none ∧ (assignEach ts env).length = ts.length := by
  induction ts with
  | nil => exact ⟨rfl, rfl⟩
  | cons t ts ih =>
    rw [List.all_cons, Bool.and_eq_true] at ht
    obtain ⟨h1, h2⟩ := ih ht.2
    rw [assign_plain ht.1]
    refine ⟨?_, congrArg (· + 1) h2⟩
    rw [List.findIdx?_cons, h1]; rfl
inductive TupOf (s : Shared) (a : Addr) (T : String) (xs : List Value) : Prop
  | mk (items : Array Value) (n : Nat) (ho : s.heap.get? a = some { cls := .type T, data := .seq items n }) (he : items.toList.map er = xs)
theorem Rel.tup {s : Shared} (R : Rel X σ s) {a : Addr} {T : String} {xs : List Value} (hm : (a, AO.seq T xs) ∈ σ) : TupOf s a T xs := by
  obtain ⟨p, o, _, ho, items, n, hd, he⟩ := R.get hm
  exact ⟨items, n, hd ▸ ho, he⟩
theorem Rel.ext {s : Shared} {h' : Heap} {tk : Nat} (R : Rel X σ s) (k : Heap.ExtBut s.heap.objs.size s.heap h') : Rel X σ { s with heap := h', toks := tk } :=
  R.grow fun b o e => k b o (Nat.ne_of_lt (Heap.lt_size e)) e
theorem AS_TupleI {elts k pos t xs} {σ' : Hp} {Q : Hp → Prop} (hh : A.handled = none) (hm : (t, AO.seq "tuple" xs) ∈ σ) (hl : elts.length = xs.length) (hst : elts.all noStar = true)
    (him : Im X σ σ') (h : AE X A env E elts xs σ' Q) : AS X A env E (.Tuple elts k pos) (.ref t) σ Q := fun v' e s R => by
  obtain rfl := er_ref e
  rw [arm_assign_Tuple]
  refine wpAny_bind (wpAny_standAt ?_)
  obtain ⟨items, n, ho, he⟩ := R.tup hm
  obtain ⟨f1, f2⟩ := findIdx_assignEach (env := env) hst
  refine unpack_tuple hh ⟨_, ho, rfl, n, rfl⟩ (by rw [f2, hl, ← he, List.length_map, Array.length_toList]) f1 fun h' hx => ?_
  exact (h.to hst he) _ (him _ (R.ext (tk := s.toks) hx))
theorem AS_Tuple {elts k pos t xs} {Q : Hp → Prop} (hh : A.handled = none) (hm : (t, AO.seq "tuple" xs) ∈ σ) (hl : elts.length = xs.length) (hst : elts.all noStar = true)
    (h : AE X A env E elts xs σ Q) : AS X A env E (.Tuple elts k pos) (.ref t) σ Q := AS_TupleI hh hm hl hst (fun _ R => R) h
theorem EX_AssignTuple {elts k tpos value pos} {Q : Flow → Hp → Prop} (hs : swapsWithSole [.Tuple elts k tpos] value pos.line env = pure false) (hw : swappedStores [.Tuple elts k tpos] value env = pure none)
    (h : EV X A env E value σ (fun v σ₁ => AS X A env E (.Tuple elts k tpos) v σ₁ (fun σ₂ => Q .next σ₂))) : EX X A env E (.Assign [.Tuple elts k tpos] value pos) σ Q := fun s R =>
  Assign_Tuple (h.use R fun v s₁ σ₁ R₁ h₁ => (h₁ v rfl).use R₁ fun _ s₂ σ₂ R₂ q => ⟨σ₂, R₂, q⟩) hs hw
noncomputable abbrev LI (l : Addr) (i : Nat) : AO := .flds "list_iterator" #[.ref l, .int i 0]
noncomputable abbrev RI (x left step : Int) : AO := .obj { cls := .type "range_iterator", dict := none, data := .fields #[rawInt x, rawInt left, rawInt step], slots := #[] }
inductive ListOf (s : Shared) (a : Addr) (xs : List Value) : Prop
  | mk (items : Array Value) (hl : s.heap.IsList a items) (he : items.toList.map er = xs)
theorem Rel.isList {s : Shared} (R : Rel X σ s) {a : Addr} {xs : List Value} (hm : (a, AO.seq "list" xs) ∈ σ) : ListOf s a xs := by
  obtain ⟨items, n, ho, he⟩ := R.tup hm
  exact ⟨items, ⟨_, ho, rfl, n, rfl⟩, he⟩
theorem PI_list {l : Addr} {xs : List Value} {Q : Value → Hp → Prop} (hm : (l, AO.seq "list" xs) ∈ σ) (q : ∀ it, Q (.ref it) ((it, LI l 0) :: σ)) : PI X A E (.ref l) σ Q := fun x' e s R => by
  obtain rfl := er_ref e
  obtain ⟨items, hl, _⟩ := R.isList hm
  exact wpAny_pyIter_list hl ⟨_, push_new (x := LI l 0) (tk := s.toks) R rfl (fun p _ => ⟨rfl, rfl⟩), q _⟩
theorem NX_list {it l : Addr} {i : Nat} {xs : List Value} {Q : Option Value → Hp → Prop} (hh : A.handled = none) (hm : (l, AO.seq "list" xs) ∈ σ) (h1 : ∀ x, xs[i]? = some x → Q (some x) ((it, LI l (i + 1)) :: σ)) (h2 : xs[i]? = none → Q none σ) :
    NX X A E it ((it, LI l i) :: σ) Q := fun s R => by
  obtain ⟨items, hl, he⟩ := R.isList (.tail _ hm)
  obtain ⟨p, o, _, ho, hc, hd⟩ := R.get (.head _)
  have hit : s.heap.IsListIter it l i := ⟨o, ho, hc, hd⟩
  cases hx : items[i]? with
  | none => exact wpAny_pyNext_list_end hh hit hl hx fun h' k => ⟨σ, R.but (tk := s.toks) k, h2 (by rw [← he, List.getElem?_map, Array.getElem?_toList, hx]; rfl)⟩
  | some x =>
    refine wpAny_pyNext_list_item hit hl hx fun h' hit' hs => ?_
    obtain ⟨o', ho', hc', hd'⟩ := hit'
    exact ⟨_, R.upd0 (x' := LI l (i + 1)) (tk := s.toks) hs ho' (fun _ => ⟨hc', hd'⟩), h1 (er x) (by rw [← he, List.getElem?_map, Array.getElem?_toList, hx]; rfl)⟩
inductive ForListK (X : Cx) (A : Around) (env : Env) (target : Expr) (body : List Stmt) (I : Addr → List Value → Nat → Hp → Prop) (Q : Flow → Hp → Prop) (x : Value) (σ : Hp) : Prop
  | mk (l : Addr) (xs : List Value) (e : x = .ref l) (hl : ∀ i τ, I l xs i τ → (l, AO.seq "list" xs) ∈ τ) (h0 : I l xs 0 σ) (fin : ∀ τ, I l xs xs.length τ → Q .next τ)
    (turn : ∀ i (hi : i < xs.length) τ it, I l xs i τ → LG X A F0 target it xs[i] ((it, LI l (i + 1)) :: τ) (fun σ₂ => AS X A env F0 target xs[i] σ₂ (fun σ₃ => XS X A env F0 body σ₃ (LoopF (fun τ' => (it, LI l (i + 1)) :: τ') (I l xs (i + 1)) Q))))
theorem EX_ForList {target iter body pos} {Q : Flow → Hp → Prop} (hh : A.handled = none) (hs : ∀ x, foldedSetIterable iter env x = pure x) (I : Addr → List Value → Nat → Hp → Prop)
    (h : EV X A env E iter σ (ForListK X A env target body I Q)) : EX X A env E (.For target iter body [] pos) σ Q := by
  refine EX_For hs (h.mono fun x σ₁ ⟨l, xs, ex, hl, h0, fin, turn⟩ => ?_)
  subst ex
  refine PI_list (hl 0 _ h0) fun it => ⟨it, rfl, fun n τ => ∃ i τ', n = xs.length + 1 - i ∧ i ≤ xs.length ∧ τ = (it, LI l i) :: τ' ∧ I l xs i τ', xs.length + 1, ⟨0, σ₁, rfl, Nat.zero_le _, rfl, h0⟩, ?_⟩
  rintro n τ ⟨i, τ', rfl, hi, rfl, hI⟩
  unfold Turn
  refine NX_list hh (hl i _ hI) (fun x hx => ?_) fun hx => ⟨τ', fun _ R => R, ?_⟩
  · obtain ⟨hlt, rfl⟩ := List.getElem?_eq_some_iff.mp hx
    intro v' e
    refine (turn i hlt τ' it hI v' e).mono fun _ σ₂ h₂ v'' e'' => (h₂ v'' e'').mono fun _ σ₃ h₃ => h₃.mono fun f σ₄ h₄ => ?_
    cases f with
    | next => obtain ⟨τ'', hp, hI'⟩ := h₄; exact ⟨_, _, hp.im, dec1 hlt, i + 1, τ'', rfl, hlt, rfl, hI'⟩
    | cont => obtain ⟨τ'', hp, hI'⟩ := h₄; exact ⟨_, _, hp.im, dec1 hlt, i + 1, τ'', rfl, hlt, rfl, hI'⟩
    | brk => obtain ⟨σ', hp, q⟩ := h₄; exact ⟨σ', hp.im, q⟩
    | ret v => obtain ⟨σ', hp, q⟩ := h₄; exact ⟨σ', hp.im, q⟩
  · have : i = xs.length := Nat.le_antisymm hi (by simpa using hx)
    subst this
    exact fin _ hI
end
noncomputable abbrev tx (l : List Nat) : Str := ⟨l.toArray⟩
noncomputable abbrev T (l : List Nat) : Value := .str (tx l) 0
theorem tx_len (l : List Nat) : (tx l).length = l.length := by simp [Str.length]
theorem tx_append (a b : List Nat) : tx a ++ tx b = tx (a ++ b) := by
  apply Str.ext'; simp [Str.cps_append]
theorem tx_eq (a b : List Nat) : (tx a == tx b) = (a == b) := by
  by_cases h : a = b
  · subst h; simp
  · have : tx a ≠ tx b := fun e => h (by have := congrArg (fun s : Str => s.cps.toList) e; simpa using this)
    rw [beq_eq_false_iff_ne.mpr this, beq_eq_false_iff_ne.mpr h]
section
variable {X : Cx} {A : Around} {α β γ δ : Type} {σ : Hp} {E : Value → Shared → Prop} {env : Env}
theorem BIN_add {a b : Int} {Q : Value → Hp → Prop} (q : Q (I (a + b)) σ) : BIN X A E .Add (I a) (I b) σ Q := fun a' b' ea eb s R => by
  obtain ⟨t, rfl⟩ := er_int ea; obtain ⟨u, rfl⟩ := er_int eb; (with_reducible refine PyProof.Rows.add_int ?_); exact ⟨σ, R.toks, q⟩
theorem BIN_sub {a b : Int} {Q : Value → Hp → Prop} (q : Q (I (a - b)) σ) : BIN X A E .Sub (I a) (I b) σ Q := fun a' b' ea eb s R => by
  obtain ⟨t, rfl⟩ := er_int ea; obtain ⟨u, rfl⟩ := er_int eb; (with_reducible refine PyProof.Rows.sub_int ?_); exact ⟨σ, R.toks, q⟩
theorem BIN_mul {a b : Int} {Q : Value → Hp → Prop} (hm : IntMulOk a b) (q : Q (I (a * b)) σ) : BIN X A E .Mult (I a) (I b) σ Q := fun a' b' ea eb s R => by
  obtain ⟨t, rfl⟩ := er_int ea; obtain ⟨u, rfl⟩ := er_int eb; (with_reducible refine PyProof.Rows.mul_int ?_ hm); exact ⟨σ, R.toks, q⟩
theorem BIN_mod {a b : Int} {Q : Value → Hp → Prop} (hb : b ≠ 0) (q : Q (I (a.fmod b)) σ) : BIN X A E .Mod (I a) (I b) σ Q := fun a' b' ea eb s R => by
  obtain ⟨t, rfl⟩ := er_int ea; obtain ⟨u, rfl⟩ := er_int eb; (with_reducible refine PyProof.Rows.mod_int hb ?_); exact ⟨σ, R.toks, q⟩
theorem BIN_div {a b : Int} {Q : Value → Hp → Prop} (hb : b ≠ 0) (hp : Builtin.divisionGoesByPylong a b = false) (q : Q (I (a.fdiv b)) σ) : BIN X A E .FloorDiv (I a) (I b) σ Q := fun a' b' ea eb s R => by
  obtain ⟨t, rfl⟩ := er_int ea; obtain ⟨u, rfl⟩ := er_int eb; (with_reducible refine PyProof.Rows.floordiv_int hb ?_ (.inl hp)); exact ⟨σ, R.toks, q⟩
theorem BIN_pow {a b : Int} {Q : Value → Hp → Prop} (hb : 0 ≤ b) (hb2 : b ≤ 1000000) (ha : a.natAbs < 2 ^ 64) (q : Q (I (a ^ b.toNat)) σ) : BIN X A E .Pow (I a) (I b) σ Q := fun a' b' ea eb s R => by
  obtain ⟨t, rfl⟩ := er_int ea; obtain ⟨u, rfl⟩ := er_int eb; (with_reducible refine pow_int_small hb hb2 ha ?_); exact ⟨σ, R.toks, q⟩
theorem BIN_and {a b : Int} {Q : Value → Hp → Prop} (q : Q (I (Builtin.bitAnd a b)) σ) : BIN X A E .BitAnd (I a) (I b) σ Q := fun a' b' ea eb s R => by
  obtain ⟨t, rfl⟩ := er_int ea; obtain ⟨u, rfl⟩ := er_int eb; (with_reducible refine PyProof.Rows.and_int ?_); exact ⟨σ, R.toks, q⟩
theorem BIN_adds {a b : List Nat} {Q : Value → Hp → Prop} (hz : a.length + b.length ≤ sizeLine) (q : Q (T (a ++ b)) σ) : BIN X A E .Add (T a) (T b) σ Q := fun a' b' ea eb s R => by
  obtain ⟨t, rfl⟩ := er_str ea; obtain ⟨u, rfl⟩ := er_str eb
  (with_reducible refine PyProof.Rows.add_str ?_ (by ((first | (refine rwG tx_len ?_; try (with_reducible rfl)) | rw [tx_len]); (first | (refine rwG tx_len ?_; try (with_reducible rfl)) | rw [tx_len])); exact hz)); exact (fun t' tk => ⟨σ, R.toks, by rw [tx_append]; exact q⟩)
theorem IOP_add {a b : Int} {Q : Value → Hp → Prop} (q : Q (I (a + b)) σ) : IOP X A E .Add (I a) (I b) σ Q := fun a' b' ea eb s R => by
  obtain ⟨t, rfl⟩ := er_int ea; obtain ⟨u, rfl⟩ := er_int eb; (with_reducible refine PyProof.Rows.iadd_int ?_); exact ⟨σ, R.toks, q⟩
theorem IOP_sub {a b : Int} {Q : Value → Hp → Prop} (q : Q (I (a - b)) σ) : IOP X A E .Sub (I a) (I b) σ Q := fun a' b' ea eb s R => by
  obtain ⟨t, rfl⟩ := er_int ea; obtain ⟨u, rfl⟩ := er_int eb; (with_reducible refine PyProof.Rows.isub_int ?_); exact ⟨σ, R.toks, q⟩
theorem IOP_or {a b : Int} {Q : Value → Hp → Prop} (q : Q (I (Builtin.bitOr a b)) σ) : IOP X A E .BitOr (I a) (I b) σ Q := fun a' b' ea eb s R => by
  obtain ⟨t, rfl⟩ := er_int ea; obtain ⟨u, rfl⟩ := er_int eb; (with_reducible refine PyProof.Rows.ior_int ?_); exact ⟨σ, R.toks, q⟩
theorem IOP_shl {a b : Int} {Q : Value → Hp → Prop} (hn : 0 ≤ b) (hsz : (Builtin.Int.intBits a : Int) + b ≤ 2 ^ 27) (q : Q (I (a * 2 ^ b.toNat)) σ) : IOP X A E .LShift (I a) (I b) σ Q := fun a' b' ea eb s R => by
  obtain ⟨t, rfl⟩ := er_int ea; obtain ⟨u, rfl⟩ := er_int eb; (with_reducible refine PyProof.Rows.ilshift_int hn hsz ?_); exact ⟨σ, R.toks, q⟩
theorem IOP_adds {a b : List Nat} {Q : Value → Hp → Prop} (hz : a.length + b.length ≤ sizeLine) (q : Q (T (a ++ b)) σ) : IOP X A E .Add (T a) (T b) σ Q := fun a' b' ea eb s R => by
  obtain ⟨t, rfl⟩ := er_str ea; obtain ⟨u, rfl⟩ := er_str eb
  (with_reducible refine PyProof.Rows.iadd_str ?_ (by ((first | (refine rwG tx_len ?_; try (with_reducible rfl)) | rw [tx_len]); (first | (refine rwG tx_len ?_; try (with_reducible rfl)) | rw [tx_len])); exact hz)); exact (fun t' tk => ⟨σ, R.toks, by rw [tx_append]; exact q⟩)
theorem CMP_eq {a b : Int} {Q : Value → Hp → Prop} (q : Q (.bool (a == b)) σ) : CMP X A E .Eq (I a) (I b) σ Q := fun a' b' ea eb s R => by
  obtain ⟨t, rfl⟩ := er_int ea; obtain ⟨u, rfl⟩ := er_int eb; (with_reducible refine PyProof.Rows.eq_int ?_); exact ⟨σ, R, q⟩
theorem CMP_ne {a b : Int} {Q : Value → Hp → Prop} (q : Q (.bool (a != b)) σ) : CMP X A E .NotEq (I a) (I b) σ Q := fun a' b' ea eb s R => by
  obtain ⟨t, rfl⟩ := er_int ea; obtain ⟨u, rfl⟩ := er_int eb; (with_reducible refine PyProof.Rows.ne_int ?_); exact ⟨σ, R, q⟩
theorem CMP_lt {a b : Int} {Q : Value → Hp → Prop} (q : Q (.bool (decide (a < b))) σ) : CMP X A E .Lt (I a) (I b) σ Q := fun a' b' ea eb s R => by
  obtain ⟨t, rfl⟩ := er_int ea; obtain ⟨u, rfl⟩ := er_int eb; (with_reducible refine PyProof.Rows.lt_int ?_); exact ⟨σ, R, q⟩
theorem CMP_le {a b : Int} {Q : Value → Hp → Prop} (q : Q (.bool (decide (a ≤ b))) σ) : CMP X A E .LtE (I a) (I b) σ Q := fun a' b' ea eb s R => by
  obtain ⟨t, rfl⟩ := er_int ea; obtain ⟨u, rfl⟩ := er_int eb; (with_reducible refine PyProof.Rows.le_int ?_); exact ⟨σ, R, q⟩
theorem CMP_gt {a b : Int} {Q : Value → Hp → Prop} (q : Q (.bool (decide (a > b))) σ) : CMP X A E .Gt (I a) (I b) σ Q := fun a' b' ea eb s R => by
  obtain ⟨t, rfl⟩ := er_int ea; obtain ⟨u, rfl⟩ := er_int eb; (with_reducible refine PyProof.Rows.gt_int ?_); exact ⟨σ, R, q⟩
theorem CMP_ge {a b : Int} {Q : Value → Hp → Prop} (q : Q (.bool (decide (a ≥ b))) σ) : CMP X A E .GtE (I a) (I b) σ Q := fun a' b' ea eb s R => by
  obtain ⟨t, rfl⟩ := er_int ea; obtain ⟨u, rfl⟩ := er_int eb; (with_reducible refine PyProof.Rows.ge_int ?_); exact ⟨σ, R, q⟩
theorem CMP_eqs {a b : List Nat} {Q : Value → Hp → Prop} (q : Q (.bool (a == b)) σ) : CMP X A E .Eq (T a) (T b) σ Q := fun a' b' ea eb s R => by
  obtain ⟨t, rfl⟩ := er_str ea; obtain ⟨u, rfl⟩ := er_str eb
  exact PyProof.Rows.eq_str ⟨σ, R, by (first | (refine rwG tx_eq ?_; try (with_reducible rfl)) | rw [tx_eq]); exact q⟩
theorem CMP_nes {a b : List Nat} {Q : Value → Hp → Prop} (q : Q (.bool (a != b)) σ) : CMP X A E .NotEq (T a) (T b) σ Q := fun a' b' ea eb s R => by
  obtain ⟨t, rfl⟩ := er_str ea; obtain ⟨u, rfl⟩ := er_str eb
  exact PyProof.Rows.ne_str ⟨σ, R, by show Q (.bool (tx a != tx b)) σ; unfold bne; (first | (refine rwG tx_eq ?_; try (with_reducible rfl)) | rw [tx_eq]); exact q⟩
theorem CMP_les {a b : List Nat} {Q : Value → Hp → Prop} (q : Q (.bool (!decide (b < a))) σ) : CMP X A E .LtE (T a) (T b) σ Q := fun a' b' ea eb s R => by
  obtain ⟨t, rfl⟩ := er_str ea; obtain ⟨u, rfl⟩ := er_str eb
  (with_reducible refine PySem.P.le_str ?_); exact ⟨σ, R, by show Q (.bool _) σ; simpa using q⟩
theorem CMP_ins {a b : List Nat} {Q : Value → Hp → Prop} (q : Q (.bool !(Builtin.Str.occurrences (tx b) (tx a) 0 (tx b).length 1).isEmpty) σ) : CMP X A E .In (T a) (T b) σ Q := fun a' b' ea eb s R => by
  obtain ⟨t, rfl⟩ := er_str ea; obtain ⟨u, rfl⟩ := er_str eb
  (with_reducible refine PyProof.Rows.in_str ?_); exact ⟨σ, R, q⟩
theorem TRU_int {a : Int} {Q : Bool → Hp → Prop} (q : Q (a != 0) σ) : TRU X A E (I a) σ Q := fun a' ea s R => by
  obtain ⟨t, rfl⟩ := er_int ea
  (with_reducible refine PyProof.Rows.truthy_int ?_); exact ⟨σ, R, q⟩
theorem TRU_str {a : List Nat} {Q : Bool → Hp → Prop} (hz : a.length ≤ sizeLine) (q : Q (!a.isEmpty) σ) : TRU X A E (T a) σ Q := fun a' ea s R => by
  obtain ⟨t, rfl⟩ := er_str ea
  have h2 := sizeLine_eq
  (with_reducible refine PySem.P.truthy_str (by (first | (refine rwG tx_len ?_; try (with_reducible rfl)) | rw [tx_len]); (first | lia | omega)) ?_); exact ⟨σ, R.toks, by
    have : (((tx a).length : Int) != 0) = !a.isEmpty := by (first | (refine rwG tx_len ?_; try (with_reducible rfl)) | rw [tx_len]); cases a <;> simp <;> (first | lia | omega)
    show Q _ σ
    (first | (refine rwG this ?_; try (with_reducible rfl)) | rw [this]); exact q⟩
theorem TRU_list {l : Addr} {xs : List Value} {Q : Bool → Hp → Prop} (hm : (l, AO.seq "list" xs) ∈ σ) (hz : xs.length ≤ sizeLine) (q : Q (!xs.isEmpty) σ) : TRU X A E (.ref l) σ Q := fun a' ea s R => by
  obtain rfl := er_ref ea
  obtain ⟨items, hl, he⟩ := R.isList hm
  have h2 := sizeLine_eq
  have h3 : items.size = xs.length := by rw [← he, List.length_map, Array.length_toList]
  exact wpAny_truthy_list hl (by (first | lia | omega)) ⟨σ, R.toks, by
    have : (!items.isEmpty) = !xs.isEmpty := by (first | (refine rwG he.symm ?_; try (with_reducible rfl)) | rw [← he]); obtain ⟨l⟩ := items; cases l <;> rfl
    show Q _ σ
    (first | (refine rwG this ?_; try (with_reducible rfl)) | rw [this]); exact q⟩
end
section
variable {X : Cx} {A : Around} {α β γ δ : Type} {σ : Hp} {E : Value → Shared → Prop} {env : Env}
theorem Rel.kin {s : Shared} (R : Rel X σ s) : X.K.In s.heap := X.kin.keeps R.keep
theorem Rel.obj {s : Shared} (R : Rel X σ s) {a : Addr} {o : Obj} (hm : (a, AO.obj o) ∈ σ) : s.heap.get? a = some o := by
  obtain ⟨p, o', _, ho, hc⟩ := R.get hm
  ((first | (refine rwG ho ?_; try (with_reducible rfl)) | rw [ho]); (first | (refine rwG hc ?_; try (with_reducible rfl)) | rw [hc]))
theorem KP_builtin {i : String} : KP X (.builtin i) σ := fun s _ => ⟨.machine, .inr (.inl rfl), .now⟩
theorem KP_type {i : String} : KP X (.type i) σ := fun s _ => ⟨.machine, .inr (.inl rfl), .now⟩
theorem KP_base {f : Value} (h : keepIn X.K f = true) : KP X f σ := fun s R => keeps_K h s.heap R.kin
theorem KP_fn {f : Addr} {q ps b sc cl d} (hm : (f, AO.fn q ps b sc cl d) ∈ σ) : KP X (.ref f) σ := fun s R => by
  obtain ⟨p, o, _, ho, h1, h2, fd, c, h3, _⟩ := R.get hm
  refine ⟨.frame, .inl rfl, (Looks.ld (part := none) ho).andThen ?_⟩
  (first | (refine rwG h3 ?_; try (with_reducible rfl)) | rw [h3]); exact .now
structure PC (X : Cx) (C : Addr) : Prop where
  ga : findIn X.K (.ref C) "__getattribute__" = some (some (.builtin "object.__getattribute__"))
  gk : findIn X.K (.ref C) "__getattr__" = some none
  hd : hasDictIn X.K C = true
  sa : findIn X.K (.ref C) "__setattr__" = some (some (.builtin "object.__setattr__"))
  po : plainOver X.K C = true
structure PM (X : Cx) (C : Addr) (n : Str) (f : Addr) : Prop where
  at_ : findIn X.K (.ref C) n = some (some (.ref f))
  ty : typeIn X.K (.ref f) = some (.type "function")
  gt : specialIn X.K (.ref f) "__get__" = some (some (.builtin "function.__get__"))
  nt : takesIn X.K (.ref f) = some false
  nc : copiedNames.contains n = false
  kp : keepIn X.K (.ref f) = true
theorem lookIn_ns {n : Str} {o : Obj} {ents : Array DictEntry} {ep : Nat} (hd : o.data = .dict ents ep) (hk : StrKeys ents) : lookIn n o = some (nsFind ents n) := by
  unfold lookIn
  (first | (refine rwG hd ?_; try (with_reducible rfl)) | rw [hd])
  dsimp only
  unfold nsFind findBy
  rw [← Array.find?_toList]
  cases q : ents.toList.find? (·.key.isStr n) with
  | some e => rfl
  | none =>
    have : ents.toList.any (·.refKey) = false := by
      rw [List.any_eq_false]
      intro e he
      obtain ⟨m, t, ke⟩ := hk e (Array.mem_toList_iff.mp he)
      simp [DictEntry.refKey, ke]
    simp [this]
noncomputable abbrev inst (C dx : Addr) : AO := .obj (instObj C dx)
theorem Rel.inst {s : Shared} (R : Rel X σ s) {x C dx : Addr} {es : List (Str × Value)} (hx : (x, Mine.inst C dx) ∈ σ) (hd : (dx, AO.ns es) ∈ σ) :
    ∃ od, PySem.W.InstAt s.heap x (instObj C dx) C (some od) ∧ s.heap.get? dx = some od ∧ ∀ n, ∃ r, lookIn n od = some r ∧ r.map er = bnd es n := by
  obtain ⟨p, o, _, ho, hn, ents, ep, hd', hk, hu, hl⟩ := R.get hd
  exact ⟨o, ⟨R.obj hx, rfl, rfl, ho⟩, ho, fun n => ⟨_, lookIn_ns hd' hk, hl n⟩⟩
theorem GA_own {x C dx : Addr} {es : List (Str × Value)} {n : Str} {v : Value} {Q : Value → Hp → Prop} (P : PC X C) (hn : findIn X.K (.ref C) n = some none) (hx : (x, inst C dx) ∈ σ) (hd : (dx, AO.ns es) ∈ σ) (hv : (n, v) ∈ es) (hh : handedIn v = true) (q : Q v σ) :
    GA X A E (.ref x) n σ Q := fun o' e s R => by
  obtain rfl := er_ref e
  obtain ⟨od, hI, _, hl⟩ := R.inst hx hd
  obtain ⟨r, h1, h2⟩ := hl n
  have hnd : (es.map (·.1)).Nodup := by obtain ⟨_, _, _, _, h, _⟩ := R.get hd; exact h
  rw [bnd_mem hnd hv] at h2
  obtain ⟨v', rfl, h3⟩ := Option.map_eq_some_iff.mp h2
  refine get_value R.kin hI P.ga (findObj_own P.hd hn rfl h1) (by subst h3; cases v' <;> first | rfl | exact hh) ⟨σ, R.toks, h3 ▸ q⟩
theorem bnd_none {es : List (Str × Value)} {n : Str} (h : (es.all fun e => !(e.1 == n)) = true) : bnd es n = none := by
  unfold bnd
  rw [Option.map_eq_none_iff, List.find?_eq_none]
  intro e he
  have := List.all_eq_true.mp h e he
  simpa using this
theorem GM_fn {x C dx f : Addr} {es : List (Str × Value)} {n : Str} {Q : Value × List Value → Hp → Prop} (P : PC X C) (M : PM X C n f) (hx : (x, inst C dx) ∈ σ) (hd : (dx, AO.ns es) ∈ σ) (hv : (es.all fun e => !(e.1 == n)) = true) (q : Q (.ref f, [.ref x]) σ) :
    GM X A E (.ref x) n σ Q := fun o' pl e s R => by
  obtain rfl := er_ref e
  obtain ⟨od, hI, _, hl⟩ := R.inst hx hd
  obtain ⟨r, h1, h2⟩ := hl n
  rw [bnd_none hv] at h2
  obtain rfl : r = none := by simpa using h2
  exact method_fn R.kin hI P.ga P.gk M.at_ M.ty (by show (lookIn n od).map _ = _; (first | (refine rwG h1 ?_; try (with_reducible rfl)) | rw [h1]); rfl) ⟨σ, R, q⟩
theorem GA_bound {x C dx f : Addr} {es : List (Str × Value)} {n : Str} {Q : Value → Hp → Prop} (P : PC X C) (M : PM X C n f) (hx : (x, inst C dx) ∈ σ) (hd : (dx, AO.ns es) ∈ σ) (hv : (es.all fun e => !(e.1 == n)) = true)
    (q : ∀ m, Q (.ref m) ((m, .obj (methodObj (.ref f) (.ref x))) :: σ)) : GA X A E (.ref x) n σ Q := fun o' e s R => by
  obtain rfl := er_ref e
  obtain ⟨od, hI, _, hl⟩ := R.inst hx hd
  obtain ⟨r, h1, h2⟩ := hl n
  rw [bnd_none hv] at h2
  obtain rfl : r = none := by simpa using h2
  exact get_bind R.kin hI P.ga (findObj_fn P.hd M.at_ M.gt M.nt M.nc h1) P.gk
    (wpAny_call (fn_get (s := { s with toks := s.toks + 1 }) R.kin M.ty (handed_on rfl ⟨_, push_new (x := .obj (methodObj (.ref f) (.ref x))) (tk := s.toks + 1) (R.toks (tk := s.toks + 1)) rfl (fun _ _ => rfl), q _⟩)))
theorem ns_count {s : Shared} (R : Rel X σ s) {a : Addr} {es : List (Str × Value)} (hm : (a, AO.ns es) ∈ σ) : ∃ m, s.heap.Ns1 a m ∧ (es.map (·.1)).Nodup ∧ (∀ n, (m n).map er = bnd es n) ∧ Within m (es.map (·.1)) := by
  obtain ⟨m, h1, h2, h3⟩ := R.ns hm
  refine ⟨m, h1, h2, h3, fun x hx => ?_⟩
  have h4 := h3 x
  cases q : bnd es x with
  | none => rw [q] at h4; exact absurd (by simpa using h4) hx
  | some v =>
    unfold Mine.bnd at q
    obtain ⟨e, he, _⟩ := Option.map_eq_some_iff.mp q
    have := List.find?_some he
    have e1 : e.1 = x := by simpa using this
    exact e1 ▸ List.mem_map_of_mem (List.mem_of_find?_eq_some he)
theorem Chg_mid {a : Addr} {x x' : AO} : ∀ (pre post : Hp), Chg a x x' (pre ++ (a, x) :: post) (pre ++ (a, x') :: post)
  | [], _ => .here
  | _ :: r, post => .there (Chg_mid r post)
theorem SA_own {x C dx : Addr} {es es' : List (Str × Value)} {n : Str} {v : Value} {σ' : Hp} {Q : Hp → Prop} (P : PC X C) (hn : findIn X.K (.ref C) n = some none) (hx : (x, inst C dx) ∈ σ) (hc : Chg dx (.ns es) (.ns es') σ σ') (hp : Put n v es es') (hz : es.length ≤ 1000) (q : Q σ') :
    SA X A E (.ref x) n v σ Q := fun o' v' e ev s R => by
  obtain rfl := er_ref e
  obtain ⟨pre, post, rfl, rfl⟩ := hc.split
  obtain ⟨od, hI, hod, hl⟩ := R.inst hx (es := es) (by simp)
  obtain ⟨cd, hcd, hdict⟩ := any_some P.hd
  unfold setAttr
  refine wpAny_bind (wpAny_mkText (wpAny_bind ?_))
  have R' : Rel X (pre ++ (dx, AO.ns es) :: post) { s with toks := s.toks + 1 } := R.toks
  refine wpAny_bind (wpAny_bind (hI.type.here (s := { s with toks := s.toks + 1 }) ((looks_findIn R.kin P.sa).here (s := { s with toks := s.toks + 1 }) (wpAny_holding ?_))))
  have hs : Looks (model X.prog X.w) s.heap (bindSpecial (.builtin "object.__setattr__") (.ref x)) (.builtin "object.__setattr__", [.ref x]) := Looks.of_pure (by kernel_rfl)
  refine wpAny_bind (hs.here (s := { s with toks := s.toks + 1 }) (wpAny_bind (wpAny_call ?_)))
  refine osa_open (s := { s with toks := s.toks + 1 }) R.kin hI P.po (r := none) (by unfold takerIn; (first | (refine rwG hn ?_; try (with_reducible rfl)) | rw [hn]); rfl) fun b => ?_
  refine wpAny_bind (wpAny_pure (wpAny_bind (wpAny_bind (wpAny_loadPart hI.at_ (wpAny_bind ((looks_clsIn R.kin hcd).here (s := { s with toks := s.toks + 1 }) ?_))))))
  (first | (refine rwG hdict ?_; try (with_reducible rfl)) | rw [hdict])
  refine wpAny_pure (a := some dx) (wpAny_bind (wpAny_pure (wpAny_bind ?_)))
  refine (nsSet_W (σ := pre ++ (dx, AO.ns es) :: post) (Q := fun _ σ' => Q σ' ∧ ∃ es, (dx, AO.ns es) ∈ σ' ∧ es.length ≤ 1001) (Mine.Chg_mid pre post) (ev ▸ hp) ⟨q, es', by simp, ?_⟩).use R' fun _ s₂ σ₂ R₂ ⟨q₂, es₂, hm₂, hl₂⟩ => ?_
  · have := hp.keys
    have h1 : es'.length = (es'.map (·.1)).length := (List.length_map _).symm
    rcases this with e | ⟨_, e⟩
    · rw [h1, e, List.length_map]; (first | lia | omega)
    · rw [h1, e, List.length_append, List.length_map]; simp; (first | lia | omega)
  obtain ⟨m, hns, hnd, hl', hw⟩ := ns_count R₂ hm₂
  obtain ⟨o₂, ents, ep, ho₂, hd₂, hz₂⟩ := hns.count hw
  refine wpAny_bind (wpAny_lookBehind ho₂ (by (first | (refine rwG hd₂ ?_; try (with_reducible rfl)) | rw [hd₂]); exact pastItsLine_dict (by rw [List.length_map] at hz₂; rw [sizeLine_eq]; (first | lia | omega))) ?_)
  exact wpAny_pure (wpAny_pure (wpAny_pure ⟨σ₂, R₂, q₂⟩))
end
section
variable {X : Cx} {A : Around} {α β γ δ : Type} {σ : Hp} {E : Value → Shared → Prop} {env : Env}
theorem zip_lookup (ns : List Str) : ∀ (vs : List Value), ns.Nodup → vs.length = ns.length → ∀ i (h : i < ns.length) (h' : i < vs.length), (ns.zip vs).lookup ns[i] = some vs[i] := by
  induction ns with
  | nil => intro vs _ _ i h; exact absurd h (Nat.not_lt_zero i)
  | cons n ns ih =>
    intro vs hn e i h h'
    cases vs with
    | nil => exact absurd h' (Nat.not_lt_zero i)
    | cons v vs =>
      cases i with
      | zero => exact List.lookup_cons_self
      | succ i =>
        rw [List.nodup_cons] at hn
        have hi : i < ns.length := Nat.lt_of_succ_lt_succ h
        have hi' : i < vs.length := Nat.lt_of_succ_lt_succ h'
        have ne : (ns[i] == n) = false := beq_eq_false_iff_ne.mpr fun z => hn.1 (z ▸ List.getElem_mem _)
        show List.lookup ns[i] ((n, v) :: ns.zip vs) = some vs[i]
        rw [List.lookup, ne]
        exact ih vs hn.2 (Nat.succ.inj e) i _ _
theorem zip_filterMap (ns : List Str) (vs : List Value) (hn : ns.Nodup) (e : vs.length = ns.length) : ns.filterMap (fun n => ((ns.zip vs).lookup n).map (n, ·)) = ns.zip vs := by
  have h1 : ns.map (fun n => ((ns.zip vs).lookup n).map (n, ·)) = (ns.zip vs).map some := by
    apply List.ext_getElem
    · simp [e]
    · intro i h1 h2
      have hi : i < ns.length := by simpa using h1
      simp [zip_lookup ns vs hn e i hi (by (first | lia | omega))]
  have h2 : ns.filterMap (fun n => ((ns.zip vs).lookup n).map (n, ·)) = (ns.map (fun n => ((ns.zip vs).lookup n).map (n, ·))).filterMap id := by rw [List.filterMap_map]; rfl
  rw [h2, h1, List.filterMap_map]
  simp
theorem zip_missing (ns : List Str) (vs : List Value) (hn : ns.Nodup) (e : vs.length = ns.length) : ns.filter (fun n => ((ns.zip vs).lookup n).isNone) = [] := by
  rw [List.filter_eq_nil_iff]
  intro n hm
  obtain ⟨i, hi, rfl⟩ := List.mem_iff_getElem.mp hm
  rw [zip_lookup ns vs hn e i hi (by (first | lia | omega))]; simp
structure FDP (q : Str) (ps : Arguments) (b : FuncBody) (sc : Scope) (cl : List (Str × Addr)) (fd : FuncData) : Prop where
  q : fd.qualname = q
  ps : fd.params = ps
  b : fd.body = b
  sc : fd.scope = sc
  cl : fd.closure = cl
  g : fd.globals = mainGlobals
  bt : fd.builtins = builtinsNs
  d : fd.defaults = .none
  kd : fd.kwdefaults = .none
noncomputable abbrev plainPs (as : List Arg) : Arguments := { posonlyargs := [], args := as, vararg := none, kwonlyargs := [], kw_defaults := [], kwarg := none, defaults := [] }
theorem forIn_none {α β γ : Type} {l : List α} {b : β} {f : α → β → Sem (ForInStep β)} {k : β → Sem γ} (h : l = []) : (forIn l b f >>= k) = k b := by subst h; rfl
theorem bind_plain {fd : FuncData} {as : List Arg} {vs : List Value} (hp : fd.params = plainPs as) (hd : fd.defaults = .none) (hn : (as.map (·.arg)).Nodup) (e : vs.length = as.length) :
    bindArgs fd ⟨vs, []⟩ = pure ((as.map (·.arg)).zip vs) := by
  have e' : vs.length = (as.map (·.arg)).length := by rw [e, List.length_map]
  cases fd
  cases hp
  cases hd
  refine (if_neg (show ¬ (decide (vs.length > (as.map (·.arg)).length) && true) = true by rw [e', decide_eq_false (Nat.lt_irrefl _)]; exact Bool.false_ne_true)).trans ?_
  generalize hns : as.map (·.arg) = ns at *
  have hd : ∀ k, List.drop k ([] : List Value) = [] := fun k => List.drop_nil
  refine (if_neg (show ¬ (!((ns.take (ns.length - (List.drop (0 - ns.length) ([] : List Value)).length)).filter fun n => ((ns.zip vs).lookup n).isNone).isEmpty) = true by
    rw [hd, List.length_nil, Nat.sub_zero, List.take_length, zip_missing ns vs hn e']; exact Bool.false_ne_true)).trans ?_
  refine (forIn_none (show ((ns.drop (ns.length - (List.drop (0 - ns.length) ([] : List Value)).length)).zip (List.drop (0 - ns.length) ([] : List Value))) = [] by rw [hd, List.zip_nil_right])).trans ?_
  show (pure ((ns ++ []).filterMap fun n => ((ns.zip vs).lookup n).map (n, ·)) : Sem (List (Str × Value))) = _
  rw [List.append_nil, zip_filterMap ns vs hn e']
noncomputable def CC (X : Cx) (A : Around) (E : Value → Shared → Prop) (f : Value) (vs : List Value) (σ : Hp) (Q : Value → Hp → Prop) : Prop :=
  ∀ vs', vs'.map er = vs → ∀ s, Rel X σ s → codeAny (model X.prog X.w) A (.call f ⟨vs', []⟩) (fun r s' => match r with | .ok (.ret v) => Ends X Q (er v) s' | .ok _ => False | .error e => E e s') s
theorem CC.cw {f : Value} {vs : List Value} {Q : Value → Hp → Prop} (h : CC X A E f vs σ Q) : CW X A E f vs σ Q := fun vs' e s R => wpAny_call (h vs' e s R)
theorem CC.mono {f : Value} {vs : List Value} {Q Q' : Value → Hp → Prop} {E' : Value → Shared → Prop} (h : CC X A E f vs σ Q) (k : ∀ v σ', Q v σ' → Q' v σ') (kE : ∀ e s, E e s → E' e s) : CC X A E' f vs σ Q' := fun vs' e s R =>
  codeAny_mono (h vs' e s R) fun r s' => by
    cases r with
    | error e => exact kE _ _
    | ok f => cases f with
      | ret v => exact fun ⟨σ', r, q⟩ => ⟨σ', r, k _ _ q⟩
      | _ => exact id
theorem CC.any {f : Value} {vs : List Value} {Q : Value → Hp → Prop} (h : CC X A F0 f vs σ Q) : CC X A E f vs σ Q := h.mono (fun _ _ q => q) fun _ _ e => e.elim
inductive FnOf (s : Shared) (f : Addr) (q : Str) (ps : Arguments) (b : FuncBody) (sc : Scope) (cl : List (Str × Addr)) : Prop
  | mk (o : Obj) (fd : FuncData) (h1 : s.heap.get? f = some o) (h2 : o.data = .func fd) (hfd : FDP q ps b sc cl fd) (h3 : s.heap.CodeRec fd.code fd.qualname)
inductive FnOfC (s : Shared) (f : Addr) (q : Str) (ps : Arguments) (b : FuncBody) (sc : Scope) (cl : List (Str × Addr)) (C : Value → Prop) : Prop
  | mk (o : Obj) (fd : FuncData) (h1 : s.heap.get? f = some o) (h2 : o.data = .func fd) (hfd : FDP q ps b sc cl fd) (h3 : s.heap.CodeRec fd.code fd.qualname) (hC : C fd.code)
noncomputable def FN (X : Cx) (σ : Hp) (f : Addr) (q : Str) (ps : Arguments) (b : FuncBody) (sc : Scope) (cl : List (Str × Addr)) : Prop :=
  ∀ s, Rel X σ s → FnOf s f q ps b sc cl
noncomputable def FNC (X : Cx) (σ : Hp) (f : Addr) (q : Str) (ps : Arguments) (b : FuncBody) (sc : Scope) (cl : List (Str × Addr)) (C : Value → Prop) : Prop :=
  ∀ s, Rel X σ s → FnOfC s f q ps b sc cl C
noncomputable abbrev fenv (sc : Scope) (L : Addr) (cs : List (Str × Addr)) (q : Str) (f : Addr) (cd : Value) : Env := newEnv sc L mainGlobals cs (q ++ ".<locals>.") (some f) cd none builtinsNs
noncomputable def LV (X : Cx) (A : Around) (env : Env) (E : Value → Shared → Prop) : Value → Shared → Prop := fun e s' => wpAny (model X.prog X.w) (A.deeper env) (leaving env e) (fun _ s'' => E e s'') (fun e' s'' => E e' s'') s'
theorem zip_er (ns : List Str) : ∀ vs : List Value, (ns.zip vs).map (fun b => (b.1, er b.2)) = ns.zip (vs.map er) := by
  induction ns with
  | nil => exact fun _ => rfl
  | cons a r ih => exact fun vs => by cases vs with
    | nil => rfl
    | cons b vs => exact congrArg _ (ih vs)
theorem CC_stmtsC {f : Addr} {q : Str} {as : List Arg} {body : List Stmt} {sc : Scope} {cl : List (Str × Addr)} {vs : List Value} {n : Nat} {C : Value → Prop} {Q : Value → Hp → Prop} (rm : Rm (n + 1) A) (hf : FNC X σ f q (plainPs as) (.stmts body) sc cl C)
    (hco : sc.isCoroutine = false) (hgen : sc.isGenerator = false) (hn : (as.map (·.arg)).Nodup) (hl : vs.length = as.length)
    (h : ∀ cd, C cd → ∀ L, CK sc.names cl ((L, .ns []) :: σ) (fun cs σ₁ => BD X A.in1 (fenv sc L cs q f cd) F0 ((as.map (·.arg)).zip vs) σ₁ (fun σ₂ =>
      XS X (A.deeper (fenv sc L cs q f cd)) (fenv sc L cs q f cd) (LV X A (fenv sc L cs q f cd) E) body σ₂ (RetF Q)))) : CC X A E (.ref f) vs σ Q := fun vs' e s R => by
  obtain ⟨o, fd, h1, h2, hfd, h3, hC⟩ := hf s R
  have hl' : vs'.length = as.length := by rw [← hl, ← e, List.length_map]
  refine codeAny_call_function rm.room h1 h2 (by rw [hfd.sc]; exact hco) (by rw [hfd.sc]; exact hgen) hfd.b h3 ?_
  rw [bind_plain hfd.ps hfd.d hn hl', hfd.sc, hfd.g, hfd.cl, hfd.q, hfd.bt]
  refine wpAny_pure ?_
  refine wpAny_mono (newFunctionEnv_W (Q := fun env σ₂ => XS X (A.deeper env) env (LV X A env E) body σ₂ (RetF Q)) (e ▸ zip_er _ _) (h fd.code hC) s R) (fun env s₂ ⟨σ₂, R₂, h₂⟩ => ⟨R₂.lim, codeAny_func ?_⟩) fun _ _ x => x.elim
  exact wpAny_mono (h₂ s₂ R₂) (fun fl s₃ ⟨σ₃, R₃, σ', hp, q⟩ => ⟨σ', R₃.pick hp, by rw [erF_retv] at q; exact q⟩) fun _ _ x => x
theorem CC_stmts {f : Addr} {q : Str} {as : List Arg} {body : List Stmt} {sc : Scope} {cl : List (Str × Addr)} {vs : List Value} {n : Nat} {Q : Value → Hp → Prop} (rm : Rm (n + 1) A) (hf : FN X σ f q (plainPs as) (.stmts body) sc cl)
    (hco : sc.isCoroutine = false) (hgen : sc.isGenerator = false) (hn : (as.map (·.arg)).Nodup) (hl : vs.length = as.length)
    (h : ∀ cd L, CK sc.names cl ((L, .ns []) :: σ) (fun cs σ₁ => BD X A.in1 (fenv sc L cs q f cd) F0 ((as.map (·.arg)).zip vs) σ₁ (fun σ₂ =>
      XS X (A.deeper (fenv sc L cs q f cd)) (fenv sc L cs q f cd) (LV X A (fenv sc L cs q f cd) E) body σ₂ (RetF Q)))) : CC X A E (.ref f) vs σ Q :=
  CC_stmtsC (C := fun _ => True) rm (fun s R => let ⟨o, fd, h1, h2, h3, h4⟩ := hf s R; ⟨o, fd, h1, h2, h3, h4, trivial⟩) hco hgen hn hl fun cd _ L => h cd L
theorem CK.mono (names : List (Str × NameKind)) : ∀ (cs : List (Str × Addr)) (σ : Hp) (K K' : List (Str × Addr) → Hp → Prop), (∀ cs σ, K cs σ → K' cs σ) → CK names cs σ K → CK names cs σ K' := by
  induction names with
  | nil => exact fun cs σ K K' k h => k _ _ h
  | cons a r ih =>
    intro cs σ K K' k h
    show if a.2 == .cell then _ else _
    have h : if a.2 == .cell then ∀ c, CK r ((a.1, c) :: cs) ((c, .cell none) :: σ) K else CK r cs σ K := h
    cases hk : (a.2 == NameKind.cell) with
    | true => rw [hk, if_pos rfl] at h; (first | refine ifP rfl ?_ | rw [if_pos rfl]); exact fun c => ih _ _ _ _ k (h c)
    | false => rw [hk, if_neg Bool.false_ne_true] at h; (first | refine ifN Bool.false_ne_true ?_ | rw [if_neg Bool.false_ne_true]); exact ih _ _ _ _ k h
theorem BD.mono (A : Around) (env : Env) (bs : List (Str × Value)) : ∀ (σ : Hp) (K K' : Hp → Prop), (∀ σ, K σ → K' σ) → BD X A env F0 bs σ K → BD X A env F0 bs σ K' := by
  induction bs with
  | nil => exact fun σ K K' k h => k _ h
  | cons a r ih => exact fun σ K K' k h v' e => (h v' e).mono fun _ σ' h' => ih _ _ _ k h'
theorem CC_defC {f : Addr} {q : Str} {as : List Arg} {body : List Stmt} {sc : Scope} {cl : List (Str × Addr)} {vs : List Value} {n : Nat} {C : Value → Prop} {Q : Value → Hp → Prop} (rm : Rm (n + 1) A) (hf : FNC X σ f q (plainPs as) (.stmts body) sc cl C)
    (hco : sc.isCoroutine = false) (hgen : sc.isGenerator = false) (hn : (as.map (·.arg)).Nodup) (hl : vs.length = as.length)
    (h : ∀ cd, C cd → ∀ L, CK sc.names cl ((L, .ns []) :: σ) (fun cs σ₁ => BD X A.in1 (fenv sc L cs q f cd) F0 ((as.map (·.arg)).zip vs) σ₁ (fun σ₂ =>
      XS X (A.deeper (fenv sc L cs q f cd)) (fenv sc L cs q f cd) F0 body σ₂ (RetF Q)))) : CC X A E (.ref f) vs σ Q :=
  CC.any (E := E) (CC_stmtsC rm hf hco hgen hn hl fun cd hC L => CK.mono _ _ _ _ _ (fun cs σ₁ => BD.mono _ _ _ _ _ _ fun σ₂ h₂ => h₂.any) (h cd hC L))
theorem CC_def {f : Addr} {q : Str} {as : List Arg} {body : List Stmt} {sc : Scope} {cl : List (Str × Addr)} {vs : List Value} {n : Nat} {Q : Value → Hp → Prop} (rm : Rm (n + 1) A) (hf : FN X σ f q (plainPs as) (.stmts body) sc cl)
    (hco : sc.isCoroutine = false) (hgen : sc.isGenerator = false) (hn : (as.map (·.arg)).Nodup) (hl : vs.length = as.length)
    (h : ∀ cd L, CK sc.names cl ((L, .ns []) :: σ) (fun cs σ₁ => BD X A.in1 (fenv sc L cs q f cd) F0 ((as.map (·.arg)).zip vs) σ₁ (fun σ₂ =>
      XS X (A.deeper (fenv sc L cs q f cd)) (fenv sc L cs q f cd) F0 body σ₂ (RetF Q)))) : CC X A E (.ref f) vs σ Q :=
  CC_defC (C := fun _ => True) rm (fun s R => let ⟨o, fd, h1, h2, h3, h4⟩ := hf s R; ⟨o, fd, h1, h2, h3, h4, trivial⟩) hco hgen hn hl fun cd _ L => h cd L
theorem CC_lam {f : Addr} {q : Str} {as : List Arg} {body : Expr} {sc : Scope} {cl : List (Str × Addr)} {vs : List Value} {n : Nat} {Q : Value → Hp → Prop} (rm : Rm (n + 1) A) (hf : FN X σ f q (plainPs as) (.expr body) sc cl)
    (hco : sc.isCoroutine = false) (hgen : sc.isGenerator = false) (hn : (as.map (·.arg)).Nodup) (hl : vs.length = as.length)
    (h : ∀ cd L, CK sc.names cl ((L, .ns []) :: σ) (fun cs σ₁ => BD X A.in1 (fenv sc L cs q f cd) F0 ((as.map (·.arg)).zip vs) σ₁ (fun σ₂ =>
      EV X (A.deeper (fenv sc L cs q f cd)) (fenv sc L cs q f cd) F0 body σ₂ (OutQ Q)))) : CC X A E (.ref f) vs σ Q := fun vs' e s R => by
  obtain ⟨o, fd, h1, h2, hfd, h3⟩ := hf s R
  have hl' : vs'.length = as.length := by rw [← hl, ← e, List.length_map]
  refine kla_callFunE rm.room h1 h2 (by rw [hfd.sc]; exact hco) (by rw [hfd.sc]; exact hgen) hfd.b h3 ?_
  rw [bind_plain hfd.ps hfd.d hn hl', hfd.sc, hfd.g, hfd.cl, hfd.q, hfd.bt]
  refine wpAny_pure ?_
  refine wpAny_mono (newFunctionEnv_W (Q := fun env σ₂ => EV X (A.deeper env) env F0 body σ₂ (OutQ Q)) (e ▸ zip_er _ _) (h fd.code) s R) (fun env s₂ ⟨σ₂, R₂, h₂⟩ => ⟨R₂.lim, kla_codeExpr ?_⟩) fun _ _ x => x.elim
  exact wpAny_mono (h₂ s₂ R₂) (fun fl s₃ ⟨σ₃, R₃, σ', hp, q⟩ => ⟨σ', R₃.pick hp, q⟩) fun _ _ x => x.elim
structure BF (X : Cx) (f : Addr) (q : Str) (as : List Arg) (body : List Stmt) (sc : Scope) : Prop where
  at_ : ∃ o fd, X.h₀.get? f = some o ∧ o.data = .func fd ∧ FDP q (plainPs as) (.stmts body) sc [] fd ∧ X.h₀.CodeRec fd.code fd.qualname
  kp : keepIn X.K (.ref f) = true
theorem BF.fnc {f : Addr} {q : Str} {as : List Arg} {body : List Stmt} {sc : Scope} {C : Value → Prop} (h : BF X f q as body sc) (hc : ∀ o fd, X.h₀.get? f = some o → o.data = .func fd → C fd.code) : FNC X σ f q (plainPs as) (.stmts body) sc [] C := fun s R => by
  obtain ⟨o, fd, h1, h2, h3, h4⟩ := h.at_
  exact ⟨o, fd, R.keep _ _ h1, h2, h3, h4.keeps R.keep, hc o fd h1 h2⟩
theorem BF.fn {f : Addr} {q : Str} {as : List Arg} {body : List Stmt} {sc : Scope} (h : BF X f q as body sc) : FN X σ f q (plainPs as) (.stmts body) sc [] := fun s R => by
  obtain ⟨o, fd, h1, h2, h3, h4⟩ := h.at_
  exact ⟨o, fd, R.keep _ _ h1, h2, h3, h4.keeps R.keep⟩
theorem FN_ao {f : Addr} {q : Str} {ps : Arguments} {b : FuncBody} {sc : Scope} {cl : List (Str × Addr)} {d : Option Addr} (hm : (f, AO.fn q ps b sc cl d) ∈ σ) : FN X σ f q ps b sc cl := fun s R => by
  obtain ⟨p, o, r, ho, h1, h2, fd, c, h3, h4, h5, h6, h7, h8, h9, h10, h11, h12, h13, o', vs, t, h14, h15, h16⟩ := R.get hm
  exact ⟨o, fd, ho, h3, ⟨h4, h5, h6, h7, h8, h9, h10, h11, h12⟩, ⟨c, o', vs, t, h13, r.keep _ _ h14, h15, by (first | (refine rwG h4 ?_; try (with_reducible rfl)) | rw [h4]); exact h16⟩⟩
theorem CC_method {m f : Addr} {self : Value} {vs : List Value} {Q : Value → Hp → Prop} (hm : (m, AO.obj (methodObj (.ref f) self)) ∈ σ) (h : CC X A E (.ref f) (er self :: vs) σ Q) : CC X A E (.ref m) vs σ Q := fun vs' e s R =>
  method_call (R.obj hm) (h (self :: vs') (by rw [List.map_cons, e]) s R)
theorem under_tc {n : Nat} (rm : Rm (n + 1) A) {C : Addr} {rest : List Value} : Rm n (A.under (.builtin "type.__call__" ⟨.ref C :: rest, []⟩)) := by
  have h1 := rm.depth
  have h2 := rm.units
  have hw : (Code.builtin "type.__call__" ⟨.ref C :: rest, []⟩).weight ≤ 1 := by
    have : (Code.builtin "type.__call__" ⟨.ref C :: rest, []⟩).weight = 1 := by rfl
    (first | lia | omega)
  have hu : (Code.builtin "type.__call__" ⟨.ref C :: rest, []⟩).cUnits ≤ 4 := by
    have : (Code.builtin "type.__call__" ⟨.ref C :: rest, []⟩).cUnits = 1 := by rfl
    (first | lia | omega)
  refine ⟨rm.handled, ?_, ?_⟩
  · show A.depth + _ + n < 1000; (first | lia | omega)
  · show A.units + _ + 20 * n < 9900; (first | lia | omega)
theorem CC_class {C fI : Addr} {vs : List Value} {n : Nat} {Q : Value → Hp → Prop} (hm : makesIn X.K C = true) (hi : findIn X.K (.ref C) "__init__" = some (some (.ref fI))) (hf : typeIn X.K (.ref fI) = some (.type "function")) (rm : Rm (n + 1) A)
    (h : ∀ A' x dx, Rm n A' → CC X A' F0 (.ref fI) (.ref x :: vs) ((x, inst C dx) :: (dx, .ns []) :: σ) (fun v σ' => v = .none ∧ Q (.ref x) σ')) : CC X A E (.ref C) vs σ Q := fun vs' e s R => by
  obtain ⟨hh, g, d, t, os⟩ := s
  refine make_core (makes_of R.kin hm) (looks_findIn R.kin hi) (fun self => bind_fn R.kin self hf) (.inl rfl) ?_
  have R1 : Rel X ((hh.objs.size, .ns []) :: σ) ⟨hh.push emptyDict, g, d, t, os⟩ := push_new (x := .ns []) (tk := t) R rfl (fun p _ => ⟨List.nodup_nil, #[], 0, rfl, fun _ he => by simp at he, List.Pairwise.nil, fun _ => rfl⟩)
  have R2 := push_new (x := inst C hh.objs.size) (o := instObj C hh.objs.size) (tk := t) R1 rfl (fun p _ => rfl)
  have e2 : (hh.push emptyDict).objs.size = hh.objs.size + 1 := Heap.size_push ..
  rw [show ({ heap := hh.push emptyDict, gens := g, drawn := d, toks := t, os := os } : Shared).heap.objs.size = hh.objs.size + 1 from e2] at R2
  refine codeAny_mono (h _ _ _ (under_tc rm) (.ref (hh.objs.size + 1) :: vs') (by rw [List.map_cons, e]; rfl) _ R2) fun r s' z => ?_
  cases r with
  | error e => exact z.elim
  | ok f => cases f with
    | ret v => obtain ⟨σ', r, ev, q⟩ := z; exact ⟨er_none ev, σ', r, q⟩
    | _ => exact z.elim
end
theorem listMul_all (xs : List Value) (k : Nat) : (List.foldl (fun x1 x2 : Array Value => x1 ++ x2) #[] (List.replicate (if xs.toArray.isEmpty = true then 0 else k) xs.toArray)).toList = (List.replicate k xs).flatten := by
  have g : ∀ (k : Nat) (acc : Array Value), (List.foldl (fun x1 x2 : Array Value => x1 ++ x2) acc (List.replicate k xs.toArray)).toList = acc.toList ++ (List.replicate k xs).flatten := by
    intro k
    induction k with
    | zero => intro acc; simp
    | succ k ih => intro acc; rw [List.replicate_succ, List.foldl_cons, ih]; simp [List.replicate_succ]
  (first | (refine rwG g ?_; try (with_reducible rfl)) | rw [g])
  cases xs with
  | nil => simp
  | cons a r => simp
noncomputable def slc {α : Type} (lo hi : Option Int) (xs : List α) : List α := (xs.drop (lo.elim 0 (clipAt xs.length))).take (hi.elim xs.length (clipAt xs.length) - lo.elim 0 (clipAt xs.length))
theorem slc_map {α β : Type} (f : α → β) (lo hi : Option Int) (xs : List α) : (slc lo hi xs).map f = slc lo hi (xs.map f) := by simp [slc, List.map_drop, List.map_take]
theorem slc_len {α : Type} (lo hi : Option Int) (xs : List α) : (slc lo hi xs).length ≤ xs.length := by
  unfold slc; rw [List.length_take, List.length_drop]; exact Nat.le_trans (Nat.min_le_right ..) (Nat.sub_le ..)
theorem slc_to {α : Type} {k : Int} {xs : List α} (h : 0 ≤ k) : slc none (some k) xs = xs.take k.toNat := by
  obtain ⟨n, rfl⟩ := Int.eq_ofNat_of_zero_le h
  simp only [slc, Option.elim, clipAt_nat, List.drop_zero, Nat.sub_zero, Int.toNat_natCast]
  rcases Nat.le_total n xs.length with h | h
  · rw [Nat.min_eq_left h]
  · rw [Nat.min_eq_right h, List.take_of_length_le (Nat.le_refl _), List.take_of_length_le h]
theorem slc_from {α : Type} {k : Int} {xs : List α} (h : 0 ≤ k) : slc (some k) none xs = xs.drop k.toNat := by
  obtain ⟨n, rfl⟩ := Int.eq_ofNat_of_zero_le h
  simp only [slc, Option.elim, clipAt_nat, Int.toNat_natCast]
  rcases Nat.le_total n xs.length with h | h
  · rw [Nat.min_eq_left h, List.take_of_length_le (by simp)]
  · rw [Nat.min_eq_right h, List.drop_of_length_le (Nat.le_refl _), List.drop_of_length_le h]; simp
theorem slc_back {α : Type} {k : Nat} {xs : List α} (h : 1 ≤ k) : slc none (some (-(k : Int))) xs = xs.take (xs.length - k) := by
  simp only [slc, Option.elim, clipAt_neg _ _ h, List.drop_zero, Nat.sub_zero]
theorem slc_all {α : Type} {xs : List α} : slc none none xs = xs := by simp [slc]
theorem slicePick_slc (items : Array Value) (lo hi : Option Int) : (slicePick items lo hi none).toList = slc lo hi items.toList := by
  rw [slicePick_plain]; simp [slc]
theorem slicePick_rev (items : Array Value) : (slicePick items none none (some (-1))).toList = items.toList.reverse := by
  have h0 := picked_rev items.size
  have h1 : slicePick items none none (some (-1)) = (((List.range items.size).map fun k => items.size - 1 - k).filterMap (items[·]?)).toArray := by
    (first | (refine rwG h0.symm ?_; try (with_reducible rfl)) | rw [← h0])
    unfold slicePick
    congr 2
  (first | (refine rwG h1 ?_; try (with_reducible rfl)) | rw [h1])
  apply List.ext_getElem?
  intro i
  have h2 : ((List.range items.size).map fun k => items.size - 1 - k).filterMap (items[·]?) = (List.range items.size).map fun k => items.getD (items.size - 1 - k) .none := by
    have g : ∀ l : List Nat, (∀ k ∈ l, k < items.size) → (l.map fun k => items.size - 1 - k).filterMap (items[·]?) = l.map fun k => items.getD (items.size - 1 - k) .none := by
      intro l
      induction l with
      | nil => intro _; rfl
      | cons k r ih =>
        intro h
        have h1 : items.size - 1 - k < items.size := by have := h k (.head _); omega
        simp only [List.map_cons, List.filterMap_cons, Array.getElem?_eq_getElem h1, ih fun b hb => h b (.tail _ hb)]
        simp [h1]
    exact g _ fun k hk => List.mem_range.mp hk
  simp only [h2, List.getElem?_map]
  by_cases hi : i < items.size
  · simp [List.getElem?_reverse, hi]
    have : items.size - 1 - i < items.size := by omega
    simp [this]
  · have : items.toList.reverse[i]? = none := by simp; omega
    (first | (refine rwG this ?_; try (with_reducible rfl)) | rw [this]); simp; omega
section
variable {X : Cx} {A : Around} {α β γ δ : Type} {σ : Hp} {E : Value → Shared → Prop} {env : Env}
inductive LsOf (s : Shared) (a : Addr) (xs : List Value) : Prop
  | mk (items : Array Value) (n : Nat) (ho : IsL s.heap a items n) (he : items.toList.map er = xs) (hs : items.size = xs.length)
theorem isL {s : Shared} (R : Rel X σ s) {a : Addr} {xs : List Value} (hm : (a, AO.seq "list" xs) ∈ σ) : LsOf s a xs := by
  obtain ⟨items, n, h, e⟩ := R.tup hm
  exact ⟨items, n, h, e, by rw [← e, List.length_map, Array.length_toList]⟩
theorem Rel.push_list {s : Shared} (R : Rel X σ s) {items : Array Value} {T : String} : Rel X ((s.heap.objs.size, .seq T (items.toList.map er)) :: σ) { s with heap := s.heap.push { cls := .type T, data := .seq items } } :=
  push_new (x := .seq T (items.toList.map er)) (tk := s.toks) R rfl (fun p _ => ⟨items, 0, rfl, rfl⟩)
noncomputable def GI (X : Cx) (A : Around) (E : Value → Shared → Prop) (o i : Value) (σ : Hp) (Q : Value → Hp → Prop) : Prop := ∀ o' i', er o' = o → er i' = i → W X A er (getItem o' i') σ Q E
set_option tactic.hygienic true in
theorem SUB_of {value slice : Expr} {o i : Value} {T id : String} {Q : Value → Hp → Prop} (hT : ∀ s o', Rel X σ s → er o' = o → s.TypeIs o' T) (hl : typeLookup (.type T) "__getitem__" = pure (some (.builtin id))) (h : GI X A E o i σ Q) :
    SUB X A E value slice o i σ Q := fun o' i' eo ei s R => by
  unfold subscriptTail
  refine wpAny_bind ?_
  rw [getitemInPython_of_ne (hT s o' R eo).not_modules]
  refine wpAny_bind (wpAny_specialOf (hT s o' R eo) hl ?_)
  have hs : ∃ ops, subscripted slice false o' i' = operate ops (getItem o' i') := by cases slice <;> first | exact ⟨_, rfl⟩ | (rename_i a b c d; cases c <;> exact ⟨_, rfl⟩)
  obtain ⟨ops, hs⟩ := hs
  have fin : wpAny (model X.prog X.w) A (subscripted slice false o' i') (fun r s₃ => wpAny (model X.prog X.w) A (letTemporaryGo value o' r >>= fun _ => pure r) (fun a s' => Ends X Q (er a) s') E s₃) E s := by
    (first | (refine rwG hs ?_; try (with_reducible rfl)) | rw [hs])
    exact wpAny_operating (wpAny_mono (h o' i' eo ei s R) (fun r s₃ h₃ => wpAny_bind (wpAny_letTemporaryGo (wpAny_pure h₃))) fun _ _ x => x)
  first
    | exact wpAny_pure (wpAny_bind fin)
    | exact wpAny_bind (wpAny_pure (wpAny_bind fin))
    | exact wpAny_bind fin
theorem SUB_list {value slice : Expr} {l : Addr} {i : Value} {xs : List Value} {Q : Value → Hp → Prop} (hm : (l, AO.seq "list" xs) ∈ σ) (h : GI X A E (.ref l) i σ Q) : SUB X A E value slice (.ref l) i σ Q :=
  SUB_of (T := "list") (fun s o' R e => by obtain rfl := er_ref e; obtain ⟨items, n, ho, _⟩ := isL R hm; exact ⟨_, ho, rfl⟩) slot_list_getitem.lookup h
theorem SUB_str {value slice : Expr} {x : Str} {i : Value} {Q : Value → Hp → Prop} (h : GI X A E (S x) i σ Q) : SUB X A E value slice (S x) i σ Q :=
  SUB_of (T := "str") (fun s o' R e => by obtain ⟨t, rfl⟩ := er_str e; exact typeIs_str s x t) F.slot_str_getitem.lookup h
theorem GI_list {l : Addr} {i : Int} {xs : List Value} {v : Value} {Q : Value → Hp → Prop} (hm : (l, AO.seq "list" xs) ∈ σ) (h0 : 0 ≤ i) (hv : xs[i.toNat]? = some v) (hz : xs.length ≤ sizeLine) (q : Q v σ) : GI X A E (.ref l) (I i) σ Q := fun o' i' eo ei s R => by
  obtain rfl := er_ref eo
  obtain ⟨t, rfl⟩ := er_int ei
  obtain ⟨items, n, ho, he, hs⟩ := isL R hm
  have hlt := (List.getElem?_eq_some_iff.mp hv).1
  rw [← he, List.getElem?_map, Array.getElem?_toList] at hv
  obtain ⟨v', hv', rfl⟩ := Option.map_eq_some_iff.mp hv
  have := sizeLine_eq
  exact wpAny_getItem_list ho.isList h0 (by (first | lia | omega)) hv' ⟨σ, R, q⟩
theorem GI_str {l : List Nat} {i : Int} {k c : Nat} {Q : Value → Hp → Prop} (hk : seqIndex? i l.length = some k) (hc : l[k]? = some c) (hb : -(2 ^ 63) ≤ i ∧ i < 2 ^ 63) (q : Q (T [c]) σ) : GI X A E (T l) (I i) σ Q := fun o' i' eo ei s R => by
  obtain ⟨t, rfl⟩ := er_str eo
  obtain ⟨u, rfl⟩ := er_int ei
  refine PyProof.Rows.getItem_str (c := c) (by simp; (first | lia | omega)) (by ((first | (refine rwG tx_len ?_; try (with_reducible rfl)) | rw [tx_len]); (first | (refine rwG hk ?_; try (with_reducible rfl)) | rw [hk])); simpa using hc) ⟨σ, R.toks, q⟩
noncomputable def PT (X : Cx) (A : Around) (env : Env) (E : Value → Shared → Prop) (x : Option Expr) (σ : Hp) (Q : Value → Hp → Prop) : Prop := match x with | none => Q .none σ | some e => EV X A env E e σ Q
theorem PT.to {x : Option Expr} {Q : Value → Hp → Prop} (h : PT X A env E x σ Q) : W X A er (evalPart x env) σ Q E := by
  cases x with
  | none => exact W_pure h
  | some e => exact h
theorem EV_Slice {lo hi st p} {Q : Value → Hp → Prop} (h : PT X A env E lo σ (fun l σ₁ => PT X A env E hi σ₁ (fun u σ₂ => PT X A env E st σ₂ (fun t σ₃ => ∀ a, Q (.ref a) ((a, .fldE "slice" [l, u, t]) :: σ₃))))) :
    EV X A env E (.Slice lo hi st p) σ Q := fun s R =>
  wpAny_Slice (h.to.use R fun l s₁ σ₁ R₁ h₁ => h₁.to.use R₁ fun u s₂ σ₂ R₂ h₂ => h₂.to.use R₂ fun t s₃ σ₃ R₃ h₃ =>
    ⟨_, push_new (x := .fldE "slice" [er l, er u, er t]) (tk := s₃.toks) R₃ rfl (fun p _ => ⟨rfl, _, rfl, rfl⟩), h₃ _⟩)
noncomputable def prt : Option Int → Value
  | none => .none
  | some i => I i
theorem prt_eq {v : Value} {p : Option Int} (e : er v = prt p) : ∃ q : Option (Int × Tok), v = partValue q ∧ q.map (·.1) = p ∧ IsPart v p := by
  cases p with
  | none => exact ⟨none, er_none e, rfl, er_none e ▸ .none⟩
  | some i => obtain ⟨t, rfl⟩ := er_int e; exact ⟨some (i, t), rfl, rfl, .int i t⟩
inductive SlcOf (s : Shared) (a : Addr) (l u t : Option Int) : Prop
  | mk (l' u' t' : Option (Int × Tok)) (h1 : s.heap.IsSlice a l' u' t') (e1 : l'.map (·.1) = l) (e2 : u'.map (·.1) = u) (e3 : t'.map (·.1) = t) (h2 : s.heap.IsSliceOf a (partValue l') (partValue u') (partValue t')) (p1 : IsPart (partValue l') l) (p2 : IsPart (partValue u') u) (p3 : IsPart (partValue t') t)
theorem isSlice {s : Shared} (R : Rel X σ s) {a : Addr} {l u t : Option Int} (hm : (a, AO.fldE "slice" [prt l, prt u, prt t]) ∈ σ) :
    SlcOf s a l u t := by
  obtain ⟨p, o, _, ho, hc, vs, hd, he⟩ := R.get hm
  obtain ⟨vl⟩ := vs
  have he : vl.map er = [prt l, prt u, prt t] := he
  have hl : vl.length = 3 := by rw [← List.length_map (f := er), he]; rfl
  obtain ⟨a1, a2, a3, rfl⟩ : ∃ a1 a2 a3, vl = [a1, a2, a3] := by
    cases vl with
    | nil => cases hl
    | cons a1 r => cases r with
      | nil => cases hl
      | cons a2 r => cases r with
        | nil => cases hl
        | cons a3 r => cases r with
          | nil => exact ⟨a1, a2, a3, rfl⟩
          | cons a4 r => simp at hl
  simp only [List.map_cons, List.map_nil, List.cons.injEq] at he
  obtain ⟨q1, rfl, e1, p1⟩ := prt_eq he.1
  obtain ⟨q2, rfl, e2, p2⟩ := prt_eq he.2.1
  obtain ⟨q3, rfl, e3, p3⟩ := prt_eq he.2.2.1
  exact ⟨q1, q2, q3, ⟨o, ho, hc, hd⟩, e1, e2, e3, ⟨o, ho, hc, hd⟩, p1, p2, p3⟩
theorem GI_list_slice {l sl : Addr} {xs : List Value} {lo hi : Option Int} {Q : Value → Hp → Prop} (hm : (l, AO.seq "list" xs) ∈ σ) (hs : (sl, AO.fldE "slice" [prt lo, prt hi, .none]) ∈ σ) (hz : xs.length ≤ sizeLine)
    (q : ∀ a, Q (.ref a) ((a, .seq "list" (slc lo hi xs)) :: σ)) : GI X A E (.ref l) (.ref sl) σ Q := fun o' i' eo ei s R => by
  obtain rfl := er_ref eo
  obtain rfl := er_ref ei
  obtain ⟨items, n, ho, he, hsz⟩ := isL R hm
  obtain ⟨l', u', t', _, _, _, e3, h2, p1, p2, p3⟩ := isSlice R (t := none) hs
  refine wpAny_getItem_list_slice ho.isList h2 p1 p2 p3 (by simp) ⟨_, ?_, q s.heap.objs.size⟩ (by (first | lia | omega))
  have := R.push_list (items := slicePick items lo hi none) (T := "list")
  rwa [slicePick_slc, slc_map, he] at this
theorem GI_list_rev {l sl : Addr} {xs : List Value} {Q : Value → Hp → Prop} (hm : (l, AO.seq "list" xs) ∈ σ) (hs : (sl, AO.fldE "slice" [.none, .none, I (-1)]) ∈ σ) (hz : xs.length ≤ sizeLine)
    (q : ∀ a, Q (.ref a) ((a, .seq "list" xs.reverse) :: σ)) : GI X A E (.ref l) (.ref sl) σ Q := fun o' i' eo ei s R => by
  obtain rfl := er_ref eo
  obtain rfl := er_ref ei
  obtain ⟨items, n, ho, he, hsz⟩ := isL R hm
  obtain ⟨l', u', t', _, _, _, e3, h2, p1, p2, p3⟩ := isSlice R (l := none) (u := none) (t := some (-1)) hs
  refine wpAny_getItem_list_slice ho.isList h2 p1 p2 p3 (by simp) ⟨_, ?_, q s.heap.objs.size⟩ (by (first | lia | omega))
  have := R.push_list (items := slicePick items none none (some (-1))) (T := "list")
  rwa [slicePick_rev, List.map_reverse, he] at this
theorem strIdx (lo hi : Option Int) (n : Nat) : Builtin.Str.strSliceIndices lo hi 1 n = (List.range (hi.elim n (clipAt n) - lo.elim 0 (clipAt n))).map (lo.elim 0 (clipAt n) + ·) := by
  rw [← sliceRange_one]
  unfold Builtin.Str.strSliceIndices
  cases lo <;> cases hi <;> simp [clipAt_cast]
set_option tactic.hygienic true in
theorem GI_str_slice {sl : Addr} {x : List Nat} {lo hi : Option Int} {Q : Value → Hp → Prop} (hs : (sl, AO.fldE "slice" [prt lo, prt hi, .none]) ∈ σ) (hz : x.length ≤ sizeLine) (q : Q (T (slc lo hi x)) σ) : GI X A E (T x) (.ref sl) σ Q := fun o' i' eo ei s R => by
  obtain ⟨t, rfl⟩ := er_str eo
  obtain rfl := er_ref ei
  obtain ⟨l', u', t', h1, e1, e2, e3, _⟩ := isSlice R (t := none) hs
  have et : t' = none := by simpa using e3
  subst et
  refine wpAny_getItem_str_slice (st := none) h1 rfl ?_
  have key : slicePicked (tx x) l' u' none = (List.range (hi.elim x.length (clipAt x.length) - lo.elim 0 (clipAt x.length))).map (lo.elim 0 (clipAt x.length) + ·) := by
    unfold slicePicked
    ((first | (refine rwG e1 ?_; try (with_reducible rfl)) | rw [e1]); (first | (refine rwG e2 ?_; try (with_reducible rfl)) | rw [e2]); (first | (refine rwG tx_len ?_; try (with_reducible rfl)) | rw [tx_len]))
    exact strIdx lo hi x.length
  have key2 : (⟨((slicePicked (tx x) l' u' none).filterMap ((tx x).cps[·]?)).toArray⟩ : Str) = tx (slc lo hi x) := by
    rw [key, pick_run]; rfl
  unfold sliceMade
  split
  · rename_i hc
    simp only [Bool.and_eq_true, beq_iff_eq] at hc
    have e4 : slc lo hi x = x := by
      have h3 := hc.2
      rw [key, List.length_map, List.length_range, tx_len] at h3
      unfold slc
      have h4 : lo.elim 0 (clipAt x.length) = 0 ∨ x.length = 0 := by
        have : hi.elim x.length (clipAt x.length) ≤ x.length := by
          cases hi with
          | none => exact Nat.le_refl _
          | some i => have := clipAt_cast x.length i; show clipAt x.length i ≤ x.length; omega
        clear hc
        omega
      rcases h4 with h4 | h4
      · rw [h4] at h3 ⊢; rw [Nat.sub_zero] at h3 ⊢; rw [List.drop_zero]; exact List.take_of_length_le (Nat.le_of_eq h3.symm)
      · have : x = [] := List.eq_nil_of_length_eq_zero h4
        subst this; simp
    rw [e4] at q
    exact ⟨σ, R, q⟩
  · (first | (refine rwG key2 ?_; try (with_reducible rfl)) | rw [key2])
    exact ⟨by (first | (refine rwG tx_len ?_; try (with_reducible rfl)) | rw [tx_len]); exact Nat.le_trans (slc_len ..) hz, σ, R.toks, q⟩
theorem setItem_at {prog : Program} {w : World} {s : Shared} {l : Addr} {items : Array Value} {n : Nat} {k : Int} {t : Tok} {v : Value} {Q : Unit → Shared → Prop} (ho : IsL s.heap l items n) (h0 : 0 ≤ k) (hn : k < items.size) (hz : items.size ≤ sizeLine)
    (q : ∀ h', h'.get? l = some { cls := .type "list", data := .seq (items.setIfInBounds k.toNat v) n } → Heap.SameBut l s.heap h' → Q () { s with heap := h' }) : wpAny (model prog w) A (setItem (.ref l) (.int k t) v) Q E s := by
  have hT : s.TypeIs (.ref l) "list" := ⟨_, ho, rfl⟩
  have hfit : k < 2 ^ 63 := by have := sizeLine_eq; (first | lia | omega)
  unfold setItem
  refine wpAny_holding (wpAny_bind (wpAny_sequenceKey hT (by decide) (wpAny_bind ?_)))
  refine wpAny_callSpecial?_slot (name := Str.ofString "__setitem__") hT slot_list_setitem (wpAny_call_entry slot_list_setitem hT entry_list_setitem ?_ (args_list_setitem _ _ _))
  show wpAny _ _ (Builtin.List.listSubscript? (.int k t) >>= _) _ _ s
  refine wpAny_bind (wpAny_listSubscript_int (fitsIndex_of h0 hfit) ?_)
  clear hfit
  obtain ⟨j, rfl⟩ := Int.eq_ofNat_of_zero_le h0
  have hj : j < items.size := by (first | lia | omega)
  show wpAny _ _ ((seqItemAt l j >>= fun r => pure (r.map (j, ·))) >>= _) _ _ s
  refine wpAny_bind (wpAny_bind (wpAny_seqItemAt ho rfl (wpAny_pure ?_)))
  rw [show items[j]? = some items[j] from Array.getElem?_eq_getElem hj]
  show wpAny _ _ (setSeqItemAt l j v >>= _) _ _ s
  refine wpAny_bind (wpAny_setSeqItemAt ho rfl (wpAny_pure ⟨.none, rfl, wpAny_pure (q _ ?_ (Heap.SameBut.update ..))⟩))
  have e : Obj.mapSeq (·.setIfInBounds j v) { cls := .type "list", data := .seq items n } = ({ cls := .type "list", data := .seq (items.setIfInBounds j v) n } : Obj) := by simp [Obj.mapSeq]
  rw [Heap.get?_update_self _ ho (by rw [e]; rfl), e]; rfl
theorem SI_list {l : Addr} {i : Int} {xs : List Value} {v : Value} {σ' : Hp} {Q : Hp → Prop} (hc : Chg l (.seq "list" xs) (.seq "list" (xs.set i.toNat v)) σ σ') (h0 : 0 ≤ i) (hi : i < xs.length) (hz : xs.length ≤ sizeLine) (q : Q σ') : SI X A E (.ref l) (I i) v σ Q := fun o' i' v' eo ei ev s R => by
  obtain rfl := er_ref eo
  obtain ⟨t, rfl⟩ := er_int ei
  obtain ⟨pre, post, rfl, rfl⟩ := hc.split
  obtain ⟨items, n, ho, he, hsz⟩ := isL R (a := l) (xs := xs) (by simp)
  refine setItem_at (n := n) ho h0 (by (first | (refine rwG hsz ?_; try (with_reducible rfl)) | rw [hsz]); exact hi) (by (first | (refine rwG hsz ?_; try (with_reducible rfl)) | rw [hsz]); exact hz) fun h' ho' hs => ?_
  refine ⟨_, R.upd (tk := s.toks) (x' := .seq "list" (xs.set i.toNat v)) hs ho' fun p _ => ⟨_, _, rfl, ?_⟩, q⟩
  rw [Array.toList_setIfInBounds, List.map_set, he, ev]
theorem BIN_addl {a b : Addr} {xs ys : List Value} {Q : Value → Hp → Prop} (ha : (a, AO.seq "list" xs) ∈ σ) (hb : (b, AO.seq "list" ys) ∈ σ) (hz : xs.length + ys.length ≤ sizeLine) (q : ∀ c, Q (.ref c) ((c, .seq "list" (xs ++ ys)) :: σ)) : BIN X A E .Add (.ref a) (.ref b) σ Q := fun a' b' ea eb s R => by
  obtain rfl := er_ref ea
  obtain rfl := er_ref eb
  obtain ⟨i1, n1, h1, e1, z1⟩ := isL R ha
  obtain ⟨i2, n2, h2, e2, z2⟩ := isL R hb
  refine P.add_list h1 h2 ⟨_, ?_, q s.heap.objs.size⟩ (by (first | lia | omega))
  have := R.push_list (items := i1 ++ i2) (T := "list")
  rwa [Array.toList_append, List.map_append, e1, e2] at this
theorem BIN_mull {a : Addr} {k : Int} {xs : List Value} {Q : Value → Hp → Prop} (ha : (a, AO.seq "list" xs) ∈ σ) (hk : -(2 ^ 63) ≤ k ∧ k < 2 ^ 63) (hz : xs.length * k.toNat ≤ 2 ^ 24) (q : ∀ c, Q (.ref c) ((c, .seq "list" (List.replicate k.toNat xs).flatten) :: σ)) : BIN X A E .Mult (.ref a) (I k) σ Q := fun a' b' ea eb s R => by
  obtain rfl := er_ref ea
  obtain ⟨u, rfl⟩ := er_int eb
  obtain ⟨i1, n1, h1, e1, z1⟩ := isL R ha
  refine wpAny_binaryOp_repeat_ref (T := "list") (U := "int") (by decide) ⟨_, h1, rfl⟩ (fun s' => typeIs_int s' k u) noFill_list_mul F.fills_int_mul F.slot_int_rmul repeat_list F.slot_int_index.lookup
    (call_meets F.slot_int_rmul (typeIs_int s k u) F.entry_int_rmul (F.args_int_rmul_2 _ _) (int___rmul___int_list k u a i1 n1)
      ⟨h1, rfl, ⟨_, h1, rfl⟩, call_meets F.slot_list_mul ⟨_, h1, rfl⟩ F.entry_list_mul (F.args_list_mul_2 _ _)
        (AutoListH.list___mul___list_int_3 a i1 n1 k u (by simp [Builtin.List.listFitsIndex]; (first | lia | omega)) (by (first | (refine rwG z1 ?_; try (with_reducible rfl)) | rw [z1]); (first | lia | omega)) (by (first | (refine rwG z1 ?_; try (with_reducible rfl)) | rw [z1]); simp [Builtin.List.listTooLong, sizeLine]; (first | lia | omega)))
        ⟨h1, _, ?_, q s.heap.objs.size⟩⟩)
  have := R.push_list (items := List.foldl (fun x1 x2 => x1 ++ x2) #[] (List.replicate (if i1.isEmpty = true then 0 else k.toNat) i1)) (T := "list")
  obtain ⟨i1⟩ := i1
  rw [listMul_all, List.map_flatten, List.map_replicate] at this
  rw [show List.map er i1 = xs from e1] at this
  exact this
end
theorem intsAre_of : ∀ {vs : List Value} {ns : List Int}, vs.map er = ns.map I → IntsAre vs ns
  | [], [], _ => .nil
  | [], _ :: _, e => by simp at e
  | _ :: _, [], e => by simp at e
  | v :: vs, n :: ns, e => by
    simp only [List.map_cons, List.cons.injEq] at e
    obtain ⟨t, rfl⟩ := er_int e.1
    exact .cons n t (intsAre_of e.2)
theorem intsAre_er : ∀ {vs : List Value} {ns : List Int}, IntsAre vs ns → vs.map er = ns.map I
  | _, _, .nil => rfl
  | _, _, .cons n t h => by simp [er, intsAre_er h]
theorem strsAre_of : ∀ {vs : List Value} {ns : List (List Nat)}, vs.map er = ns.map T → StrsAre vs (ns.map tx)
  | [], [], _ => .nil
  | [], _ :: _, e => by simp at e
  | _ :: _, [], e => by simp at e
  | v :: vs, n :: ns, e => by
    simp only [List.map_cons, List.cons.injEq] at e
    obtain ⟨t, rfl⟩ := er_str e.1
    exact .cons (tx n) t (strsAre_of e.2)
theorem txt_join (ys : List (List Nat)) : Txt.join (tx []) (ys.map tx) = tx ys.flatten := by
  show Builtin.Str.glued (tx []) (ys.map tx) = _
  cases ys with
  | nil => rfl
  | cons a r =>
    have g : ∀ (r : List (List Nat)) (acc : Array Nat), ((r.map tx).foldl (fun acc p => acc ++ (tx []).cps ++ p.cps) acc) = acc ++ r.flatten.toArray := by
      intro r
      induction r with
      | nil => intro acc; simp
      | cons b r ih => intro acc; rw [List.map_cons, List.foldl_cons, ih]; simp
    apply Str.ext'
    have e : (Builtin.Str.glued (tx []) ((a :: r).map tx)).cps = (r.map tx).foldl (fun acc p => acc ++ (tx []).cps ++ p.cps) (tx a).cps := by
      rw [List.map_cons]
      unfold Builtin.Str.glued
      first | rfl | simp
    ((first | (refine rwG e ?_; try (with_reducible rfl)) | rw [e]); (first | (refine rwG g ?_; try (with_reducible rfl)) | rw [g])); simp
section
variable {X : Cx} {A : Around} {α β γ δ : Type} {σ : Hp} {E : Value → Shared → Prop} {env : Env}
theorem GM_list {l : Addr} {xs : List Value} {name : Str} {id : String} {Q : Value × List Value → Hp → Prop} (hm : (l, AO.seq "list" xs) ∈ σ) (slot : Slot "list" name id) (hty : typeOf (.builtin id) = pure (.type "method_descriptor")) (q : Q (.builtin id, [.ref l]) σ) :
    GM X A E (.ref l) name σ Q := fun o' pl e s R => by
  obtain rfl := er_ref e
  obtain ⟨items, n, ho, _⟩ := isL R hm
  exact getMethod_builtin ⟨_, ho, rfl⟩ F.plainAttrs_list slot hty (fun a e => by cases e; exact ⟨_, ho, rfl⟩) ⟨σ, R, q⟩
theorem GM_str {x : Str} {name : Str} {id : String} {Q : Value × List Value → Hp → Prop} (slot : Slot "str" name id) (hty : typeOf (.builtin id) = pure (.type "method_descriptor")) (q : Q (.builtin id, [S x]) σ) :
    GM X A E (S x) name σ Q := fun o' pl e s R => by
  obtain ⟨t, rfl⟩ := er_str e
  exact getMethod_builtin (typeIs_str s x t) F.plainAttrs_str slot hty (fun a e => by cases e) ⟨σ, R, q⟩
theorem seq_upd {s : Shared} {l : Addr} {items ys : Array Value} {n : Nat} {f : Array Value → Array Value} (ho : IsL s.heap l items n) (hf : f items = ys) : ∃ n', (s.heap.update l (Obj.mapSeq f)).get? l = some { cls := .type "list", data := .seq ys n' } :=
  ⟨_, by (first | (refine rwG hf.symm ?_; try (with_reducible rfl)) | rw [← hf]); exact ho.update f⟩
inductive Arg2 (vs' : List Value) (a b : Value) : Prop
  | mk (a' b' : Value) (e : vs' = [a', b']) (ha : er a' = a) (hb : er b' = b)
theorem one_arg {vs' : List Value} {a b : Value} (e : vs'.map er = [a, b]) : Arg2 vs' a b := by
  match vs', e with
  | [], e => simp at e
  | [_], e => simp at e
  | _ :: _ :: _ :: _, e => simp at e
  | [x, y], e => simp only [List.map_cons, List.map_nil, List.cons.injEq] at e; exact ⟨x, y, rfl, e.1, e.2.1⟩
inductive Arg1 (vs' : List Value) (a : Value) : Prop
  | mk (a' : Value) (e : vs' = [a']) (ha : er a' = a)
theorem no_arg {vs' : List Value} {a : Value} (e : vs'.map er = [a]) : Arg1 vs' a := by
  match vs', e with
  | [], e => simp at e
  | _ :: _ :: _, e => simp at e
  | [x], e => simp only [List.map_cons, List.map_nil, List.cons.injEq] at e; exact ⟨x, rfl, e.1⟩
theorem CW_append {l : Addr} {xs : List Value} {v : Value} {σ' : Hp} {Q : Value → Hp → Prop} (hc : Chg l (.seq "list" xs) (.seq "list" (xs ++ [v])) σ σ') (hz : xs.length ≤ sizeLine) (q : Q .none σ') : CW X A E (.builtin "list.append") [.ref l, v] σ Q := fun vs' e s R => by
  obtain ⟨a', v', rfl, e1, rfl⟩ := one_arg e
  obtain rfl := er_ref e1
  obtain ⟨pre, post, rfl, rfl⟩ := hc.split
  obtain ⟨items, n, ho, he, hs⟩ := isL R (a := l) (xs := xs) (by simp)
  refine append_at ho (fun h' hs' ho' => ⟨_, R.upd (tk := s.toks) (x' := .seq "list" (xs ++ [er v'])) hs' ho' fun p _ => ⟨_, _, rfl, ?_⟩, q⟩) (by omega)
  simp [he]
theorem CW_pop0 {l : Addr} {xs : List Value} {v : Value} {σ' : Hp} {Q : Value → Hp → Prop} (hc : Chg l (.seq "list" (v :: xs)) (.seq "list" xs) σ σ') (hz : xs.length < sizeLine) (q : Q v σ') : CW X A E (.builtin "list.pop") [.ref l, I 0] σ Q := fun vs' e s R => by
  obtain ⟨a', i', rfl, e1, e2⟩ := one_arg e
  obtain rfl := er_ref e1
  obtain ⟨u, rfl⟩ := er_int e2
  obtain ⟨pre, post, rfl, rfl⟩ := hc.split
  obtain ⟨items, n, ho, he, hs⟩ := isL R (a := l) (xs := v :: xs) (by simp)
  rw [List.length_cons] at hs
  obtain ⟨ls⟩ := items
  cases ls with
  | nil => simp at he
  | cons y ys =>
    simp only [List.map_cons, List.cons.injEq] at he
    refine call_meets F.slot_list_pop ⟨_, ho, rfl⟩ F.entry_list_pop (F.args_list_pop_2 _ _) (MeetsSeq.list_pop_at l _ n 0 u 0 y (by decide) (by unfold seqIndex?; simp) (by simp) (by (first | lia | omega))) ⟨ho, ?_⟩
    obtain ⟨n', hn'⟩ := seq_upd (s := s) (ys := ys.toArray) (f := fun xs => xs.eraseIdxIfInBounds 0) ho (by simp [Array.eraseIdxIfInBounds])
    exact ⟨_, R.upd (tk := s.toks) (x' := .seq "list" xs) (Heap.SameBut.update ..) hn' (fun p _ => ⟨_, _, rfl, he.2⟩), he.1 ▸ q⟩
theorem CW_extend {l b : Addr} {xs ys : List Value} {σ' : Hp} {Q : Value → Hp → Prop} (hb : (b, AO.seq "list" ys) ∈ σ) (hc : Chg l (.seq "list" xs) (.seq "list" (xs ++ ys)) σ σ') (hz : xs.length + ys.length ≤ sizeLine) (q : Q .none σ') :
    CW X A E (.builtin "list.extend") [.ref l, .ref b] σ Q := fun vs' e s R => by
  obtain ⟨a', i', rfl, e1, e2⟩ := one_arg e
  obtain rfl := er_ref e1
  obtain rfl := er_ref e2
  obtain ⟨i2, n2, h2, e2, z2⟩ := isL R hb
  obtain ⟨pre, post, rfl, rfl⟩ := hc.split
  obtain ⟨items, n, ho, he, hs⟩ := isL R (a := l) (xs := xs) (by simp)
  refine call_meets F.slot_list_extend ⟨_, ho, rfl⟩ F.entry_list_extend (F.args_list_extend_2 _ _) (AutoSeq1.list_extend_list_list_0 l items n b i2 n2 (by simp [Builtin.List.listTooLong]; omega) (by omega) (by omega)) ⟨ho, h2, ?_⟩
  obtain ⟨n', hn'⟩ := seq_upd (s := s) (ys := items ++ i2) (f := fun xs => xs ++ i2) ho rfl
  exact ⟨_, R.upd (tk := s.toks) (x' := .seq "list" (xs ++ ys)) (Heap.SameBut.update ..) hn' (fun p _ => ⟨_, _, rfl, by rw [Array.toList_append, List.map_append, he, e2]⟩), q⟩
theorem CW_lenl {l : Addr} {xs : List Value} {Q : Value → Hp → Prop} (hm : (l, AO.seq "list" xs) ∈ σ) (hz : xs.length ≤ sizeLine) (q : Q (I xs.length) σ) : CW X A E (.builtin "len") [.ref l] σ Q := fun vs' e s R => by
  obtain ⟨a', rfl, e1⟩ := no_arg e
  obtain rfl := er_ref e1
  obtain ⟨items, n, ho, he, hs⟩ := isL R hm
  have := sizeLine_eq
  exact PyProof.Rows.len_list ho.isList (by omega) ⟨σ, R.toks, by (first | (refine rwG hs ?_; try (with_reducible rfl)) | rw [hs]); exact q⟩
theorem CW_lens {x : List Nat} {Q : Value → Hp → Prop} (hz : x.length ≤ sizeLine) (q : Q (I x.length) σ) : CW X A E (.builtin "len") [T x] σ Q := fun vs' e s R => by
  obtain ⟨a', rfl, e1⟩ := no_arg e
  obtain ⟨t, rfl⟩ := er_str e1
  have := sizeLine_eq
  exact PyProof.Rows.len_str (by (first | (refine rwG tx_len ?_; try (with_reducible rfl)) | rw [tx_len]); omega) ⟨σ, R.toks, by (first | (refine rwG tx_len ?_; try (with_reducible rfl)) | rw [tx_len]); exact q⟩
theorem CW_ord {c : Nat} {Q : Value → Hp → Prop} (q : Q (I c) σ) : CW X A E (.builtin "ord") [T [c]] σ Q := fun vs' e s R => by
  obtain ⟨a', rfl, e1⟩ := no_arg e
  obtain ⟨t, rfl⟩ := er_str e1
  exact PyProof.Rows.ord_of_one (by (first | (refine rwG tx_len ?_; try (with_reducible rfl)) | rw [tx_len]); rfl) ⟨σ, R.toks, q⟩
theorem CW_chr {c : Int} {Q : Value → Hp → Prop} (h0 : 0 ≤ c) (h1 : c ≤ 1114111) (q : Q (T [c.toNat]) σ) : CW X A E (.builtin "chr") [I c] σ Q := fun vs' e s R => by
  obtain ⟨a', rfl, e1⟩ := no_arg e
  obtain ⟨t, rfl⟩ := er_int e1
  exact PyProof.Rows.chr_of_range h0 h1 ⟨σ, R.toks, q⟩
theorem CW_abs {c : Int} {Q : Value → Hp → Prop} (q : Q (I c.natAbs) σ) : CW X A E (.builtin "abs") [I c] σ Q := fun vs' e s R => by
  obtain ⟨a', rfl, e1⟩ := no_arg e
  obtain ⟨t, rfl⟩ := er_int e1
  exact PyProof.Rows.call_abs_int fun u tk => ⟨σ, R.toks, by
    have : (if c < 0 then -c else c) = (c.natAbs : Int) := by split <;> omega
    (first | (refine rwG this ?_; try (with_reducible rfl)) | rw [this]); exact q⟩
theorem CW_min2 {a b : Int} {Q : Value → Hp → Prop} (hh : A.handled = none) (q : Q (I (min a b)) σ) : CW X A E (.builtin "min") [I a, I b] σ Q := fun vs' e s R => by
  obtain ⟨a', b', rfl, e1, e2⟩ := one_arg e
  obtain ⟨t, rfl⟩ := er_int e1
  obtain ⟨u, rfl⟩ := er_int e2
  refine min_two_ints hh fun h' tk k => ⟨σ, R.grow k, ?_⟩
  by_cases h : b < a
  · (first | refine ifP h ?_ | rw [if_pos h]); rw [Int.min_eq_right (Int.le_of_lt h)] at q; exact q
  · (first | refine ifN h ?_ | rw [if_neg h]); rw [Int.min_eq_left (by (first | lia | omega))] at q; exact q
theorem CW_join {l : Addr} {ys : List (List Nat)} {Q : Value → Hp → Prop} (hm : (l, AO.seq "list" (ys.map T)) ∈ σ) (hz : ys.flatten.length ≤ sizeLine) (q : Q (T ys.flatten) σ) : CW X A E (.builtin "str.join") [T [], .ref l] σ Q := fun vs' e s R => by
  obtain ⟨a', b', rfl, e1, e2⟩ := one_arg e
  obtain ⟨t, rfl⟩ := er_str e1
  obtain rfl := er_ref e2
  obtain ⟨items, n, ho, he, hs⟩ := isL R hm
  have hl : ((ys.map tx).map (·.length)).sum = ys.flatten.length := by
    rw [List.length_flatten, List.map_map]; congr 1
  have := sizeLine_eq
  refine PyProof.Rows.join_list ho.isList (strsAre_of he) (by rw [show (tx []).length = 0 from tx_len [], Nat.mul_zero, Nat.add_zero, hl]; (first | lia | omega)) fun t' k => ⟨σ, R.toks, ?_⟩
  rw [txt_join]; exact q
end
section
variable {X : Cx} {A : Around} {α β γ δ : Type} {σ : Hp} {E : Value → Shared → Prop} {env : Env}
inductive LessI (X : Cx) (J : Nat → Hp → Prop) (n : Nat) (σ : Hp) : Prop
  | mk (m : Nat) (σ' : Hp) (hp : Im X σ σ') (hm : m < n) (hj : J m σ')
noncomputable def CTurn (X : Cx) (A : Around) (env : Env) (target elt : Expr) (it acc : Addr) (J : Nat → Hp → Prop) (fin : Hp → Prop) (n : Nat) (σ : Hp) : Prop :=
  NX X A F0 it σ (fun r σ₁ => match r with
    | none => ∃ σ', Im X σ₁ σ' ∧ fin σ'
    | some v => LG X A F0 target it v σ₁ (fun σ₂ => AS X A env F0 target v σ₂ (fun σ₃ => EV X A env F0 elt σ₃ (fun x σ₄ => CW X A F0 (.builtin "list.append") [.ref acc, x] σ₄ (fun _ σ₅ => LessI X J n σ₅)))))
theorem compLoop_W {target elt iter : Expr} {scope : Scope} {pos : Pos} {it acc : Addr} {R : Result → Shared → Prop} (J : Nat → Hp → Prop) (fin : Hp → Prop) (hR : ∀ σ' s', Rel X σ' s' → fin σ' → R (.ok .next) s')
    (turn : ∀ n σ, J n σ → CTurn X A env target elt it acc J fin n σ) (n : Nat) (h : J n σ) (s : Shared) (r : Rel X σ s) :
    codeAny (model X.prog X.w) A (.compLoop (.ListComp elt [⟨target, iter, [], 0⟩] scope pos) 0 (.ref it) (.ref acc) env) R s := by
  refine codeAny_loop rfl (fun n s => Ends X J n s) (fun n s ⟨σ, r, hJ⟩ => ?_) n ⟨σ, r, h⟩
  show wpAny _ _ ((compTurn (.ListComp elt [⟨target, iter, [], 0⟩] scope pos) 0 (.ref it) (.ref acc) env).onRaise (fun x => do noteFrame x env; theTreesLotGoes x)) _ _ s
  refine wpAny_noted ?_
  rw [compTurn_list1]
  refine wpAny_bind (wpAny_standAt (wpAny_bind (wpAny_mono (turn n σ hJ s r) (fun ov s₁ ⟨σ₁, R₁, h₁⟩ => ?_) fun _ _ x => x.elim)))
  cases ov with
  | none => obtain ⟨σ', hp, q⟩ := h₁; exact wpAny_pure (hR _ _ (hp _ R₁) q)
  | some v =>
    refine wpAny_bind (wpAny_mono (h₁ v rfl s₁ R₁) (fun _ s₂ ⟨σ₂, R₂, h₂⟩ => ?_) fun _ _ x => x.elim)
    refine wpAny_bind (wpAny_mono (h₂ v rfl s₂ R₂) (fun _ s₃ ⟨σ₃, R₃, h₃⟩ => ?_) fun _ _ x => x.elim)
    refine wpAny_bind (wpAny_bind (wpAny_mono (h₃ s₃ R₃) (fun x s₄ ⟨σ₄, R₄, h₄⟩ => ?_) fun _ _ x => x.elim))
    refine wpAny_bind (wpAny_mono (h₄ [.ref acc, x] rfl s₄ R₄) (fun _ s₅ ⟨σ₅, R₅, m, σ', hp, hm, hj⟩ => ?_) fun _ _ x => x.elim)
    exact wpAny_pure (wpAny_pure ⟨rfl, m, hm, σ', hp _ R₅, hj⟩)
structure CompSc (env : Env) (scope : Scope) (cl : List (Str × Addr)) : Prop where
  clos : closureFor scope env = pure cl
  kind : scope.kind = .function
  names : ∀ x ∈ scope.names, x.2 = .local → scope.names.lookup x.1 = some .local
  nocell : (scope.names.all fun x => x.2 != .cell) = true
theorem Rel.nsOut {s : Shared} {C : Addr} {es : List (Str × Value)} (R : Rel X ((C, .ns es) :: σ) s) : ∃ m, s.heap.Ns C m ∧ ∀ h', Heap.SameBut C s.heap h' → Rel X σ { s with heap := h' } := by
  obtain ⟨m, h1, _⟩ := R.ns (.head _)
  exact ⟨m, h1.ns, fun h' hs => R.but (tk := s.toks) hs.extBut⟩
inductive CRunK (X : Cx) (A : Around) (env : Env) (scope : Scope) (cl : List (Str × Addr)) (target elt : Expr) (it : Addr) (σ : Hp) (Q : Addr → Addr → Hp → Prop) (D C : Addr) : Prop
  | mk (J : Nat → Hp → Prop) (fin : Hp → Prop) (n : Nat) (σ' : Hp) (him : Im X ((C, .ns []) :: (D, .seq "list" []) :: σ) σ') (hJ : J n σ') (turn : ∀ n τ, J n τ → CTurn X A (compEnvC scope cl C env) target elt it D J fin n τ) (hfin : ∀ τ, fin τ → Q D C τ)
noncomputable def CRun (X : Cx) (A : Around) (env : Env) (scope : Scope) (cl : List (Str × Addr)) (target elt : Expr) (it : Addr) (σ : Hp) (Q : Addr → Addr → Hp → Prop) : Prop :=
  ∀ D C, CRunK X A env scope cl target elt it σ Q D C
inductive CompK (X : Cx) (A : Around) (env : Env) (scope : Scope) (cl : List (Str × Addr)) (target elt : Expr) (Z : Addr → Addr → Hp → Prop) (i : Value) (σ₂ : Hp) : Prop
  | mk (it : Addr) (ei : i = .ref it) (hself : ∀ s, Rel X σ₂ s → ∀ (K : Value → Shared → Prop) E', K (.ref it) s → ∀ D C, Rel X ((C, .ns []) :: (D, .seq "list" []) :: σ₂) s → wpAny (model X.prog X.w) A (pyIter (.ref it)) K E' s) (hrun : CRun X A env scope cl target elt it σ₂ Z)
theorem comp_W {target elt iter : Expr} {scope : Scope} {cl : List (Str × Addr)} {pos p : Pos} {use : Option (Value → Sem Unit)} {Q : Value → Shared → Prop} {s : Shared} (c : CompSc env scope cl) (hs : ∀ x, foldedSetIterable iter env x = pure x) (R : Rel X σ s)
    (h : EV X A env E iter σ (fun x σ₁ => PI X A E x σ₁ (CompK X A env scope cl target elt (fun D C σ₃ => ∀ s, Rel X σ₃ s → compPost (model X.prog X.w) A E use Q (.ref D) C (.ok .next) s)))) :
    wpAny (model X.prog X.w) A (comprehension (.ListComp elt [⟨target, iter, [], 0⟩] scope pos) scope env p (newList []) false (eval iter env) use) Q E s := by
  refine wpAny_comprehension_free (g := ⟨target, iter, [], 0⟩) (gs := []) rfl hs c.clos c.kind c.names ?_
  refine h.use R fun x s₁ σ₁ R₁ h₁ => (h₁ x rfl).use R₁ fun i s₂ σ₂ R₂ ⟨it, ei, hself, hrun⟩ => ?_
  obtain rfl := er_ref ei
  refine wpAny_newObj_type ?_
  have R₃ : Rel X ((s₂.heap.objs.size, .seq "list" []) :: σ₂) { s₂ with heap := s₂.heap.push { cls := .type "list", data := .seq ([] : List Value).toArray } } := push_new (x := .seq "list" []) (tk := s₂.toks) R₂ rfl (fun p _ => ⟨_, 0, rfl, rfl⟩)
  refine wpAny_mono (newFunctionEnv_W (bs := []) (Q := fun cenv σ₄ => ∃ C, cenv = newEnv scope C env.globals cl env.qual none .none (some env) 0 ∧ σ₄ = (C, .ns []) :: (s₂.heap.objs.size, .seq "list" []) :: σ₂) rfl (fun C => CK_plain c.nocell (show BD X A _ F0 [] _ _ from ⟨C, rfl, rfl⟩)) _ R₃)
    (fun cenv s₄ ⟨σ₄, R₄, C, e1, e2⟩ => ?_) fun _ _ x => x.elim
  have e1 : cenv = newEnv scope C env.globals cl env.qual none .none (some env) 0 := e1
  subst e1 e2
  obtain ⟨J, fin, n, σ', him, hJ, turn, hfin⟩ := hrun s₂.heap.objs.size C
  have loop : ∀ s₄, Rel X ((C, .ns []) :: (s₂.heap.objs.size, .seq "list" []) :: σ₂) s₄ → codeAny (model X.prog X.w) A (.compLoop (.ListComp elt [⟨target, iter, [], 0⟩] scope pos) 0 (.ref it) (.ref s₂.heap.objs.size) (compEnvC scope cl C env)) (compPost (model X.prog X.w) A E use Q (.ref s₂.heap.objs.size) C) s₄ :=
    fun s₄ R₄ => compLoop_W J fin (fun σ' s' R' hf => hfin σ' hf s' R') turn n hJ s₄ (him _ R₄)
  exact codeAny_compStart_list (loop s₄ R₄) (hself s₄ (R₄.sub (fun q hq => .tail _ (.tail _ hq)) (let ⟨_, r⟩ := R₄; by have := r.nodup; simp only [List.map_cons, List.nodup_cons] at this; exact this.2.2)) _ _ (loop s₄ R₄) _ _ R₄)
theorem CW_im {f : Value} {vs : List Value} {σ' : Hp} {Q : Value → Hp → Prop} (h : Im X σ σ') (k : CW X A E f vs σ' Q) : CW X A E f vs σ Q := fun vs' e s R => k vs' e s (h s R)
theorem Chg_app {a : Addr} {x x' : AO} {r r' : Hp} (h : Chg a x x' r r') : ∀ τ : Hp, Chg a x x' (τ ++ r) (τ ++ r')
  | [] => h
  | _ :: τ => .there (Chg_app h τ)
theorem put_one {x : Str} {v : Value} {es : List (Str × Value)} (h : es = [] ∨ ∃ w, es = [(x, w)]) : Put x v es [(x, v)] := by
  rcases h with rfl | ⟨w, rfl⟩
  · exact .nil
  · exact .here
theorem PI_self {it l : Addr} {i : Nat} {s : Shared} (R : Rel X σ s) (hm : (it, LI l i) ∈ σ) {K : Value → Shared → Prop} {E' : Value → Shared → Prop} (k : K (.ref it) s) : wpAny (model X.prog X.w) A (pyIter (.ref it)) K E' s := by
  obtain ⟨p, o, _, ho, hc, hd⟩ := R.get hm
  exact wpAny_pyIter_listiter (l := l) (i := i) ⟨o, ho, hc, hd⟩ k
theorem comp_swap {x : Str} {px spos : Pos} {target elt iter : Expr} {scope : Scope} {pos : Pos} {cl : List (Str × Addr)} {Q : Flow → Hp → Prop} (hsw : swapsWith (.ListComp elt [⟨target, iter, [], 0⟩] scope pos) (some (.Name x px)) spos.line env = pure true)
    (c : CompSc env scope cl) (hs : ∀ x, foldedSetIterable iter env x = pure x)
    (h : EV X A env E iter σ (fun v σ₁ => PI X A E v σ₁ (CompK X A env scope cl target elt (fun D C σ₃ => ∀ s, Rel X σ₃ s → compPost (model X.prog X.w) A E (some (assign (.Name x px) env)) (fun _ s' => Ends X Q .next s') (.ref D) C (.ok .next) s)))) :
    EX X A env E (.Assign [.Name x px] (.ListComp elt [⟨target, iter, [], 0⟩] scope pos) spos) σ Q := fun s R => by
  rw [exec_Assign_Name_used _ _ _ _ hsw]
  refine wpAny_bind (wpAny_standAt (wpAny_bind ?_))
  show wpAny _ A (do let _ ← comprehension (.ListComp elt [⟨target, iter, [], 0⟩] scope pos) scope env _ (newList []) false (eval iter env) (some (assign (.Name x px) env))) _ _ s
  exact wpAny_bind (wpAny_mono (comp_W (use := some (assign (.Name x px) env)) c hs R h) (fun _ s' q => wpAny_pure (wpAny_pure q)) fun _ _ e => e)
theorem swap_post {y : Str} {py : Pos} {D C : Addr} {es : List (Str × Value)} {τ : Hp} {zs : List Value} {Q : Flow → Hp → Prop} (hq : ∀ R, ST X A env E y (.ref D) ((D, .seq "list" zs) :: (τ ++ R)) (Lft (fun σ' => σ' ++ R) (Q .next))) {s : Shared}
    (R : Rel X ((C, .ns es) :: (D, .seq "list" zs) :: τ) s) : compPost (model X.prog X.w) A E (some (assign (.Name y py) env)) (fun _ s' => Ends X Q .next s') (.ref D) C (.ok .next) s := by
  have R' : Rel X ((D, .seq "list" zs) :: (τ ++ [(C, .ns es)])) s := R.perm (List.perm_append_comm (l₁ := [(C, AO.ns es)]) (l₂ := (D, AO.seq "list" zs) :: τ))
  refine (AS_Name (pos := py) (hq [(C, .ns es)]) (.ref D) rfl).use R' fun _ s₂ σ₂ R₂ ⟨σ', hp, q⟩ => ?_
  have R₃ : Rel X ((C, .ns es) :: σ') s₂ := (R₂.pick hp).perm List.perm_append_comm
  obtain ⟨m, hn, hk⟩ := R₃.nsOut
  exact ⟨m, hn, fun h' hs' => ⟨σ', hk h' hs', q⟩⟩
end
section
variable {X : Cx} {A : Around} {α β γ δ : Type} {σ : Hp} {E : Value → Shared → Prop} {env : Env}
theorem er_ints1 {vs' : List Value} {a : Int} (e : vs'.map er = [I a]) : ∃ t, vs' = [.int a t] := by
  obtain ⟨v, rfl, e1⟩ := no_arg e
  obtain ⟨t, rfl⟩ := er_int e1
  exact ⟨t, rfl⟩
theorem CW_range1 {b : Int} {Q : Value → Hp → Prop} (q : ∀ r, Q (.ref r) ((r, .rng 0 b 1) :: σ)) : CW X A E (.type "range") [I b] σ Q := fun vs' e s R => by
  obtain ⟨t, rfl⟩ := er_ints1 e
  exact call_range_1 ⟨_, push_new (x := .rng 0 b 1) (tk := s.toks + 1 + 1) R rfl (fun p _ => ⟨_, _, _, rfl⟩), q _⟩
theorem CW_range2 {a b : Int} {Q : Value → Hp → Prop} (q : ∀ r, Q (.ref r) ((r, .rng a b 1) :: σ)) : CW X A E (.type "range") [I a, I b] σ Q := fun vs' e s R => by
  obtain ⟨a', b', rfl, e1, e2⟩ := one_arg e
  obtain ⟨t, rfl⟩ := er_int e1
  obtain ⟨u, rfl⟩ := er_int e2
  exact call_range_2 ⟨_, push_new (x := .rng a b 1) (tk := s.toks + 1) R rfl (fun p _ => ⟨_, _, _, rfl⟩), q _⟩
inductive Arg3 (vs' : List Value) (a b c : Value) : Prop
  | mk (a' b' c' : Value) (e : vs' = [a', b', c']) (ha : er a' = a) (hb : er b' = b) (hc : er c' = c)
theorem two_arg {vs' : List Value} {a b c : Value} (e : vs'.map er = [a, b, c]) : Arg3 vs' a b c := by
  match vs', e with
  | [], e => simp at e
  | [_], e => simp at e
  | [_, _], e => simp at e
  | _ :: _ :: _ :: _ :: _, e => simp at e
  | [x, y, z], e => simp only [List.map_cons, List.map_nil, List.cons.injEq] at e; exact ⟨x, y, z, rfl, e.1, e.2.1, e.2.2.1⟩
theorem CW_range3 {a b c : Int} {Q : Value → Hp → Prop} (hc : c ≠ 0) (hp : Builtin.divisionGoesByPylong (b - a) c = false) (q : ∀ r, Q (.ref r) ((r, .rng a b c) :: σ)) : CW X A E (.type "range") [I a, I b, I c] σ Q := fun vs' e s R => by
  obtain ⟨a', b', c', rfl, e1, e2, e3⟩ := two_arg e
  obtain ⟨t, rfl⟩ := er_int e1
  obtain ⟨u, rfl⟩ := er_int e2
  obtain ⟨v, rfl⟩ := er_int e3
  exact call_range_3 hc ⟨_, push_new (x := .rng a b c) (tk := s.toks) R rfl (fun p _ => ⟨_, _, _, rfl⟩), q _⟩ (.inl hp)
theorem itemsOf_map {a c : Int} {n : Nat} {acc : Array Value} (h : ItemsOf (fun i v => ∃ t, v = Value.int (a + i * c) t) acc n) : acc.toList.map er = (List.range n).map fun i : Nat => I (a + i * c) := by
  apply List.ext_getElem?
  intro j
  simp only [List.getElem?_map, Array.getElem?_toList]
  by_cases hj : j < n
  · have hj' : j < acc.size := by rw [h.1]; exact hj
    obtain ⟨t, ht⟩ := h.2 j acc[j] (Array.getElem?_eq_getElem hj')
    rw [Array.getElem?_eq_getElem hj', ht, List.getElem?_range hj]; rfl
  · rw [Array.getElem?_eq_none (by rw [h.1]; (first | lia | omega)), List.getElem?_eq_none (by simp; (first | lia | omega))]; rfl
theorem CW_list_range {r : Addr} {a b c : Int} {n : Nat} {Q : Value → Hp → Prop} (hh : A.handled = none) (hm : (r, AO.rng a b c) ∈ σ) (hsm : Builtin.Range.small a b c = true) (hn : Builtin.Range.rangeSize a b c = n) (hl : n ≤ sizeLine)
    (q : ∀ l, Q (.ref l) ((l, .seq "list" ((List.range n).map fun i : Nat => I (a + i * c))) :: σ)) : CW X A E (.type "list") [.ref r] σ Q := fun vs' e s R => by
  obtain ⟨v, rfl, e1⟩ := no_arg e
  obtain rfl := er_ref e1
  obtain ⟨p, o, _, ho, t, u, w, rfl⟩ := R.get hm
  refine call_list_range hh ho hsm hn hl fun h' tk acc c' k hD hi => ⟨_, R.new (x := .seq "list" ((List.range n).map fun i : Nat => I (a + i * c))) ?_ k hD (fun p _ => ⟨acc, c', rfl, itemsOf_map hi⟩), q _⟩
  cases q : s.heap.get? s.heap.objs.size with
  | none => rfl
  | some o' => exact absurd (Heap.lt_size q) (Nat.lt_irrefl _)
theorem PI_rng {r : Addr} {a b c : Int} {Q : Value → Hp → Prop} (hm : (r, AO.rng a b c) ∈ σ) (hsm : Builtin.Range.small a b c = true) (q : ∀ it, Q (.ref it) ((it, RI a (Builtin.Range.rangeSize a b c) c) :: σ)) : PI X A E (.ref r) σ Q := fun x' e s R => by
  obtain rfl := er_ref e
  obtain ⟨p, o, _, ho, t, u, w, rfl⟩ := R.get hm
  exact wpAny_pyIter_range ho hsm ⟨_, push_new (x := RI a (Builtin.Range.rangeSize a b c) c) (tk := s.toks) R rfl (fun p _ => rfl), q _⟩
theorem NX_rng {it : Addr} {x left step : Int} {Q : Option Value → Hp → Prop} (hh : A.handled = none) (h1 : 0 < left → Q (some (I x)) ((it, RI (x + step) (left - 1) step) :: σ)) (h2 : left ≤ 0 → Q none σ) : NX X A E it ((it, RI x left step) :: σ) Q := fun s R => by
  have hit := R.obj (.head _)
  by_cases hl : 0 < left
  · refine wpAny_pyNext_range_item hit hl fun h' hit' hs => ⟨_, R.upd0 (x' := RI (x + step) (left - 1) step) (tk := s.toks + 1) hs hit' (fun _ => rfl), h1 hl⟩
  · exact wpAny_pyNext_range_end hh hit (by (first | lia | omega)) fun h' k => ⟨σ, R.but (tk := s.toks) k, h2 (by (first | lia | omega))⟩
theorem PI_self_obj {it : Addr} {x left step : Int} {s : Shared} (R : Rel X σ s) (hm : (it, RI x left step) ∈ σ) {K : Value → Shared → Prop} {E' : Value → Shared → Prop} (k : K (.ref it) s) : wpAny (model X.prog X.w) A (pyIter (.ref it)) K E' s :=
  wpAny_pyIter_rangeiter (R.obj hm) k
inductive ForRangeK (X : Cx) (A : Around) (env : Env) (target : Expr) (body : List Stmt) (I' : Nat → Hp → Prop) (Q : Flow → Hp → Prop) (x : Value) (σ : Hp) : Prop
  | mk (r : Addr) (a b c : Int) (n : Nat) (e : x = .ref r) (hr : (r, AO.rng a b c) ∈ σ) (hsm : Builtin.Range.small a b c = true) (hn : Builtin.Range.rangeSize a b c = (n : Nat)) (h0 : I' 0 σ) (fin : ∀ τ, I' n τ → Q .next τ)
    (turn : ∀ i (hi : i < n) τ it, I' i τ → AS X A env F0 target (I (a + i * c)) ((it, RI (a + i * c + c) ((n : Int) - i - 1) c) :: τ) (fun σ₃ => XS X A env F0 body σ₃ (LoopF (fun τ' => (it, RI (a + i * c + c) ((n : Int) - i - 1) c) :: τ') (I' (i + 1)) Q)))
theorem EX_ForRange {target iter body pos} {Q : Flow → Hp → Prop} (hh : A.handled = none) (hs : ∀ x, foldedSetIterable iter env x = pure x) (I' : Nat → Hp → Prop)
    (h : EV X A env E iter σ (ForRangeK X A env target body I' Q))
    (hlg : ∀ it v σ (Q : Hp → Prop), Q σ → LG X A F0 target it v σ Q) : EX X A env E (.For target iter body [] pos) σ Q := by
  refine EX_For hs (h.mono fun x σ₁ ⟨r, a, b, c, n, ex, hr, hsm, hn, h0, fin, turn⟩ => ?_)
  subst ex
  refine PI_rng hr hsm fun it => ⟨it, rfl, fun m τ => ∃ i τ', m = n + 1 - i ∧ i ≤ n ∧ τ = (it, RI (a + i * c) ((n : Int) - i) c) :: τ' ∧ I' i τ', n + 1, ⟨0, σ₁, rfl, Nat.zero_le _, by (first | (refine rwG hn ?_; try (with_reducible rfl)) | rw [hn]); simp, h0⟩, ?_⟩
  rintro m τ ⟨i, τ', rfl, hi, rfl, hI⟩
  unfold Turn
  refine NX_rng hh (fun hl => ?_) fun hl => ⟨τ', fun _ R => R, ?_⟩
  · have hlt : i < n := by (first | lia | omega)
    refine hlg _ _ _ _ ?_
    intro v'' e''
    refine (turn i hlt τ' it hI v'' e'').mono fun _ σ₃ h₃ => h₃.mono fun f σ₄ h₄ => ?_
    have e1 : a + (i : Int) * c + c = a + ((i + 1 : Nat) : Int) * c := by rw [Int.natCast_add, Int.add_mul]; simp; (first | lia | omega)
    have e2 : (n : Int) - i - 1 = (n : Int) - ((i + 1 : Nat) : Int) := by (first | lia | omega)
    cases f with
    | next => obtain ⟨τ'', hp, hI'⟩ := h₄; exact ⟨_, _, hp.im, dec1 hlt, i + 1, τ'', rfl, hlt, by ((first | (refine rwG e1 ?_; try (with_reducible rfl)) | rw [e1]); (first | (refine rwG e2 ?_; try (with_reducible rfl)) | rw [e2])), hI'⟩
    | cont => obtain ⟨τ'', hp, hI'⟩ := h₄; exact ⟨_, _, hp.im, dec1 hlt, i + 1, τ'', rfl, hlt, by ((first | (refine rwG e1 ?_; try (with_reducible rfl)) | rw [e1]); (first | (refine rwG e2 ?_; try (with_reducible rfl)) | rw [e2])), hI'⟩
    | brk => obtain ⟨σ', hp, q⟩ := h₄; exact ⟨σ', hp.im, q⟩
    | ret v => obtain ⟨σ', hp, q⟩ := h₄; exact ⟨σ', hp.im, q⟩
  · have : i = n := by (first | lia | omega)
    subst this
    exact fin _ hI
end
section
variable {X : Cx} {A : Around} {α β γ δ : Type} {σ : Hp} {E : Value → Shared → Prop} {env : Env}
theorem fresh_size {h : Heap} : h.get? h.objs.size = none := by
  cases q : h.get? h.objs.size with
  | none => rfl
  | some o' => exact absurd (Heap.lt_size q) (Nat.lt_irrefl _)
structure Src (X : Cx) (A : Around) (target : Expr) (it : Addr) (own : Nat → Hp) (P : Hp → Prop) (n : Nat) (B : Env → Nat → Hp → (Hp → Prop) → Prop) : Prop where
  step : ∀ env' i τ K, i < n → P τ → B env' i (own (i + 1) ++ τ) K → NX X A F0 it (own i ++ τ) (fun r σ₁ => ∃ v, r = some v ∧ LG X A F0 target it v σ₁ (fun σ₂ => AS X A env' F0 target v σ₂ K))
  done : ∀ τ, P τ → NX X A F0 it (own n ++ τ) (fun r σ₁ => r = none ∧ Im X σ₁ τ)
theorem For_src {target : Expr} {it : Addr} {own : Nat → Hp} {P : Hp → Prop} {n : Nat} {B : Env → Nat → Hp → (Hp → Prop) → Prop} {body : List Stmt} {Q : Flow → Hp → Prop} (S : Src X A target it own P n B) (J : Nat → Hp → Prop) (hP : ∀ i τ, J i τ → P τ)
    (fin : ∀ τ, J n τ → Q .next τ)
    (turn : ∀ i (hi : i < n) τ, J i τ → B env i (own (i + 1) ++ τ) (fun σ₃ => XS X A env F0 body σ₃ (LoopF (fun τ' => own (i + 1) ++ τ') (J (i + 1)) Q))) :
    ∀ m τ, (fun m τ => ∃ i τ', m = n + 1 - i ∧ i ≤ n ∧ τ = own i ++ τ' ∧ J i τ') m τ → Turn X A env target it body (fun m τ => ∃ i τ', m = n + 1 - i ∧ i ≤ n ∧ τ = own i ++ τ' ∧ J i τ') Q m τ := by
  rintro m τ ⟨i, τ', rfl, hi, rfl, hI⟩
  unfold Turn
  by_cases hlt : i < n
  · refine (S.step env i τ' _ hlt (hP i τ' hI) (turn i hlt τ' hI)).mono fun r σ₁ ⟨v, er, h₁⟩ => ?_
    subst er
    refine fun v' e => (h₁ v' e).mono fun _ σ₂ h₂ v'' e'' => (h₂ v'' e'').mono fun _ σ₃ h₃ => h₃.mono fun f σ₄ h₄ => ?_
    cases f with
    | next => obtain ⟨τ'', hp, hI'⟩ := h₄; exact ⟨_, _, hp.im, dec1 hlt, i + 1, τ'', rfl, hlt, rfl, hI'⟩
    | cont => obtain ⟨τ'', hp, hI'⟩ := h₄; exact ⟨_, _, hp.im, dec1 hlt, i + 1, τ'', rfl, hlt, rfl, hI'⟩
    | brk => obtain ⟨σ', hp, q⟩ := h₄; exact ⟨σ', hp.im, q⟩
    | ret v => obtain ⟨σ', hp, q⟩ := h₄; exact ⟨σ', hp.im, q⟩
  · have e : i = n := by omega
    subst e
    refine (S.done τ' (hP i τ' hI)).mono fun r σ₁ ⟨er, him⟩ => ?_
    subst er
    exact ⟨τ', him, fin τ' hI⟩
theorem perm_mid (o : Hp) (c d : Addr × AO) (τ : Hp) : (o ++ c :: (τ ++ [d])).Perm (c :: (τ ++ d :: o)) := by
  have h : (c :: (τ ++ d :: o)) = (c :: (τ ++ [d])) ++ o := by simp
  (first | (refine rwG h ?_; try (with_reducible rfl)) | rw [h]); exact List.perm_append_comm
theorem Src_list {x : Str} {px : Pos} {l it : Addr} {xs : List Value} (hh : A.handled = none) : Src X A (.Name x px) it (fun i => [(it, LI l i)]) (fun τ => (l, AO.seq "list" xs) ∈ τ) xs.length (fun env i σ K => ∀ hi : i < xs.length, ST X A env F0 x xs[i] σ K) :=
  ⟨fun env' i τ K hi hl h => NX_list hh hl (fun v hv => by
      obtain ⟨hlt, rfl⟩ := List.getElem?_eq_some_iff.mp hv
      exact ⟨_, rfl, LG_Name (AS_Name (h hi))⟩) (fun hv => by simp at hv; omega),
    fun τ hl => NX_list hh hl (fun v hv => by simp at hv) (fun _ => ⟨rfl, fun _ R => R⟩)⟩
theorem CW_enum {l : Addr} {xs : List Value} {Q : Value → Hp → Prop} (hm : (l, AO.seq "list" xs) ∈ σ) (q : ∀ e it, Q (.ref e) ((e, .enum it 0 none) :: (it, LI l 0) :: σ)) : CW X A E (.type "enumerate") [.ref l] σ Q := fun vs' e s R => by
  obtain ⟨v, rfl, e1⟩ := no_arg e
  obtain rfl := er_ref e1
  obtain ⟨items, n, ho, he, hs⟩ := isL R hm
  refine call_enumerate_list ho.isList fun h' he' hit hsz k => ⟨_, R.chg (pre := []) (pre' := []) (new := [(s.heap.objs.size + 1, .enum s.heap.objs.size 0 none), (s.heap.objs.size, LI l 0)]) (tk := s.toks) (fun b o _ => k b o) rfl (fun _ hq => by cases hq) ?_ (by simp), q _ _⟩
  intro q hq
  have big : ∀ b, s.heap.objs.size ≤ b → s.heap.get? b = none := fun b hb => by
    cases z : s.heap.get? b with
    | none => rfl
    | some o => exact absurd (Heap.lt_size z) (Nat.not_lt.mpr hb)
  simp only [List.mem_cons, List.not_mem_nil, or_false] at hq
  rcases hq with rfl | rfl
  · exact ⟨big _ (by simp), _, he', fun p => ⟨.none, rfl⟩⟩
  · obtain ⟨o, h1, h2, h3⟩ := hit
    exact ⟨big _ (Nat.le_refl _), o, h1, fun p => ⟨h2, h3⟩⟩
theorem PI_enum {e it : Addr} {i : Int} {Q : Value → Hp → Prop} (hm : (e, AO.enum it i none) ∈ σ) (q : Q (.ref e) σ) : PI X A E (.ref e) σ Q := fun x' ex s R => by
  obtain rfl := er_ref ex
  obtain ⟨p, o, _, ho, old, rfl⟩ := R.get hm
  exact wpAny_pyIter_enum (old := old) (it := it) (i := i) ho ⟨σ, R, q⟩
theorem Src_enum {elts : List Expr} {k tpos} {e it l : Addr} {xs : List Value} (hh : A.handled = none) (hl2 : elts.length = 2) (hst : elts.all noStar = true) :
    Src X A (.Tuple elts k tpos) e (fun i => [(e, .enum it i none), (it, LI l i)]) (fun τ => (l, AO.seq "list" xs) ∈ τ) xs.length (fun env i σ K => ∀ hi : i < xs.length, AE X A env F0 elts [I i, xs[i]] σ K) := by
  constructor
  · intro env' i τ K hi hl h s R
    obtain ⟨p, o, r, ho, old, rfl⟩ := R.get (.head _)
    have nd : e ≠ it := by
      obtain ⟨p, r⟩ := R
      have := r.nodup
      simp only [List.cons_append, List.map_cons, List.nodup_cons, List.mem_cons, not_or] at this
      exact this.1.1
    obtain ⟨p2, o2, _, ho2, hc2, hd2⟩ := R.get me1
    obtain ⟨items, n, hL, he, hsz⟩ := isL R (.tail _ (.tail _ hl))
    have hlt : i < items.size := by (first | lia | omega)
    refine wpAny_pyNext_enum_item (old := old) ho ⟨o2, ho2, hc2, hd2⟩ hL.isList (Array.getElem?_eq_getElem hlt) nd fun h' he' hit' hT _ k => ?_
    obtain ⟨o3, g1, g2, g3⟩ := hit'
    have ex : er items[i] = xs[i] := by
      have : xs[i] = (items.toList.map er)[i]'(by simp; (first | lia | omega)) := by simp [he]
      (first | (refine rwG this ?_; try (with_reducible rfl)) | rw [this]); simp
    refine ⟨_, R.chg (pre := [(e, .enum it i none), (it, LI l i)]) (pre' := [(e, .enum it ((i : Int) + 1) (some s.heap.objs.size)), (it, LI l (i + 1))]) (new := [(s.heap.objs.size, .seq "tuple" [I i, xs[i]])]) (tk := s.toks + 1) (fun b o hb => k b o (fun z => hb (by simp [z])) fun z => hb (by simp [z])) rfl ?_ ?_ (by simp), ?_⟩
    · intro q hq
      simp only [List.mem_cons, List.not_mem_nil, or_false] at hq
      rcases hq with rfl | rfl
      · exact ⟨_, he', fun p => ⟨_, rfl⟩⟩
      · exact ⟨o3, g1, fun p => ⟨g2, g3⟩⟩
    · intro q hq
      simp only [List.mem_cons, List.not_mem_nil, or_false] at hq
      subst hq
      exact ⟨fresh_size, _, hT, fun p => ⟨_, _, rfl, by show [er (Value.int (i : Int) s.toks), er items[i]] = _; (first | (refine rwG ex ?_; try (with_reducible rfl)) | rw [ex]); rfl⟩⟩
    · refine ⟨.ref s.heap.objs.size, rfl, fun v' ev s₂ R₂ => ?_⟩
      obtain rfl := er_ref ev
      obtain ⟨p3, o4, _, ho4, old4, rfl⟩ := R₂.get (a := e) (x := .enum it ((i : Int) + 1) (some s.heap.objs.size)) (by simp)
      refine wpAny_letOwnedTupleGo_enum ho4 fun h₂ he₂ hs₂ => ⟨_, R₂.upd (pre := [(s.heap.objs.size, .seq "tuple" [I i, xs[i]])]) (tk := s₂.toks) (x' := .enum it ((i : Int) + 1) none) hs₂ he₂ (fun p _ => ⟨_, rfl⟩), ?_⟩
      exact AS_TupleI hh (.head _) (by (first | (refine rwG hl2 ?_; try (with_reducible rfl)) | rw [hl2]); rfl) hst (fun _ R => R.sublist (.cons _ (.refl _))) (h hi)
  · intro τ hl s R
    obtain ⟨p, o, r, ho, old, rfl⟩ := R.get (.head _)
    obtain ⟨p2, o2, _, ho2, hc2, hd2⟩ := R.get me1
    obtain ⟨items, n, hL, he, hsz⟩ := isL R (.tail _ (.tail _ hl))
    have R' : Rel X ((it, LI l xs.length) :: τ) s := R.sublist (.cons _ (.refl _))
    exact wpAny_pyNext_enum_end hh (old := old) ho ⟨o2, ho2, hc2, hd2⟩ hL.isList (Array.getElem?_eq_none (by (first | lia | omega))) fun h' k => ⟨_, R'.but (tk := s.toks) k, rfl, fun _ R => R⟩
end
noncomputable def low (c : Nat) : Nat := if 65 ≤ c ∧ c ≤ 90 then c + 32 else c
theorem lower_all : ∀ c : Fin 128, Txt.lower (tx [c.val]) = tx [low c.val] := by decide +kernel
theorem lower_one {c : Nat} (h : c < 128) : Txt.lower (tx [c]) = tx [low c] := lower_all ⟨c, h⟩
theorem intItems_of {items : Array Value} {ns : List Int} (e : items.toList.map er = ns.map I) : ∃ xs : Array (Int × Tok), items = intItems xs ∧ xs.toList.map (·.1) = ns := by
  obtain ⟨l⟩ := items
  have : ∀ (l : List Value) (ns : List Int), l.map er = ns.map I → ∃ xs : List (Int × Tok), l = xs.map (fun p => Value.int p.1 p.2) ∧ xs.map (·.1) = ns := by
    intro l
    induction l with
    | nil => intro ns e; cases ns with
      | nil => exact ⟨[], rfl, rfl⟩
      | cons _ _ => simp at e
    | cons v l ih => intro ns e; cases ns with
      | nil => simp at e
      | cons n ns =>
        simp only [List.map_cons, List.cons.injEq] at e
        obtain ⟨t, rfl⟩ := er_int e.1
        obtain ⟨xs, rfl, rfl⟩ := ih ns e.2
        exact ⟨(n, t) :: xs, rfl, rfl⟩
  obtain ⟨xs, h1, h2⟩ := this l ns e
  exact ⟨xs.toArray, by simp [intItems, h1], by simpa using h2⟩
theorem numAt_of {xs : Array (Int × Tok)} {ns : List Int} (e : xs.toList.map (·.1) = ns) (i : Nat) : numAt xs i = ns.getD i 0 := by
  subst e
  unfold numAt
  simp [List.getD_eq_getElem?_getD]
noncomputable def maxI (ns : List Int) : Int := ns.getD (argBest (fun i j => decide (ns.getD i 0 > ns.getD j 0)) (ns.length - 1)) 0
noncomputable def sumI (ns : List Int) : Int := preSum (fun i => ns.getD i 0) ns.length
theorem argBest_le (bt : Nat → Nat → Bool) : ∀ k, argBest bt k ≤ k
  | 0 => Nat.le_refl _
  | k + 1 => by
    unfold argBest
    split
    · exact Nat.le_refl _
    · exact Nat.le_succ_of_le (argBest_le bt k)
section
variable {X : Cx} {A : Around} {α β γ δ : Type} {σ : Hp} {E : Value → Shared → Prop} {env : Env}
theorem CW_max1 {l : Addr} {ns : List Int} {Q : Value → Hp → Prop} (hh : A.handled = none) (hm : (l, AO.seq "list" (ns.map I)) ∈ σ) (hne : 0 < ns.length) (q : Q (I (maxI ns)) σ) : CW X A E (.builtin "max") [.ref l] σ Q := fun vs' e s R => by
  obtain ⟨v, rfl, e1⟩ := no_arg e
  obtain rfl := er_ref e1
  obtain ⟨items, n, ho, he, hs⟩ := isL R hm
  obtain ⟨xs, rfl, hx⟩ := intItems_of he
  have hsz : xs.size = ns.length := by (first | (refine rwG hx.symm ?_; try (with_reducible rfl)) | rw [← hx]); simp
  refine max_intList hh ho.isList (by (first | lia | omega)) fun v h' tk hv k => ⟨σ, R.grow k, ?_⟩
  have hb : (fun i j => decide (numAt xs i > numAt xs j)) = fun i j => decide (ns.getD i 0 > ns.getD j 0) := by funext i j; rw [numAt_of hx, numAt_of hx]
  obtain ⟨t, rfl⟩ := intItems_at hv
  rw [numAt_of hx, hb, hsz]
  exact q
theorem CW_sum {l : Addr} {ns : List Int} {Q : Value → Hp → Prop} (hh : A.handled = none) (hm : (l, AO.seq "list" (ns.map I)) ∈ σ) (hf : ∀ j, j < ns.length → InLong (ns.getD j 0) ∧ InLong (preSum (fun i => ns.getD i 0) (j + 1))) (q : Q (I (sumI ns)) σ) : CW X A E (.builtin "sum") [.ref l] σ Q := fun vs' e s R => by
  obtain ⟨v, rfl, e1⟩ := no_arg e
  obtain rfl := er_ref e1
  obtain ⟨items, n, ho, he, hs⟩ := isL R hm
  obtain ⟨xs, rfl, hx⟩ := intItems_of he
  have hsz : xs.size = ns.length := by (first | (refine rwG hx.symm ?_; try (with_reducible rfl)) | rw [← hx]); simp
  have hb : numAt xs = fun i => ns.getD i 0 := by funext i; rw [numAt_of hx]
  refine sum_intList hh ho.isList (by ((first | (refine rwG hb ?_; try (with_reducible rfl)) | rw [hb]); (first | (refine rwG hsz ?_; try (with_reducible rfl)) | rw [hsz])); exact hf) fun h' tk t' k => ⟨σ, R.grow k, ?_⟩
  ((first | (refine rwG hb ?_; try (with_reducible rfl)) | rw [hb]); (first | (refine rwG hsz ?_; try (with_reducible rfl)) | rw [hsz])); exact q
theorem CW_sorted {l : Addr} {ns : List Int} {Q : Value → Hp → Prop} (hm : (l, AO.seq "list" (ns.map I)) ∈ σ) (h64 : ns.length < 64) (q : ∀ a (ns' : List Int), ns'.Perm ns → ns'.Pairwise (· ≤ ·) → Q (.ref a) ((a, .seq "list" (ns'.map I)) :: σ)) : CW X A E (.builtin "sorted") [.ref l] σ Q := fun vs' e s R => by
  obtain ⟨v, rfl, e1⟩ := no_arg e
  obtain rfl := er_ref e1
  obtain ⟨items, n, ho, he, hs⟩ := isL R hm
  rw [List.length_map] at hs
  obtain ⟨ls⟩ := items
  refine sorted_ints ho.isList (intsAre_of he) (Nat.lt_of_le_of_lt (Nat.le_of_eq hs) h64) fun out ns' h1 h2 h3 => ?_
  obtain ⟨n', hn'⟩ := sortedAll_at s.heap ls out
  refine ⟨_, R.new (x := .seq "list" (ns'.map I)) (tk := s.toks) ?_ (fun b o e => sortedAll_old e) hn' (fun p _ => ⟨out, n', rfl, intsAre_er h1⟩), q _ ns' h2 h3⟩
  cases z : s.heap.get? (s.heap.objs.size + 1) with
  | none => rfl
  | some o => exact absurd (Heap.lt_size z) (Nat.not_lt.mpr (Nat.le_succ _))
theorem CW_lower {c : Nat} {Q : Value → Hp → Prop} (hc : c < 128) (q : Q (T [low c]) σ) : CW X A E (.builtin "str.lower") [T [c]] σ Q := fun vs' e s R => by
  obtain ⟨v, rfl, e1⟩ := no_arg e
  obtain ⟨t, rfl⟩ := er_str e1
  refine PyProof.Rows.SCL.lower (by (first | (refine rwG tx_len ?_; try (with_reducible rfl)) | rw [tx_len]); show 1 ≤ 5592405; decide) fun _ => ⟨σ, R.toks, ?_⟩
  rw [lower_one hc]; exact q
theorem CW_count {x : List Nat} {c : Nat} {Q : Value → Hp → Prop} (q : Q (I (cnt c x)) σ) : CW X A E (.builtin "str.count") [T x, T [c]] σ Q := fun vs' e s R => by
  obtain ⟨a, b, rfl, e1, e2⟩ := one_arg e
  obtain ⟨t, rfl⟩ := er_str e1
  obtain ⟨u, rfl⟩ := er_str e2
  refine PySem.SC.count ⟨σ, R.toks, ?_⟩
  rw [count_cnt]; exact q
theorem CMP_in1 {c : Nat} {x : List Nat} {Q : Value → Hp → Prop} (q : Q (.bool (decide (c ∈ x))) σ) : CMP X A E .In (T [c]) (T x) σ Q := CMP_ins (by rw [show (!(Builtin.Str.occurrences (tx x) (tx [c]) 0 (tx x).length 1).isEmpty) = decide (c ∈ x) from StrLaws.found_one (tx x) c]; exact q)
theorem BIN_muls {k : Int} {x : List Nat} {Q : Value → Hp → Prop} (hk : 1 < k) (hk2 : k < 1000) (hx : 0 < x.length) (hx2 : x.length ≤ 1000) (q : Q (T (List.replicate k.toNat x).flatten) σ) : BIN X A E .Mult (I k) (T x) σ Q := fun a' b' ea eb s R => by
  obtain ⟨u, rfl⟩ := er_int ea
  obtain ⟨t, rfl⟩ := er_str eb
  have hb : ¬ k < 1 → (k == 1 || (tx x).length == 0) = false → ¬ (((tx x).length : Int) > (2 ^ 63 - 1) / k) := by
    intro _ _ hg
    rw [tx_len] at hg
    have h1 : (2 ^ 63 - 1) / k ≥ 2 ^ 40 := by
      have : (2 ^ 40 : Int) * k ≤ 2 ^ 63 - 1 := by (first | lia | omega)
      exact Int.le_ediv_of_mul_le (by (first | lia | omega)) this
    (first | lia | omega)
  have hl : ¬ k < 1 → (k == 1 || (tx x).length == 0) = false → Builtin.Str.tooLong ((tx x).length * k.toNat) = false := by
    intro _ _
    (first | (refine rwG tx_len ?_; try (with_reducible rfl)) | rw [tx_len])
    have h1 : x.length * k.toNat ≤ 1000 * 1000 := Nat.mul_le_mul hx2 (by (first | lia | omega))
    have := sizeLine_eq
    simp [Builtin.Str.tooLong]; (first | lia | omega)
  refine lm_binaryOp_repeat_right (T := "str") (U := "int") (by decide) (fun s' => typeIs_int s' k u) (typeIs_str s (tx x) t) F.fills_int_mul noFill_str_mul F.slot_int_mul lm_noRepeat_int repeat_str F.slot_int_index.lookup
    (call_gives F.slot_int_mul (typeIs_int s k u) F.entry_int_mul (F.args_int_mul_2 _ _) (AutoIntG3.int___mul___int_str_0 k u (tx x) t)
      ⟨rfl, typeIs_str s (tx x) t, call_gives F.slot_str_mul (typeIs_str s (tx x) t) F.entry_str_mul (F.args_str_mul_2 _ _) (PySem.gives_str_mul (tx x) k t u (by simp; (first | lia | omega)) hb hl) ?_⟩)
  ((first | refine ifN (by (first | lia | omega)) ?_ | rw [if_neg (by (first | lia | omega))]); (first | refine ifN (by simp [tx_len]; constructor <;> first | (first | lia | omega) | (intro z; subst z; simp at hx)) ?_ | rw [if_neg (by simp [tx_len]; constructor <;> first | (first | lia | omega) | (intro z; subst z; simp at hx))]))
  have e : (⟨(List.replicate k.toNat (tx x).cps).foldl (· ++ ·) #[]⟩ : Str) = tx (List.replicate k.toNat x).flatten := by
    have g : ∀ (n : Nat) (acc : Array Nat), (List.replicate n (tx x).cps).foldl (· ++ ·) acc = acc ++ (List.replicate n x).flatten.toArray := by
      intro n
      induction n with
      | zero => intro acc; simp
      | succ n ih => intro acc; rw [List.replicate_succ, List.foldl_cons, ih]; simp [List.replicate_succ]
    (first | (refine rwG g ?_; try (with_reducible rfl)) | rw [g]); simp
  (first | (refine rwG e ?_; try (with_reducible rfl)) | rw [e])
  refine ⟨?_, σ, R.toks, q⟩
  (first | (refine rwG tx_len ?_; try (with_reducible rfl)) | rw [tx_len])
  have h1 : x.length * k.toNat ≤ 1000 * 1000 := Nat.mul_le_mul hx2 (by (first | lia | omega))
  have := sizeLine_eq
  simp only [List.length_flatten, List.map_replicate, List.sum_replicate_nat]
  rw [Nat.mul_comm]; (first | lia | omega)
theorem CW_list_str {x : List Nat} {Q : Value → Hp → Prop} (hh : A.handled = none) (hz : x.length ≤ sizeLine) (q : ∀ l, Q (.ref l) ((l, .seq "list" (x.map fun c => T [c])) :: σ)) : CW X A E (.type "list") [T x] σ Q := fun vs' e s R => by
  obtain ⟨v, rfl, e1⟩ := no_arg e
  obtain ⟨t, rfl⟩ := er_str e1
  refine call_list_str hh (tx x) t (fun h' tk acc c' k hD hi => ⟨_, R.new (x := .seq "list" (x.map fun c => T [c])) fresh_size k hD (fun p _ => ⟨acc, c', rfl, ?_⟩), q _⟩) (by simpa using hz)
  apply List.ext_getElem?
  intro j
  simp only [List.getElem?_map, Array.getElem?_toList]
  have hs : acc.size = x.length := by rw [hi.1]; simp
  by_cases hj : j < x.length
  · have hj' : j < acc.size := by omega
    obtain ⟨c, u, h1, h2⟩ := hi.2 j acc[j] (Array.getElem?_eq_getElem hj')
    have h3 : x[j]? = some c := by simpa using h1
    rw [Array.getElem?_eq_getElem hj', h2, h3]; rfl
  · rw [Array.getElem?_eq_none (by omega), List.getElem?_eq_none (by omega)]; rfl
theorem PI_sit {x : List Nat} {Q : Value → Hp → Prop} (ha : ∀ c ∈ x, c < 128) (q : ∀ it, Q (.ref it) ((it, .sit (tx x) 0) :: σ)) : PI X A E (T x) σ Q := fun x' e s R => by
  obtain ⟨t, rfl⟩ := er_str e
  exact wpAny_pyIter_ascii (by simpa using ha) ⟨_, push_new (x := .sit (tx x) 0) (tk := s.toks) R rfl (fun p _ => ⟨rfl, t, rfl⟩), q _⟩
theorem Src_str {n : Str} {px : Pos} {it : Addr} {x : List Nat} (hh : A.handled = none) : Src X A (.Name n px) it (fun i => [(it, .sit (tx x) i)]) (fun _ => True) x.length (fun env i σ K => ∀ hi : i < x.length, ST X A env F0 n (T [x[i]]) σ K) := by
  constructor
  · intro env' i τ K hi _ h s R
    obtain ⟨p, o, r, ho, hc, t, hd⟩ := R.get (.head _)
    refine wpAny_pyNext_ascii_item (c := x[i]) ⟨o, ho, hc, hd⟩ (by simp [hi]) fun h' hit' hs => ?_
    obtain ⟨o', g1, g2, g3⟩ := hit'
    exact ⟨_, R.upd0 (x' := .sit (tx x) (i + 1)) (tk := s.toks + 1) hs g1 (fun p => ⟨g2, t, g3⟩), _, rfl, LG_Name (AS_Name (h hi))⟩
  · intro τ _ s R
    obtain ⟨p, o, r, ho, hc, t, hd⟩ := R.get (.head _)
    exact wpAny_pyNext_ascii_end hh ⟨o, ho, hc, hd⟩ (by simp) fun h' k => ⟨_, R.but (tk := s.toks) k, rfl, fun _ R => R⟩
theorem PI_self_sit {it : Addr} {x : Str} {i : Nat} {s : Shared} (R : Rel X σ s) (hm : (it, AO.sit x i) ∈ σ) {K : Value → Shared → Prop} {E' : Value → Shared → Prop} (k : K (.ref it) s) : wpAny (model X.prog X.w) A (pyIter (.ref it)) K E' s := by
  obtain ⟨p, o, r, ho, hc, t, hd⟩ := R.get hm
  exact wpAny_pyIter_striter_ascii ⟨o, ho, hc, hd⟩ k
theorem PI_self_enum {e it : Addr} {i : Int} {s : Shared} (R : Rel X σ s) (hm : (e, AO.enum it i none) ∈ σ) {K : Value → Shared → Prop} {E' : Value → Shared → Prop} (k : K (.ref e) s) : wpAny (model X.prog X.w) A (pyIter (.ref e)) K E' s := by
  obtain ⟨p, o, r, ho, old, rfl⟩ := R.get hm
  exact wpAny_pyIter_enum (old := old) (it := it) (i := i) ho k
theorem LG_tupL {elts : List Expr} {k tpos} {it l T' : Addr} {i : Nat} {Q : Hp → Prop} (hm : (it, LI l i) ∈ σ) (q : Q σ) : LG X A E (.Tuple elts k tpos) it (.ref T') σ Q := fun v' e s R => by
  obtain rfl := er_ref e
  obtain ⟨p, o, r, ho, hc, hd⟩ := R.get hm
  unfold letOwnedTupleGo
  refine wpAny_bind (wpAny_load ho ?_)
  ((first | (refine rwG hc ?_; try (with_reducible rfl)) | rw [hc]); (first | (refine rwG hd ?_; try (with_reducible rfl)) | rw [hd]))
  exact wpAny_pure ⟨σ, R, q⟩
end
namespace FF
theorem owner_callable_iterator : Manifest.owners.lookup (String.ofList ['r', 'o', 't', 'a', 'r', 'e', 't', 'i', '_', 'e', 'l', 'b', 'a', 'l', 'l', 'a', 'c'].reverse) = some Manifest.sig_callable_iterator := by kernel_rfl
theorem slot_next : Slot "callable_iterator" "__next__" "callable_iterator.__next__" :=
  .of (owner := "callable_iterator") (n := "__next__") (by rw [typeLookup_type, builtinLookup_eq_fast]; kernel_rfl) (by decide +kernel) (by decide +kernel) (by decide +kernel)
    (by first | exact .inl (by decide +kernel) | exact .inr (by decide +kernel)) (by rw [isSubtype_type]; kernel_rfl)
theorem entry_next : entryFor table "callable_iterator.__next__" = some Builtin.«callable_iterator.__next__» := entryFor_of_tree (by kernel_rfl)
theorem args_next (a : Value) : argsOk "callable_iterator.__next__" ⟨[a], []⟩ := by
  unfold argsOk; rw [signature?_of (id := "callable_iterator.__next__") (n := ['_', '_', 't', 'x', 'e', 'n', '_', '_']) (o := ['r', 'o', 't', 'a', 'r', 'e', 't', 'i', '_', 'e', 'l', 'b', 'a', 'l', 'l', 'a', 'c']) (by kernel_rfl) owner_callable_iterator]; kernel_rfl
theorem kind_iter : builtinKind "iter" = none := by decide +kernel
theorem plain_iter : plainId "iter" = true := by decide +kernel
theorem entry_iter : entryFor table "iter" = some Builtin.«iter» := entryFor_of_tree (by kernel_rfl)
theorem args_iter1 (a : Value) : argsOk "iter" ⟨[a], []⟩ := by unfold argsOk; kernel_rfl
theorem args_iter2 (a b : Value) : argsOk "iter" ⟨[a, b], []⟩ := by unfold argsOk; kernel_rfl
theorem kind_next : builtinKind "next" = none := by decide +kernel
theorem plain_next : plainId "next" = true := by decide +kernel
theorem entry_nextb : entryFor table "next" = some Builtin.«next» := entryFor_of_tree (by kernel_rfl)
theorem args_next1 (a : Value) : argsOk "next" ⟨[a], []⟩ := by unfold argsOk; kernel_rfl
end FF
section
variable {M : Model} {A : Around} {α : Type} {E : Value → Shared → Prop} {s : Shared}
theorem wpAny_callBorrowed {f : Value} {pos : List Value} {Q : Value → Shared → Prop} (hc : codeAny M A (.call f ⟨pos, []⟩) (fun r s' => match r with | .ok (.ret v) => Q v s' | .ok _ => False | .error e => E e s') s) : wpAny M A (callBorrowed f pos) Q E s := fun Γ p hΓ => by
  unfold callBorrowed
  rw [Sem.wp_call]
  refine wpCode_mono (fun r s' h => ?_) (hc _ p rfl (hΓ.enter _ none p (by intro x; cases x)))
  cases r with
  | error e => exact h
  | ok f => cases f with
    | ret v => exact h
    | _ => exact h.elim
theorem stop_raises {Q : α → Shared → Prop} (hh : A.handled = none)
    (h : ∀ h' e, s.heap.get? e = none → (∀ b o, s.heap.get? b = some o → h'.get? b = some o) → (∃ o, h'.get? e = some o ∧ ∀ p, Conc p (.exc .none) o) → E (.ref e) { s with heap := h' }) :
    wpAny M A (Builtin.SmallTypes.stopIteration : Sem α) Q E s := by
  unfold Builtin.SmallTypes.stopIteration
  show wpAny _ _ (newExc (.type "StopIteration") [] >>= _) _ _ _
  refine wpAny_bind ?_
  simp only [newExc, newTuple]
  refine wpAny_bind (wpAny_newObj_type ?_ (by size_fits))
  refine wpAny_bind (m := firstArgMember _ _) (wpAny_of_eq (a := Value.none) (by first | rfl | (simp only [firstArgMember]; rfl)) ?_)
  refine wpAny_newObj_type ?_ (by size_fits)
  simp only [raiseNew]
  refine wpAny_bind (wpAny_handled ?_)
  (first | (refine rwG hh ?_; try (with_reducible rfl)) | rw [hh])
  refine wpAny_bind (wpAny_pure (wpAny_throw (h _ _ ?_ (fun b o e => Heap.get?_push_of_some _ (Heap.get?_push_of_some _ e)) ⟨_, Heap.get?_push_size _ rfl, fun p => ⟨rfl, _, _, rfl, rfl, rfl⟩⟩)))
  cases z : s.heap.get? (s.heap.push { cls := .type "tuple", data := .seq ([] : List Value).toArray }).objs.size with
  | none => rfl
  | some o => have := Heap.lt_size z; rw [Heap.size_push] at this; exact absurd this (Nat.not_lt.mpr (Nat.le_succ _))
end
section
variable {X : Cx} {A : Around} {α β γ δ : Type} {σ : Hp} {E : Value → Shared → Prop} {env : Env}
noncomputable def XE (X : Cx) (QE : Value → Hp → Prop) : Value → Shared → Prop := fun e s' => Ends X QE e s'
noncomputable abbrev CI (f sv : Value) : AO := .fldE "callable_iterator" [f, sv, .bool false]
noncomputable abbrev CI0 : AO := .fldE "callable_iterator" [.none, .none, .bool true]
inductive FldOf (s : Shared) (a : Addr) (T : String) (xs : List Value) : Prop
  | mk (o : Obj) (vs : Array Value) (ho : s.heap.get? a = some o) (hc : o.cls = .type T) (hd : o.data = .fields vs) (he : vs.toList.map er = xs)
theorem Rel.fldE {s : Shared} (R : Rel X σ s) {a : Addr} {T : String} {xs : List Value} (hm : (a, AO.fldE T xs) ∈ σ) : FldOf s a T xs := by
  obtain ⟨p, o, _, ho, hc, vs, hd, he⟩ := R.get hm
  exact ⟨o, vs, ho, hc, hd, he⟩
inductive Fld3 (vs : Array Value) (a b c : Value) : Prop
  | mk (a' b' c' : Value) (e : vs = #[a', b', c']) (ha : er a' = a) (hb : er b' = b) (hc : er c' = c)
theorem three {vs : Array Value} {a b c : Value} (h : vs.toList.map er = [a, b, c]) : Fld3 vs a b c := by
  obtain ⟨l⟩ := vs
  obtain ⟨a', b', c', e, h1, h2, h3⟩ := two_arg (vs' := l) h
  exact ⟨a', b', c', by (first | (refine rwG e ?_; try (with_reducible rfl)) | rw [e]), h1, h2, h3⟩
noncomputable def Callee (X : Cx) (f : Addr) (σ : Hp) : Prop := ∀ s, Rel X σ s → Looks (model X.prog X.w) s.heap (borrowsExactly (.ref f)) true ∧ ∃ c, Looks (model X.prog X.w) s.heap (specialOf (.ref f) "__call__") (some c)
noncomputable def EQB (X : Cx) (A : Around) (a b : Value) (σ : Hp) (r : Bool) : Prop := ∀ a' b', er a' = a → er b' = b → ∀ s (Q : Bool → Shared → Prop) E, Rel X σ s → Q r s → wpAny (model X.prog X.w) A (eqBool a' b') Q E s
theorem EQB_str {a b : List Nat} : EQB X A (T a) (T b) σ (a == b) := fun a' b' ea eb s Q E R q => by
  obtain ⟨t, rfl⟩ := er_str ea; obtain ⟨u, rfl⟩ := er_str eb
  exact eqBool_str (by (first | (refine rwG tx_eq ?_; try (with_reducible rfl)) | rw [tx_eq]); exact q)
theorem EQB_int {a b : Int} : EQB X A (I a) (I b) σ (a == b) := fun a' b' ea eb s Q E R q => by
  obtain ⟨t, rfl⟩ := er_int ea; obtain ⟨u, rfl⟩ := er_int eb
  exact wpAny_eqBool_int q
theorem CW_iter2 {f : Addr} {sv : Value} {Q : Value → Hp → Prop} (hc : Callee X f σ) (q : ∀ it, Q (.ref it) ((it, CI (.ref f) sv) :: σ)) : CW X A E (.builtin "iter") [.ref f, sv] σ Q := fun vs' e s R => by
  obtain ⟨a', b', rfl, e1, e2⟩ := one_arg e
  obtain rfl := er_ref e1
  refine Calls.call_function_entry FF.kind_iter FF.plain_iter FF.entry_iter (FF.args_iter2 _ _) ?_
  unfold Builtin.«iter»
  refine wpAny_bind (m := someArgs "iter" 1 2 _) (wpAny_pure ?_)
  obtain ⟨c, hcl⟩ := (hc s R).2
  refine wpAny_bind (hcl.here ?_)
  refine wpAny_bind (wpAny_rule (wpAny_bind (wpAny_newObj_type (wpAny_pure ⟨_, rfl, _, push_new (x := CI (.ref f) sv) (tk := s.toks) R rfl (fun p _ => ⟨rfl, _, rfl, by show [er (Value.ref f), er b', er (.bool false)] = _; (first | (refine rwG e2 ?_; try (with_reducible rfl)) | rw [e2]); rfl⟩), q _⟩) (by size_fits))))
theorem CW_iter1 {x : Value} {Q : Value → Hp → Prop} (h : PI X A.in1 E x σ Q) : CW X A E (.builtin "iter") [x] σ Q := fun vs' e s R => by
  obtain ⟨a', rfl, e1⟩ := no_arg e
  refine Calls.call_function_entry FF.kind_iter FF.plain_iter FF.entry_iter (FF.args_iter1 _) ?_
  unfold Builtin.«iter»
  refine wpAny_bind (m := someArgs "iter" 1 2 _) (wpAny_pure ?_)
  exact wpAny_bind ((h a' e1).use R fun i s₁ σ₁ R₁ q => wpAny_pure ⟨_, rfl, σ₁, R₁, q⟩)
theorem next_core {it f : Addr} {sv : Value} {P : Value → Shared → Prop} {s : Shared} (hh : A.handled = none) (R : Rel X ((it, CI (.ref f) sv) :: σ) s) (hc : Callee X f ((it, CI (.ref f) sv) :: σ))
    (hcall : CC X A.in1 F0 (.ref f) [] ((it, CI (.ref f) sv) :: σ) (fun v σ₁ => ∃ σ' b, Pick ((it, CI (.ref f) sv) :: σ') σ₁ ∧ Callee X f ((it, CI (.ref f) sv) :: σ') ∧ EQB X A.in1 sv v ((it, CI (.ref f) sv) :: σ') b ∧
      (b = false → ∀ s', Rel X ((it, CI (.ref f) sv) :: σ') s' → ∀ v', er v' = v → P v' s') ∧ (b = true → ∀ s' e, Rel X ((e, .exc .none) :: (it, CI0) :: σ') s' → E (.ref e) s'))) :
    wpAny (model X.prog X.w) A (call (.builtin "callable_iterator.__next__") [.ref it]) P E s := by
  obtain ⟨o, vs, ho, hcl, hd, he⟩ := R.fldE (.head _)
  obtain ⟨f', sv', c', rfl, e1, e2, e3⟩ := three he
  obtain rfl := er_ref e1
  obtain rfl := er_bool e3
  have hT : s.TypeIs (.ref it) "callable_iterator" := ⟨o, ho, hcl⟩
  refine wpAny_call_entry FF.slot_next hT FF.entry_next ?_ (FF.args_next _)
  unfold Builtin.«callable_iterator.__next__»
  refine wpAny_bind (m := slotArgs "__next__" 0 _) (wpAny_pure ?_)
  refine wpAny_bind (wpAny_field ho hd (x := .bool false) rfl ?_)
  (first | refine ifN (by decide) ?_ | rw [if_neg (by decide)])
  refine wpAny_bind (wpAny_field ho hd (x := .ref f) rfl (wpAny_bind (wpAny_attempt ?_)))
  unfold callOutOfASlot
  refine wpAny_bind ((hc s R).1.here ?_)
  (first | refine ifP rfl ?_ | rw [if_pos rfl])
  refine wpAny_callBorrowed (codeAny_mono (hcall [] rfl s R) fun r s' z => ?_)
  cases r with
  | error e => exact z.elim
  | ok fl => cases fl with
    | ret v =>
      obtain ⟨σ₁, R₁, σ', b, hp, hc', heq, hf, ht⟩ := z
      have R₂ := R₁.pick hp
      obtain ⟨o₂, vs₂, ho₂, hcl₂, hd₂, he₂⟩ := R₂.fldE (.head _)
      obtain ⟨f₂, sv₂, c₂, rfl, e1', e2', e3'⟩ := three he₂
      obtain rfl := er_ref e1'
      obtain rfl := er_bool e3'
      refine wpAny_bind (wpAny_field ho₂ hd₂ (x := .bool false) rfl ?_)
      (first | refine ifN (by decide) ?_ | rw [if_neg (by decide)])
      refine wpAny_bind (wpAny_field ho₂ hd₂ (x := sv₂) rfl (wpAny_bind (wpAny_holding (heq sv₂ v e2' rfl s' _ _ R₂ ?_))))
      cases b with
      | false => exact wpAny_pure ⟨_, rfl, hf rfl s' R₂ v rfl⟩
      | true =>
        refine wpAny_bind (wpAny_rule ?_)
        refine wpAny_bind (m := (field (.ref it) 0 >>= fun x => slotLetsGo "callable_iterator.__next__" x (fun | .builtin "callable_iterator.__next__" x => x.pos.head? == some (.ref it) | _ => false) >>= fun _ => setField (.ref it) 0 .none >>= fun _ => setField (.ref it) 1 .none >>= fun _ => setField (.ref it) 2 (.bool true))) ?_
        refine wpAny_bind (wpAny_field ho₂ hd₂ (x := .ref f) rfl (wpAny_bind ?_))
        unfold slotLetsGo
        refine wpAny_bind ((hc' s' R₂).1.here ?_)
        (first | refine ifP rfl ?_ | rw [if_pos rfl])
        refine wpAny_pure (wpAny_bind ?_)
        obtain ⟨oc, od, dt, sl⟩ := o₂
        replace hd₂ : dt = .fields #[.ref f, sv₂, .bool false] := hd₂
        replace hcl₂ : oc = .type "callable_iterator" := hcl₂
        subst hd₂ hcl₂
        refine wpAny_setField ho₂ rfl (by simp) (wpAny_bind (wpAny_setField (Heap.get?_update_self _ ho₂ rfl) rfl (by simp) ?_))
        refine wpAny_setField (Heap.get?_update_self _ (Heap.get?_update_self _ ho₂ rfl) rfl) rfl (by simp) ?_
        have R₃ : Rel X ((it, CI0) :: σ') { s' with heap := ((s'.heap.update it (Obj.mapFields (·.setIfInBounds 0 .none))).update it (Obj.mapFields (·.setIfInBounds 1 .none))).update it (Obj.mapFields (·.setIfInBounds 2 (.bool true))), toks := s'.toks } :=
          R₂.upd0 (x' := CI0) (((Heap.SameBut.update ..).trans (Heap.SameBut.update ..)).trans (Heap.SameBut.update ..)) (Heap.get?_update_self _ (Heap.get?_update_self _ (Heap.get?_update_self _ ho₂ rfl) rfl) rfl) (fun p => ⟨rfl, _, rfl, rfl⟩)
        refine stop_raises hh fun h' e hn k ⟨oe, h1, h2⟩ => ht rfl _ e ?_
        exact R₃.new (x := .exc .none) (tk := s'.toks) hn k h1 fun p _ => h2 p
    | _ => exact z.elim
end
section
variable {X : Cx} {A : Around} {α β γ δ : Type} {σ : Hp} {E : Value → Shared → Prop} {env : Env}
noncomputable def CS (X : Cx) (A : Around) (it : Addr) (σ : Hp) (Q : Value → Hp → Prop) (QE : Value → Hp → Prop) : Prop :=
  ∀ s, Rel X σ s → wpAny (model X.prog X.w) A (callSpecial? (.ref it) "__next__") (fun r s' => ∃ v σ', r = some v ∧ Rel X σ' s' ∧ Q (er v) σ') (XE X QE) s
theorem NX_of {it : Addr} {Q : Option Value → Hp → Prop} (h : CS X A it σ (fun v σ' => Q (some v) σ') (fun e σ' => ∃ a τ, e = .ref a ∧ σ' = (a, .exc .none) :: τ ∧ Q none τ)) : NX X A E it σ Q := fun s R => by
  unfold pyNext
  refine wpAny_bind (wpAny_attempt (wpAny_mono (h s R) (fun r s' ⟨v, σ', er, R', q⟩ => ?_) fun e s' ⟨σ', R', a, τ, ee, eτ, q⟩ => ?_))
  · subst er; exact wpAny_pure ⟨σ', R', q⟩
  · subst ee eτ
    obtain ⟨p, o, _, ho, hc, _⟩ := R'.get (.head _)
    refine wpAny_bind (wpAny_isInstance (T := "StopIteration") (b := true) ⟨o, ho, hc⟩ isSubtype_stop ?_)
    exact wpAny_pure ⟨τ, R'.sublist (.cons _ (.refl _)), q⟩
theorem CS_CI {it f : Addr} {sv : Value} {Q QE : Value → Hp → Prop} (hh : A.handled = none) (hc : Callee X f ((it, CI (.ref f) sv) :: σ))
    (hcall : CC X A.in1 F0 (.ref f) [] ((it, CI (.ref f) sv) :: σ) (fun v σ₁ => ∃ σ' b, Pick ((it, CI (.ref f) sv) :: σ') σ₁ ∧ Callee X f ((it, CI (.ref f) sv) :: σ') ∧ EQB X A.in1 sv v ((it, CI (.ref f) sv) :: σ') b ∧
      (b = false → Q v ((it, CI (.ref f) sv) :: σ')) ∧ (b = true → ∀ e, QE (.ref e) ((e, .exc .none) :: (it, CI0) :: σ')))) : CS X A it ((it, CI (.ref f) sv) :: σ) Q QE := fun s R => by
  obtain ⟨o, vs, ho, hcl, hd, he⟩ := R.fldE (.head _)
  refine wpAny_callSpecial?_slot (name := Str.ofString "__next__") (T := "callable_iterator") ⟨o, ho, hcl⟩ FF.slot_next ?_
  refine next_core hh R hc (hcall.mono (fun v σ₁ ⟨σ', b, h1, h2, h3, h4, h5⟩ => ⟨σ', b, h1, h2, h3, fun e s' R' v' ev => ?_, fun e s' a R' => ?_⟩) fun _ _ x => x)
  · subst ev; exact ⟨v', _, rfl, R', h4 e⟩
  · exact ⟨_, R', h5 e a⟩
theorem CS_CI0 {it : Addr} {Q QE : Value → Hp → Prop} (hh : A.handled = none) (h : ∀ e, QE (.ref e) ((e, .exc .none) :: (it, CI0) :: σ)) : CS X A it ((it, CI0) :: σ) Q QE := fun s R => by
  obtain ⟨o, vs, ho, hcl, hd, he⟩ := R.fldE (.head _)
  obtain ⟨a', b', c', rfl, e1, e2, e3⟩ := three he
  obtain rfl := er_bool e3
  have hT : s.TypeIs (.ref it) "callable_iterator" := ⟨o, ho, hcl⟩
  refine wpAny_callSpecial?_slot (name := Str.ofString "__next__") (T := "callable_iterator") hT FF.slot_next (wpAny_call_entry FF.slot_next hT FF.entry_next ?_ (FF.args_next _))
  unfold Builtin.«callable_iterator.__next__»
  refine wpAny_bind (m := slotArgs "__next__" 0 _) (wpAny_pure ?_)
  refine wpAny_bind (wpAny_field ho hd (x := .bool true) rfl ?_)
  (first | refine ifP (by decide) ?_ | rw [if_pos (by decide)])
  refine wpAny_bind (wpAny_rule (wpAny_bind (stop_raises (A := A.in1) hh fun h' e hn k ⟨oe, h1, h2⟩ => ?_)))
  exact ⟨_, R.new (x := .exc .none) (tk := s.toks) hn k h1 fun p _ => h2 p, h e⟩
theorem CS_list {it l : Addr} {i : Nat} {xs : List Value} {Q QE : Value → Hp → Prop} (hh : A.handled = none) (hm : (l, AO.seq "list" xs) ∈ σ) (h1 : ∀ x, xs[i]? = some x → Q x ((it, LI l (i + 1)) :: σ)) (h2 : xs[i]? = none → ∀ e, QE (.ref e) ((e, .exc .none) :: σ)) :
    CS X A it ((it, LI l i) :: σ) Q QE := fun s R => by
  obtain ⟨items, hl, he⟩ := R.isList (.tail _ hm)
  obtain ⟨p, o, _, ho, hc, hd⟩ := R.get (.head _)
  have hit : s.heap.IsListIter it l i := ⟨o, ho, hc, hd⟩
  obtain ⟨ol, hol, hcl, nl, hdl⟩ := id hl
  refine wpAny_callSpecial?_slot (name := Str.ofString "__next__") hit.typeIs slot_listiter_next (wpAny_call_entry slot_listiter_next hit.typeIs entry_listiter_next ?_ (args_listiter_next _))
  show wpAny _ _ (field (.ref it) 0 >>= _) _ _ s
  refine wpAny_bind (wpAny_field ho hd (x := .ref l) rfl ?_)
  show wpAny _ _ (if (Value.ref l == Value.none) = true then _ else _) _ _ s
  (first | refine ifN (show ¬ ((Value.ref l == Value.none) = true) from Bool.false_ne_true) ?_ | rw [if_neg (show ¬ ((Value.ref l == Value.none) = true) from Bool.false_ne_true)])
  show wpAny _ _ (field (.ref it) 1 >>= _) _ _ s
  refine wpAny_bind (wpAny_field ho hd (x := .int i 0) rfl ?_)
  show wpAny _ _ (seqItems? (.ref l) >>= _) _ _ s
  refine wpAny_bind (wpAny_seqItems hol hdl ?_)
  have hx' : xs[i]? = items[i]?.map er := by rw [← he, List.getElem?_map, Array.getElem?_toList]
  cases hx : items[i]? with
  | some x =>
    simp only [Int.toNat_natCast, hx]
    refine wpAny_bind (wpAny_setField ho hd (by simp) (wpAny_pure ⟨_, rfl, x, _, rfl, R.upd0 (x' := LI l (i + 1)) (tk := s.toks) (Heap.SameBut.update ..) (Heap.get?_update_self _ ho (Obj.isFreed_of_fields (Obj.data_mapFields hd _)))
      (fun p => ⟨(Obj.cls_mapFields ..).trans hc, by rw [Obj.data_mapFields hd]; simp [rawInt]⟩), h1 _ (by ((first | (refine rwG hx' ?_; try (with_reducible rfl)) | rw [hx']); (first | (refine rwG hx ?_; try (with_reducible rfl)) | rw [hx])); rfl)⟩))
  | none =>
    simp only [Int.toNat_natCast, hx]
    refine wpAny_bind (wpAny_rule (wpAny_bind (wpAny_setField ho hd (by simp) ?_)))
    have R₂ : Rel X σ { s with heap := s.heap.update it (Obj.mapFields (·.setIfInBounds 0 .none)), toks := s.toks } := R.but (Heap.SameBut.update ..).extBut
    exact stop_raises hh fun h' e hn k ⟨oe, g1, g2⟩ => ⟨_, R₂.new (x := .exc .none) (tk := s.toks) hn k g1 fun p _ => g2 p, h2 (by ((first | (refine rwG hx' ?_; try (with_reducible rfl)) | rw [hx']); (first | (refine rwG hx ?_; try (with_reducible rfl)) | rw [hx])); rfl) e⟩
theorem CW_next {it : Addr} {T : String} {c : Value} {Q QE : Value → Hp → Prop} (hT : ∀ s, Rel X σ s → s.TypeIs (.ref it) T) (hl : typeLookup (.type T) "__next__" = pure (some c)) (h : CS X A.in1 it σ Q QE) : CW X A (XE X QE) (.builtin "next") [.ref it] σ Q := fun vs' e s R => by
  obtain ⟨a', rfl, e1⟩ := no_arg e
  obtain rfl := er_ref e1
  refine Calls.call_function_entry FF.kind_next FF.plain_next FF.entry_nextb (FF.args_next1 _) ?_
  unfold Builtin.«next»
  refine wpAny_bind (m := someArgs "next" 1 2 _) (wpAny_pure ?_)
  refine wpAny_bind (wpAny_specialOf (hT s R) hl ?_)
  (first | refine ifN (by simp) ?_ | rw [if_neg (by simp)])
  refine wpAny_bind (wpAny_mono (h s R) (fun r s' ⟨v, σ', er, R', q⟩ => ?_) fun _ _ x => x)
  subst er
  exact wpAny_pure ⟨v, rfl, σ', R', q⟩
theorem CW_nextL {it l : Addr} {i : Nat} {xs : List Value} {Q QE : Value → Hp → Prop} (hh : A.handled = none) (hm : (l, AO.seq "list" xs) ∈ σ) (h1 : ∀ x, xs[i]? = some x → Q x ((it, LI l (i + 1)) :: σ)) (h2 : xs[i]? = none → ∀ e, QE (.ref e) ((e, .exc .none) :: σ)) :
    CW X A (XE X QE) (.builtin "next") [.ref it] ((it, LI l i) :: σ) Q :=
  CW_next (T := "list_iterator") (fun s R => by obtain ⟨p, o, _, ho, hc, hd⟩ := R.get (.head _); exact ⟨o, ho, hc⟩) slot_listiter_next.lookup (CS_list hh hm h1 h2)
theorem CW_nextC {it f : Addr} {sv : Value} {Q QE : Value → Hp → Prop} (hh : A.handled = none) (hc : Callee X f ((it, CI (.ref f) sv) :: σ))
    (hcall : CC X A.in1.in1 F0 (.ref f) [] ((it, CI (.ref f) sv) :: σ) (fun v σ₁ => ∃ σ' b, Pick ((it, CI (.ref f) sv) :: σ') σ₁ ∧ Callee X f ((it, CI (.ref f) sv) :: σ') ∧ EQB X A.in1.in1 sv v ((it, CI (.ref f) sv) :: σ') b ∧
      (b = false → Q v ((it, CI (.ref f) sv) :: σ')) ∧ (b = true → ∀ e, QE (.ref e) ((e, .exc .none) :: (it, CI0) :: σ')))) : CW X A (XE X QE) (.builtin "next") [.ref it] ((it, CI (.ref f) sv) :: σ) Q :=
  CW_next (T := "callable_iterator") (fun s R => by obtain ⟨o, vs, ho, hcl, _⟩ := R.fldE (.head _); exact ⟨o, ho, hcl⟩) FF.slot_next.lookup (CS_CI hh hc hcall)
theorem NX_CI {it f : Addr} {sv : Value} {Q : Option Value → Hp → Prop} (hh : A.handled = none) (hc : Callee X f ((it, CI (.ref f) sv) :: σ))
    (hcall : CC X A.in1 F0 (.ref f) [] ((it, CI (.ref f) sv) :: σ) (fun v σ₁ => ∃ σ' b, Pick ((it, CI (.ref f) sv) :: σ') σ₁ ∧ Callee X f ((it, CI (.ref f) sv) :: σ') ∧ EQB X A.in1 sv v ((it, CI (.ref f) sv) :: σ') b ∧
      (b = false → Q (some v) ((it, CI (.ref f) sv) :: σ')) ∧ (b = true → Q none ((it, CI0) :: σ')))) : NX X A E it ((it, CI (.ref f) sv) :: σ) Q :=
  NX_of (CS_CI hh hc (hcall.mono (fun v σ₁ ⟨σ', b, h1, h2, h3, h4, h5⟩ => ⟨σ', b, h1, h2, h3, h4, fun e a => ⟨a, _, rfl, rfl, h5 e⟩⟩) fun _ _ x => x))
theorem NX_CI0 {it : Addr} {Q : Option Value → Hp → Prop} (hh : A.handled = none) (q : Q none ((it, CI0) :: σ)) : NX X A E it ((it, CI0) :: σ) Q := NX_of (CS_CI0 hh fun e => ⟨e, _, rfl, rfl, q⟩)
theorem Callee_method {m f : Addr} {self : Value} {q as body sc} (B : BF X f q as body sc) (hm : (m, AO.obj (methodObj (.ref f) self)) ∈ σ) : Callee X m σ := fun s R => by
  have ho := R.obj hm
  obtain ⟨o, fd, h1, h2, _⟩ := B.at_
  refine ⟨?_, _, (Looks.ld (part := none) ho).andThen (Looks.of_pure (by show typeLookup (.type "method") "__call__" = pure (some (.builtin "method.__call__")); rw [typeLookup_type, builtinLookup_eq_fast]; kernel_rfl))⟩
  unfold borrowsExactly
  refine (Looks.ld (part := none) ho).andThen ?_
  dsimp only
  (first | refine ifP (by decide) ?_ | rw [if_pos (by decide)])
  refine (Looks.ld (part := none) (R.keep _ _ h1)).andThen ?_
  (first | (refine rwG h2 ?_; try (with_reducible rfl)) | rw [h2]); exact .now
theorem Callee_fn {f : Addr} {q ps b sc cl d} (hm : (f, AO.fn q ps b sc cl d) ∈ σ) : Callee X f σ := fun s R => by
  obtain ⟨p, o, _, ho, h1, h2, fd, c, h3, _⟩ := R.get hm
  refine ⟨?_, .builtin "function.__call__", ?_⟩
  · unfold borrowsExactly
    refine (Looks.ld (part := none) ho).andThen ?_
    (first | (refine rwG h3 ?_; try (with_reducible rfl)) | rw [h3]); exact .now
  · refine (show Looks _ _ (typeOf (.ref f)) (.type "function") from h1 ▸ (Looks.ld ho).andThen .now).andThen (Looks.of_pure (by rw [typeLookup_type, builtinLookup_eq_fast]; kernel_rfl))
end
namespace FF
theorem slot_fn_ga : Slot "function" "__getattribute__" "object.__getattribute__" :=
  .of (owner := "object") (n := "__getattribute__") (by rw [typeLookup_type, builtinLookup_eq_fast]; kernel_rfl) (by decide +kernel) (by decide +kernel) (by decide +kernel)
    (by first | exact .inl (by decide +kernel) | exact .inr (by decide +kernel)) (by rw [isSubtype_type]; kernel_rfl)
theorem slot_fn_sa : Slot "function" "__setattr__" "object.__setattr__" :=
  .of (owner := "object") (n := "__setattr__") (by rw [typeLookup_type, builtinLookup_eq_fast]; kernel_rfl) (by decide +kernel) (by decide +kernel) (by decide +kernel)
    (by first | exact .inl (by decide +kernel) | exact .inr (by decide +kernel)) (by rw [isSubtype_type]; kernel_rfl)
theorem fn_read : typeLookup (.type "function") "read" = pure none := by rw [typeLookup_type, builtinLookup_eq_fast]; kernel_rfl
theorem fn_hook : typeLookup (.type "function") "__getattr__" = pure none := by rw [typeLookup_type, builtinLookup_eq_fast]; kernel_rfl
theorem mro_fn : mroOf (.type "function") = pure [.type "function", .type "object"] := by rw [mroOf_type]; kernel_rfl
theorem refuse_fn (self : Value) : refuseLoop self "__setattr__" [.type "function", .type "object"] = pure () := by kernel_rfl
theorem fn_dict : typeHasDict (.type "function") = true := by decide +kernel
theorem fn_fin : finalisedInACycleAlone "function" = false := by decide +kernel
end FF
section
variable {X : Cx} {A : Around} {α β γ δ : Type} {σ : Hp} {E : Value → Shared → Prop} {env : Env}
inductive FnObj (s : Shared) (f : Addr) (d : Option Addr) : Prop
  | mk (o : Obj) (fd : FuncData) (ho : s.heap.get? f = some o) (hc : o.cls = .type "function") (hdict : o.dict = d) (hd : o.data = .func fd)
theorem Rel.fnObj {s : Shared} (R : Rel X σ s) {f : Addr} {q ps b sc cl d} (hm : (f, AO.fn q ps b sc cl d) ∈ σ) : FnObj s f d := by
  obtain ⟨p, o, _, ho, h1, h2, fd, c, h3, _⟩ := R.get hm
  exact ⟨o, fd, ho, h1, h2, h3⟩
theorem SA_fn {f : Addr} {q ps b sc cl} {v : Value} {Q : Hp → Prop} (h : ∀ d, Q ((d, .ns [(("read" : Str), v)]) :: (f, .fn q ps b sc cl (some d)) :: σ)) : SA X A E (.ref f) "read" v ((f, .fn q ps b sc cl none) :: σ) Q := fun o' v' e ev s R => by
  obtain rfl := er_ref e
  obtain ⟨o, fd, ho, hcl, hdict, hd⟩ := R.fnObj (.head _)
  have hT : ∀ tk, ({ s with toks := tk } : Shared).TypeIs (.ref f) "function" := fun tk => ⟨o, ho, hcl⟩
  unfold setAttr
  refine wpAny_bind (wpAny_mkText (wpAny_bind ?_))
  refine wpAny_callSpecial?_slot (hT _) FF.slot_fn_sa (wpAny_call_entry FF.slot_fn_sa (hT _) PySem.F.store_object.entry ?_ (PySem.F.store_object.args _ _ _))
  rw [osa_eq, refuse_eq]
  refine wpAny_bind (wpAny_bind (wpAny_typeOf (hT _) (wpAny_bind (wpAny_of_eq FF.mro_fn (wpAny_of_eq (FF.refuse_fn _) ?_)))))
  refine wpAny_bind (wpAny_typeOf (hT _) (wpAny_bind (wpAny_of_eq FF.fn_read (wpAny_bind (wpAny_pure ?_)))))
  refine wpAny_bind (m := ownStreamTells (.ref f) (.type "function")) (wpAny_pure ?_)
  refine wpAny_bind (m := Builtin.ObjectAttr.ownDictForStores (.ref f)) ?_
  show wpAny _ _ (instanceDict f true) _ _ _
  unfold instanceDict
  refine wpAny_bind (wpAny_loadPart ho ?_)
  obtain ⟨oc, od, dt, sl⟩ := o
  replace hcl : oc = .type "function" := hcl
  replace hdict : od = none := hdict
  replace hd : dt = .func fd := hd
  subst hcl hdict hd
  dsimp only
  rw [FF.fn_dict]
  refine wpAny_bind (wpAny_alloc (wpAny_bind ?_))
  have ho2 : (s.heap.push { cls := .type "dict", data := .dict #[] }).get? f = some ⟨.type "function", none, .func fd, sl⟩ := Heap.get?_push_of_some _ ho
  refine wpAny_update ho2 ?_
  show wpAny _ _ (dictMade (.type "function") f _) _ _ _
  unfold dictMade
  dsimp only
  rw [FF.fn_fin]
  refine wpAny_pure ?_
  have R₁ : Rel X ((s.heap.objs.size, .ns []) :: (f, .fn q ps b sc cl (some s.heap.objs.size)) :: σ) { s with heap := (s.heap.push { cls := .type "dict", data := .dict #[] }).update f (fun o => { o with dict := some s.heap.objs.size }), toks := s.toks + 1 } := by
    have R0 : Rel X ((s.heap.objs.size, .ns []) :: (f, .fn q ps b sc cl none) :: σ) { s with heap := s.heap.push { cls := .type "dict", data := .dict #[] }, toks := s.toks + 1 } := push_new (x := .ns []) (tk := s.toks + 1) R rfl (fun p _ => ⟨List.nodup_nil, #[], 0, rfl, fun _ he => by simp at he, List.Pairwise.nil, fun _ => rfl⟩)
    refine Rel.upd (s := { s with heap := s.heap.push { cls := .type "dict", data := .dict #[] }, toks := s.toks + 1 }) (pre := [(s.heap.objs.size, .ns [])]) (x' := .fn q ps b sc cl (some s.heap.objs.size)) (tk := s.toks + 1) R0 (Heap.SameBut.update ..) (Heap.get?_update_self _ ho2 rfl) (fun p r => ?_)
    obtain ⟨_, o3, h4, h5⟩ := r.has (f, .fn q ps b sc cl none) (by simp)
    rw [show ({ s with heap := s.heap.push { cls := .type "dict", data := .dict #[] }, toks := s.toks + 1 } : Shared).heap.get? f = some ⟨.type "function", none, .func fd, sl⟩ from ho2] at h4
    cases h4
    obtain ⟨_, _, fd', c', g3, g4, g5, g6, g7, g8, g9, g10, g11, g12, g13, g14⟩ := h5
    exact ⟨rfl, rfl, fd', c', g3, g4, g5, g6, g7, g8, g9, g10, g11, g12, g13, g14⟩
  show wpAny _ _ (Builtin.ObjectAttr.storeInDict s.heap.objs.size (.str "read" s.toks) "read" v') _ _ _
  refine wpAny_bind (wpAny_pure (wpAny_bind ?_))
  refine (nsSet_W (σ := (s.heap.objs.size, .ns []) :: (f, .fn q ps b sc cl (some s.heap.objs.size)) :: σ) (Q := fun _ σ' => σ' = (s.heap.objs.size, .ns [(("read" : Str), v)]) :: (f, .fn q ps b sc cl (some s.heap.objs.size)) :: σ) .here (ev ▸ .nil) rfl).use R₁ fun _ s₂ σ₂ R₂ e₂ => ?_
  subst e₂
  obtain ⟨m, hns, hnd, hl', hw⟩ := ns_count R₂ (.head _)
  obtain ⟨o₂, ents, ep, ho₂, hd₂, hz₂⟩ := hns.count hw
  refine wpAny_bind (wpAny_lookBehind ho₂ (by (first | (refine rwG hd₂ ?_; try (with_reducible rfl)) | rw [hd₂]); exact pastItsLine_dict (by rw [List.length_map] at hz₂; rw [sizeLine_eq]; simp at hz₂; (first | lia | omega))) ?_)
  exact wpAny_pure ⟨_, rfl, wpAny_pure ⟨_, R₂, h _⟩⟩
theorem GM_fnattr {f d : Addr} {q ps b sc cl} {g : Addr} {Q : Value × List Value → Hp → Prop} (hf : (f, AO.fn q ps b sc cl (some d)) ∈ σ) (hd : (d, AO.ns [(("read" : Str), .ref g)]) ∈ σ) (q : Q (.ref g, []) σ) : GM X A E (.ref f) "read" σ Q := fun o' pl e s R => by
  obtain rfl := er_ref e
  obtain ⟨o, fd, ho, hcl, hdict, hdata⟩ := R.fnObj hf
  have hT : ∀ tk, ({ s with toks := tk } : Shared).TypeIs (.ref f) "function" := fun tk => ⟨o, ho, hcl⟩
  obtain ⟨m, hns, hnd, hl⟩ := R.ns hd
  have hm : m "read" = some (.ref g) := by
    have h1 := hl "read"
    rw [show bnd [(("read" : Str), Value.ref g)] "read" = some (.ref g) from rfl] at h1
    obtain ⟨v, h2, h3⟩ := Option.map_eq_some_iff.mp h1
    rw [h2, er_ref h3]
  have attr : wpAny (model X.prog X.w) A (getAttr (.ref f) "read") (fun v s' => Ends X Q (v, []) s') E s := by
    unfold getAttr getAttrBy
    refine wpAny_bind (wpAny_mkText (wpAny_holding (wpAny_bind (wpAny_typeOf (hT _) (wpAny_bind (wpAny_of_eq FF.slot_fn_ga.lookup ?_))))))
    show wpAny _ _ (getAttrByItsOwn (.ref f) (.str "read" s.toks) (.type "function") (.builtin "object.__getattribute__") true false) _ _ _
    unfold getAttrByItsOwn
    refine wpAny_bind (m := hookBefore (.type "function")) (wpAny_pure (wpAny_bind (wpAny_attempt (wpAny_holding ?_))))
    show wpAny _ _ (boundAndCalled (.builtin "object.__getattribute__") (.ref f) (.str "read" s.toks)) _ _ _
    unfold boundAndCalled
    refine wpAny_bind (wpAny_of_eq (FF.slot_fn_ga.bind _) ?_)
    refine wpAny_call_entry FF.slot_fn_ga (hT _) PySem.F.entry_object_getattribute ?_ (PySem.F.args_object_getattribute_2 _ _)
    unfold Builtin.«object.__getattribute__»
    refine wpAny_bind (m := slotArgs "__getattribute__" 1 _) (wpAny_pure ?_)
    refine wpAny_bind (wpAny_pure (wpAny_bind (wpAny_typeOf (hT _) (wpAny_bind ?_))))
    unfold Builtin.ObjectAttr.find
    refine wpAny_bind (wpAny_of_eq FF.fn_read (wpAny_bind (m := Builtin.ObjectAttr.getOf none) (wpAny_pure (wpAny_bind (m := Builtin.ObjectAttr.dataDescriptor? none none) (wpAny_pure ?_)))))
    show wpAny _ _ (Builtin.ObjectAttr.ownThenClass (.ref f) "read" none none) _ _ _
    unfold Builtin.ObjectAttr.ownThenClass
    refine wpAny_bind ?_
    show wpAny _ _ (Builtin.ObjectAttr.ownDict f >>= fun x => Builtin.ObjectAttr.inDict "read" x) _ _ _
    unfold Builtin.ObjectAttr.ownDict
    refine wpAny_bind (wpAny_bind (wpAny_loadPart ho ?_))
    (first | (refine rwG hdata ?_; try (with_reducible rfl)) | rw [hdata])
    show wpAny _ _ (instanceDict f false) _ _ _
    unfold instanceDict
    refine wpAny_bind (wpAny_loadPart ho ?_)
    ((first | (refine rwG hcl ?_; try (with_reducible rfl)) | rw [hcl]); (first | (refine rwG hdict ?_; try (with_reducible rfl)) | rw [hdict]))
    refine wpAny_pure ?_
    refine wpAny_nsGet hns.ns ?_
    (first | (refine rwG hm ?_; try (with_reducible rfl)) | rw [hm])
    exact wpAny_bind (wpAny_rule (wpAny_pure (wpAny_pure ⟨_, rfl, handed_on rfl ⟨σ, R.toks, q⟩⟩)))
  have u : wpAny (model X.prog X.w) A (do return (← getAttr (.ref f) "read", ([] : List Value))) (fun fx s' => Ends X Q ((fun fx : Value × List Value => (fx.1, fx.2.map er)) fx) s') E s :=
    wpAny_bind (wpAny_mono attr (fun v s' ⟨σ', r, q⟩ => wpAny_pure ⟨σ', r, q⟩) fun _ _ z => z)
  unfold getMethod specialOf
  refine wpAny_bind (wpAny_bind (wpAny_typeOf (s := s) (hT s.toks) (wpAny_of_eq FF.slot_fn_ga.lookup ?_)))
  dsimp only
  rw [PySem.F.canon_object_ga, if_neg (by decide)]
  refine wpAny_bind (wpAny_bind (wpAny_typeOf (s := s) (hT s.toks) (wpAny_of_eq FF.fn_hook ?_)))
  refine wpAny_bind (wpAny_bind (wpAny_typeOf (s := s) (hT s.toks) (wpAny_of_eq FF.fn_read ?_)))
  exact u
end
set_option tactic.hygienic true in
theorem codeAmong_snoc_inv {pos pos' : Pos} {c x : Value} : ∀ (l : List Value), TriplesOk l → codeAmong pos' (l ++ [rawInt pos.line, rawInt pos.col, c]) = some x → codeAmong pos' l = some x ∨ (pos'.line = pos.line ∧ pos'.col = pos.col ∧ x = c) := by
  intro l ht
  fun_induction TriplesOk l with
  | case1 =>
    intro h
    right
    simp only [List.nil_append, rawInt, codeAmong] at h
    split at h
    · rename_i hc
      simp only [Bool.and_eq_true, beq_iff_eq] at hc
      injection h with h
      exact ⟨by (first | lia | omega), by (first | lia | omega), h.symm⟩
    · cases h
  | case2 a0 t0 b0 u0 c' rest ih =>
    intro h
    simp only [List.cons_append, codeAmong] at h ⊢
    split at h
    · rename_i hc; left; (first | refine ifP hc ?_ | rw [if_pos hc]); exact h
    · rename_i hc
      rcases ih ht h with h' | h'
      · left; (first | refine ifN hc ?_ | rw [if_neg hc]); exact h'
      · exact .inr h'
  | case3 l h1 h2 => exact ht.elim
theorem triples_snoc {a b : Int} {t u : Tok} {c : Value} : ∀ (l : List Value), TriplesOk l → TriplesOk (l ++ [.int a t, .int b u, c]) := by
  intro l ht
  fun_induction TriplesOk l with
  | case1 => trivial
  | case2 a0 t0 b0 u0 c' rest ih => exact ih ht
  | case3 l h1 h2 => exact ht.elim
section
variable {X : Cx} {A : Around} {α β γ δ : Type} {σ : Hp} {E : Value → Shared → Prop} {env : Env}
structure TabOf (X : Cx) (t : Tab) : Prop where
  mem : t ∈ X.tabs
  uniq : ∀ t' ∈ X.tabs, t'.P = t.P → t' = t
  hd : CodeHd X.h₀ t.c t.P
  bm : ∃ bm o, X.mg "__builtins__" = some (.ref bm) ∧ bm ≠ builtinsNs ∧ bm ≠ mainGlobals ∧ X.h₀.get? bm = some o ∧ o.cls = .type "module" ∧ o.dict = some builtinsNs ∧ o.data = .plain
theorem TabOf.at_ {t : Tab} (T : TabOf X t) {s : Shared} (R : Rel X σ s) : ∃ ps, s.heap.get? t.P = some (tabObj ps) ∧ TriplesOk ps.toList ∧ mainGlobals ≠ t.P ∧ s.heap.BuiltinsAt X.mg t.P := by
  obtain ⟨p, r⟩ := R
  obtain ⟨h1, h2, ps, h3, h4, _⟩ := r.tabs t T.mem
  have ne : ∀ b o, X.h₀.get? b = some o → b ≠ t.P := fun b o e z => by rw [z] at e; rw [r.base _ _ e] at h1; cases h1
  obtain ⟨bm, o, b1, b2, b3, b4, b5⟩ := T.bm
  obtain ⟨og, _, _, hg, _⟩ := X.g
  exact ⟨ps, h3, h4, ne _ _ hg, bm, o, b1, b2, b3, ne _ _ b4, r.keep _ _ (r.base _ _ b4), b5⟩
theorem made_miss {t : Tab} (T : TabOf X t) {s : Shared} {ps : Array Value} {h' : Heap} {c' : Addr} {tk : Nat} {pos : Pos} {q : Str} {pm : Arguments} {b : FuncBody} {sc : Scope} {cl : List (Str × Addr)} {oF : Obj} {fd : FuncData} (R : Rel X σ s) (hps : s.heap.get? t.P = some (tabObj ps)) (hx : Heap.ExtBut t.P s.heap h')
    (hge : s.heap.objs.size ≤ c') (hlt : c' < h'.objs.size) (hrec : h'.CodeRec (.ref c') q) (htb : h'.get? t.P = some (tabObj (ps ++ #[rawInt pos.line, rawInt pos.col, .ref c']))) (hq : t.f pos.line pos.col = q)
    (ho : oF.cls = .type "function" ∧ oF.dict = none ∧ oF.data = .func fd) (hfd : FDP q pm b sc cl fd) (hc : fd.code = .ref c') :
    Rel X ((h'.objs.size, .fn q pm b sc cl none) :: σ) { s with heap := h'.push oF, toks := tk } := by
  obtain ⟨p, r⟩ := R
  obtain ⟨c₂, oc, vs, u, e2, hoc, hd, hv⟩ := hrec
  cases e2
  have old : ∀ b o, s.heap.get? b = some o → b ≠ c' ∧ b ≠ h'.objs.size := fun b o e => by
    have h1 := Heap.lt_size e
    exact ⟨Nat.ne_of_lt (Nat.lt_of_lt_of_le h1 hge), Nat.ne_of_lt (Nat.lt_trans (Nat.lt_of_lt_of_le h1 hge) hlt)⟩
  have hPn := (r.tabs t T.mem).1
  have hPσ := (r.tabs t T.mem).2.1
  have kP : ∀ b o, p b = some o → b ≠ t.P := fun b o e z => by rw [z, hPn] at e; cases e
  have hpc : p c' = none := by
    cases z : p c' with
    | none => rfl
    | some o => exact absurd rfl (old _ _ (r.keep _ _ z)).1
  have hpf : p h'.objs.size = none := by
    cases z : p h'.objs.size with
    | none => rfl
    | some o => exact absurd rfl (old _ _ (r.keep _ _ z)).2
  let p' : Addr → Option Obj := fun b => if b = c' then some oc else p b
  have pp : ∀ b o, p b = some o → p' b = some o := fun b o e => by
    have : b ≠ c' := fun z => by rw [z, hpc] at e; cases e
    simp only [p', if_neg this]; exact e
  have pn : ∀ b, b ≠ c' → p b = none → p' b = none := fun b hb e => by simp only [p', if_neg hb]; exact e
  have gc : GCode p' c' q := ⟨oc, vs, u, by simp [p'], hd, hv⟩
  refine ⟨p', fun b o e => pp _ _ (r.base b o e), fun b o e => ?_, fun a ha => ?_, ?_, fun t' ht' => ?_, r.gens, r.os⟩
  · by_cases hb : b = c'
    · subst hb
      simp only [p', if_true] at e
      cases e
      exact Heap.get?_push_of_some _ hoc
    · simp only [p', if_neg hb] at e
      exact Heap.get?_push_of_some _ (hx _ _ (kP _ _ e) (r.keep _ _ e))
  · rcases List.mem_cons.mp ha with rfl | ha
    · refine ⟨pn _ (Nat.ne_of_gt hlt) hpf, oF, Heap.get?_push_size _ (by obtain ⟨_, _, dt, _⟩ := oF; cases ho.2.2; rfl), ho.1, ho.2.1, fd, c', ho.2.2, hfd.q, hfd.ps, hfd.b, hfd.sc, hfd.cl, hfd.g, hfd.bt, hfd.d, hfd.kd, hc, gc⟩
    · obtain ⟨h1, o, h2, h3⟩ := r.has a ha
      refine ⟨pn _ (old _ _ h2).1 h1, o, Heap.get?_push_of_some _ (hx _ _ (fun z => hPσ (z ▸ List.mem_map_of_mem ha)) h2), h3.mono pp⟩
  · rw [List.map_cons]
    refine List.nodup_cons.mpr ⟨fun hm => ?_, r.nodup⟩
    obtain ⟨a, ha, e⟩ := List.mem_map.mp hm
    obtain ⟨_, o, h2, _⟩ := r.has a ha
    exact (old _ _ h2).2 e
  · obtain ⟨h1, h2, ps', h3, h4, h5⟩ := r.tabs t' ht'
    refine ⟨pn _ (old _ _ h3).1 h1, fun hm => ?_, ?_⟩
    · rw [List.map_cons] at hm
      rcases List.mem_cons.mp hm with e | hm
      · exact (old _ _ h3).2 e
      · exact h2 hm
    · by_cases hP : t'.P = t.P
      · obtain rfl := T.uniq t' ht' hP
        rw [hps] at h3
        cases h3
        refine ⟨_, Heap.get?_push_of_some _ htb, by simpa [rawInt] using triples_snoc (a := pos.line) (b := pos.col) (t := 0) (u := 0) (c := .ref c') _ h4, fun pos' c e => ?_⟩
        rw [Array.toList_append] at e
        rcases codeAmong_snoc_inv _ h4 e with e | ⟨e1, e2, rfl⟩
        · obtain ⟨c'', rfl, o, vs, u, g1, g2⟩ := h5 pos' c e
          exact ⟨c'', rfl, o, vs, u, pp _ _ g1, g2⟩
        · exact ⟨c', rfl, by ((first | (refine rwG e1 ?_; try (with_reducible rfl)) | rw [e1]); (first | (refine rwG e2 ?_; try (with_reducible rfl)) | rw [e2]); (first | (refine rwG hq ?_; try (with_reducible rfl)) | rw [hq])); exact gc⟩
      · refine ⟨ps', Heap.get?_push_of_some _ (hx _ _ hP h3), h4, fun pos' c e => ?_⟩
        obtain ⟨c'', rfl, o, vs, u, g1, g2⟩ := h5 pos' c e
        exact ⟨c'', rfl, o, vs, u, pp _ _ g1, g2⟩
theorem made_hit {t : Tab} (T : TabOf X t) {s : Shared} {ps : Array Value} {h' : Heap} {cv : Value} {tk : Nat} {pos : Pos} {q : Str} {pm : Arguments} {b : FuncBody} {sc : Scope} {cl : List (Str × Addr)} {oF : Obj} {fd : FuncData} (R : Rel X σ s) (hps : s.heap.get? t.P = some (tabObj ps)) (hf : codeAmong pos ps.toList = some cv)
    (k : ∀ b o, s.heap.get? b = some o → h'.get? b = some o) (hsz : s.heap.objs.size ≤ h'.objs.size) (hq : t.f pos.line pos.col = q)
    (ho : oF.cls = .type "function" ∧ oF.dict = none ∧ oF.data = .func fd) (hfd : FDP q pm b sc cl fd) (hc : fd.code = cv) :
    Rel X ((h'.objs.size, .fn q pm b sc cl none) :: σ) { s with heap := h'.push oF, toks := tk } := by
  refine R.new (x := .fn q pm b sc cl none) (tk := tk) ?_ (fun b o e => Heap.get?_push_of_some _ (k _ _ e)) (Heap.get?_push_size _ (by obtain ⟨_, _, dt, _⟩ := oF; cases ho.2.2; rfl)) fun p r => ?_
  · cases z : s.heap.get? h'.objs.size with
    | none => rfl
    | some o => exact absurd (Heap.lt_size z) (Nat.not_lt.mpr hsz)
  · obtain ⟨h1, h2, ps', h3, h4, h5⟩ := r.tabs t T.mem
    rw [hps] at h3
    cases h3
    obtain ⟨c', rfl, gc⟩ := h5 pos cv hf
    rw [hq] at gc
    exact ⟨ho.1, ho.2.1, fd, c', ho.2.2, hfd.q, hfd.ps, hfd.b, hfd.sc, hfd.cl, hfd.g, hfd.bt, hfd.d, hfd.kd, hc, gc⟩
theorem make_stmts {t : Tab} (T : TabOf X t) {name q : Str} {pm : Arguments} {body : List Stmt} {sc : Scope} {cl : List (Str × Addr)} {pos : Pos} {fl : Nat} {Q : Value → Hp → Prop} (hcl : closureFor sc env = pure cl) (hge : env.globals = mainGlobals) (hcode : env.code = .ref t.c) (hq : t.f pos.line pos.col = q)
    (h : ∀ f, Q (.ref f) ((f, .fn q pm (.stmts body) sc cl none) :: σ)) : W X A er (makeFunction name q pm (.stmts body) sc env [] [] [] pos fl) σ Q E := fun s R => by
  obtain ⟨ps, h1, h2, h3, h4⟩ := T.at_ R
  cases hf : codeAmong pos ps.toList with
  | none =>
    refine makeFunction_K hcl hge (X.g.keeps R.keep) hcode (T.hd.keeps R.keep) h1 h2 hf h3 h4 fun c' ctv doc h' tk hx hgec hlt hrec htb => ?_
    exact ⟨_, made_miss T R h1 hx hgec hlt hrec htb hq ⟨rfl, rfl, rfl⟩ ⟨rfl, rfl, rfl, rfl, rfl, rfl, rfl, rfl, rfl⟩ rfl, h _⟩
  | some cv =>
    refine makeFunction_hit hcl hge (X.g.keeps R.keep) hcode (T.hd.keeps R.keep) h1 h2 hf h4 fun ctv doc h' tk k hsz => ?_
    exact ⟨_, made_hit T R h1 hf k hsz hq ⟨rfl, rfl, rfl⟩ ⟨rfl, rfl, rfl, rfl, rfl, rfl, rfl, rfl, rfl⟩ rfl, h _⟩
theorem make_expr {t : Tab} (T : TabOf X t) {name q : Str} {pm : Arguments} {body : Expr} {sc : Scope} {cl : List (Str × Addr)} {pos : Pos} {fl : Nat} {Q : Value → Hp → Prop} (hcl : closureFor sc env = pure cl) (hge : env.globals = mainGlobals) (hcode : env.code = .ref t.c) (hq : t.f pos.line pos.col = q)
    (h : ∀ f, Q (.ref f) ((f, .fn q pm (.expr body) sc cl none) :: σ)) : W X A er (makeFunction name q pm (.expr body) sc env [] [] [] pos fl) σ Q E := fun s R => by
  obtain ⟨ps, h1, h2, h3, h4⟩ := T.at_ R
  cases hf : codeAmong pos ps.toList with
  | none =>
    refine kla_makeFunction hcl hge (X.g.keeps R.keep) hcode (T.hd.keeps R.keep) h1 h2 hf h3 h4 fun c' ctv h' tk hx hgec hlt hrec htb => ?_
    exact ⟨_, made_miss T R h1 hx hgec hlt hrec htb hq ⟨rfl, rfl, rfl⟩ ⟨rfl, rfl, rfl, rfl, rfl, rfl, rfl, rfl, rfl⟩ rfl, h _⟩
  | some cv =>
    refine kla_makeFunctionHit hcl hge (X.g.keeps R.keep) hcode (T.hd.keeps R.keep) h1 h2 hf h4 fun ctv h' tk k hsz => ?_
    exact ⟨_, made_hit T R h1 hf k hsz hq ⟨rfl, rfl, rfl⟩ ⟨rfl, rfl, rfl, rfl, rfl, rfl, rfl, rfl, rfl⟩ rfl, h _⟩
theorem EX_Def {t : Tab} (T : TabOf X t) {name q : Str} {as : List Arg} {body : List Stmt} {sc : Scope} {cl : List (Str × Addr)} {pos : Pos} {Q : Flow → Hp → Prop} (ha : annTrees (plainPs as) none env = []) (hq1 : qualnameIn env name name = q) (hcl : closureFor sc env = pure cl) (hge : env.globals = mainGlobals) (hcode : env.code = .ref t.c) (hq : t.f pos.line pos.col = q)
    (h : ∀ f, ST X A env E name (.ref f) ((f, .fn q (plainPs as) (.stmts body) sc cl none) :: σ) (fun σ' => Q .next σ')) : EX X A env E (.FunctionDef name (plainPs as) body [] none [] sc none name pos) σ Q := fun s R => by
  refine nestDef_K rfl rfl ha ?_
  (first | (refine rwG hq1 ?_; try (with_reducible rfl)) | rw [hq1])
  refine (make_stmts T hcl hge hcode hq (Q := fun v σ' => ∃ f, v = .ref f ∧ σ' = (f, .fn q (plainPs as) (.stmts body) sc cl none) :: σ) fun f => ⟨f, rfl, rfl⟩).use R fun v s₁ σ₁ R₁ ⟨f, ev, e1⟩ => ?_
  subst e1
  obtain rfl := er_ref ev
  exact (h f (.ref f) rfl).use R₁ fun _ s₂ σ₂ R₂ q => ⟨σ₂, R₂, q⟩
theorem EV_Lambda {t : Tab} (T : TabOf X t) {q : Str} {as : List Arg} {body : Expr} {sc : Scope} {cl : List (Str × Addr)} {pos : Pos} {Q : Value → Hp → Prop} (hdef : defaultsOf (plainPs as) env = ([], [])) (hq1 : env.qual ++ "<lambda>" = q) (hcl : closureFor sc env = pure cl) (hge : env.globals = mainGlobals) (hcode : env.code = .ref t.c) (hq : t.f pos.line pos.col = q)
    (h : ∀ f, Q (.ref f) ((f, .fn q (plainPs as) (.expr body) sc cl none) :: σ)) : EV X A env E (.Lambda (plainPs as) body sc pos) σ Q := fun s R => by
  refine kla_eval hdef ?_
  (first | (refine rwG hq1 ?_; try (with_reducible rfl)) | rw [hq1])
  exact make_expr T hcl hge hcode hq h s R
end
noncomputable def hid (h : Heap) : List Addr → Heap
  | [] => h
  | a :: r => (hid h r).hide a
theorem hid_in {h : Heap} : ∀ {l : List Addr} {b : Addr}, b ∈ l → (hid h l).get? b = none
  | a :: r, b, hb => by
    by_cases e : b = a
    · subst e; exact Heap.hide_self _ _
    · have hb' : b ∈ r := by rcases List.mem_cons.mp hb with e' | hb; exact absurd e' e; exact hb
      show ((hid h r).hide a).get? b = none
      rw [Heap.hide_ne _ e]; exact hid_in hb'
theorem hid_out {h : Heap} : ∀ {l : List Addr} {b : Addr}, b ∉ l → (hid h l).get? b = h.get? b
  | [], _, _ => rfl
  | a :: r, b, hb => by
    simp only [List.mem_cons, not_or] at hb
    show ((hid h r).hide a).get? b = _
    rw [Heap.hide_ne _ hb.1]; exact hid_out hb.2
theorem of_hid {h : Heap} {l : List Addr} {b : Addr} {o : Obj} (e : (hid h l).get? b = some o) : h.get? b = some o := by
  by_cases hb : b ∈ l
  · rw [hid_in hb] at e; cases e
  · rwa [hid_out hb] at e
section
variable {X : Cx} {A : Around} {α β γ δ : Type} {σ : Hp} {E : Value → Shared → Prop} {env : Env}
inductive Less (J : Nat → Hp → Prop) (n : Nat) (σ : Hp) : Prop
  | mk (m : Nat) (σ' : Hp) (hp : Pick σ' σ) (hm : m < n) (hj : J m σ')
noncomputable abbrev WhileF (J : Nat → Hp → Prop) (n : Nat) (Q : Flow → Hp → Prop) : Flow → Hp → Prop := fun f σ => match f with
  | .next | .cont => Less J n σ
  | .brk => OutQ Q .next σ
  | .ret v => OutQ Q (.ret v) σ
theorem EX_While {test body pos} {Q : Flow → Hp → Prop} (J : Nat → Hp → Prop) (n : Nat) (h0 : J n σ) (turn : ∀ n σ, J n σ → TE X A env F0 test σ (fun b σ₁ => if b then XS X A env F0 body σ₁ (WhileF J n Q) else OutQ Q .next σ₁)) : EX X A env E (.While test body [] pos) σ Q := fun s R => by
  refine wpAny_While (codeAny_whileLoop (R := fun r s' => match r with | .ok f => Ends X Q (erF f) s' | .error e => cameBackBy (model X.prog X.w) A env E e s') (fun n s => Ends X J n s) (fun n s ⟨σ, R, hJ⟩ => ?_) n ⟨σ, R, h0⟩)
  refine wpAny_mono (turn n σ hJ s R) (fun b s₁ ⟨σ₁, R₁, h₁⟩ => ?_) fun _ _ x => x.elim
  cases b with
  | false =>
    have h₁ : OutQ Q .next σ₁ := by simpa using h₁
    obtain ⟨σ', hp, q⟩ := h₁
    exact wpAny_execs_nil ⟨σ', R₁.pick hp, q⟩
  | true =>
    have h₁ : XS X A env F0 body σ₁ (WhileF J n Q) := by simpa using h₁
    refine wpAny_mono (h₁ s₁ R₁) (fun f s₂ ⟨σ₂, R₂, h₂⟩ => ?_) fun _ _ x => x.elim
    cases f with
    | next => obtain ⟨m, σ', hp, hm, hj⟩ := h₂; exact ⟨m, hm, σ', R₂.pick hp, hj⟩
    | cont => obtain ⟨m, σ', hp, hm, hj⟩ := h₂; exact ⟨m, hm, σ', R₂.pick hp, hj⟩
    | brk => obtain ⟨σ', hp, q⟩ := h₂; exact ⟨σ', R₂.pick hp, q⟩
    | ret v => obtain ⟨σ', hp, q⟩ := h₂; exact ⟨σ', R₂.pick hp, q⟩
noncomputable def XF (X : Cx) (l : List Env) (Qσ : Hp → Prop) : Value → Shared → Prop := fun ev s' => ∃ e base a0 σ, ev = .ref e ∧ Qσ σ ∧ Heap.FlyingW base l e (.type "StopIteration") a0 s'.heap ∧
  ∀ h'' tk, base.StaysIn h'' → s'.heap.UpToSlots h'' → Rel X σ { s' with heap := h'', toks := tk }
noncomputable def FrIn (l : List Env) (σ : Hp) : Prop := ∀ env ∈ l, env.scope.kind ≠ .module ∧ ∃ L es, env.frame = some L ∧ (L, AO.ns es) ∈ σ
theorem funFrames_of {s : Shared} {base : Heap} (R : Rel X σ s) : ∀ {l : List Env}, FrIn l σ → (∀ L, L ∈ l.filterMap (·.frame) → base.get? L = none) → s.heap.FunFrames base l
  | [], _, _ => trivial
  | env :: r, h, hb => by
    obtain ⟨hk, L, es, hf, hm⟩ := h env (.head _)
    obtain ⟨p, o, _, ho, _, ents, ep, hd, _⟩ := R.get hm
    refine ⟨hk, ⟨L, o, hf, hb L (by simp [hf]), ho, fun vs q => by rw [hd] at q; cases q⟩, funFrames_of R (fun e he => h e (.tail _ he)) fun L' hL' => hb L' ?_⟩
    rw [List.filterMap_cons, hf]; exact List.mem_cons_of_mem _ hL'
theorem frIn_mem {l : List Env} (h : FrIn l σ) {L : Addr} (hL : L ∈ l.filterMap (·.frame)) : ∃ es, (L, AO.ns es) ∈ σ := by
  obtain ⟨env, he, hf⟩ := List.mem_filterMap.mp hL
  obtain ⟨_, L', es, hf', hm⟩ := h env he
  rw [hf] at hf'; cases hf'
  exact ⟨es, hm⟩
theorem LV_first {e : Addr} {outer : List Env} {Qσ : Hp → Prop} {s : Shared} (hfr : A.frames = some outer) (hF : FrIn (env :: outer) σ) (R : Rel X ((e, .exc .none) :: σ) s) (q : Qσ σ) : LV X A env (XF X outer Qσ) (.ref e) s := by
  obtain ⟨p, r⟩ := id R
  have nd := r.nodup
  rw [List.map_cons, List.nodup_cons] at nd
  obtain ⟨hpe, oe, hoe, hcl, vs, a0, hd, h0, h1⟩ := r.has (e, .exc .none) (.head _)
  have Rσ : Rel X σ s := R.sublist (.cons _ (.refl _))
  let fr := (env :: outer).filterMap (·.frame)
  let base := hid s.heap (e :: fr)
  have frn : ∀ L ∈ fr, base.get? L = none := fun L hL => hid_in (.tail _ hL)
  obtain ⟨hk0, L, es, hf, hm⟩ := hF env (.head _)
  have hfr' : (A.deeper env).frames = some (env :: outer) := Around.frames_deeper hfr
  refine wpAny_leaving_firstW (base := base) hfr' (funFrames_of Rσ hF frn) hf hoe (fun b o x => of_hid x) (hid_in (.head _)) hd h1 h0 fun h' ⟨k1, ⟨_, _, k2⟩, k3, k4⟩ => ?_
  rw [hcl] at k3
  refine ⟨e, base, a0, σ, rfl, q, ⟨k1, hid_in (.head _), k2, k3⟩, fun h'' tk g1 g2 => ?_⟩
  have up : s.heap.UpToSlots h'' := Heap.UpToSlots.trans k4 g2
  have keep : ∀ b o, s.heap.get? b = some o → b ≠ e → b ∉ fr → h''.get? b = some o := fun b o x n1 n2 => g1 b o (by
    show (hid s.heap (e :: fr)).get? b = _
    rw [hid_out (by simp only [List.mem_cons, not_or]; exact ⟨n1, n2⟩)]; exact x)
  have pfr : ∀ b o, p b = some o → b ≠ e ∧ b ∉ fr := fun b o x => ⟨(fun z => by rw [z, hpe] at x; cases x), (fun z => by
    obtain ⟨es', hm'⟩ := frIn_mem hF z
    rw [(r.has _ (.tail _ hm')).1] at x; cases x)⟩
  refine ⟨p, r.base, fun b o x => keep b o (r.keep b o x) (pfr b o x).1 (pfr b o x).2, fun a ha => ?_, nd.2, fun t ht => ?_, r.gens, r.os⟩
  · obtain ⟨g3, o, g4, g5⟩ := r.has a (.tail _ ha)
    by_cases hb : a.1 ∈ fr
    · obtain ⟨es', hm'⟩ := frIn_mem hF hb
      have e1 : a = (a.1, AO.ns es') := by
        have inj : ∀ {τ : Hp}, (τ.map (·.1)).Nodup → ∀ {x y : Addr × AO}, x ∈ τ → y ∈ τ → x.1 = y.1 → x = y := by
          intro τ hn
          induction τ with
          | nil => intro x y hx; cases hx
          | cons z r ih =>
            rw [List.map_cons, List.nodup_cons] at hn
            intro x y hx hy exy
            rcases List.mem_cons.mp hx with e1 | hx'
            · rcases List.mem_cons.mp hy with e2 | hy'
              · ((first | (refine rwG e1 ?_; try (with_reducible rfl)) | rw [e1]); (first | (refine rwG e2 ?_; try (with_reducible rfl)) | rw [e2]))
              · exact absurd (List.mem_map_of_mem (f := (·.1)) hy') (by ((first | (refine rwG exy.symm ?_; try (with_reducible rfl)) | rw [← exy]); (first | (refine rwG e1 ?_; try (with_reducible rfl)) | rw [e1])); exact hn.1)
            · rcases List.mem_cons.mp hy with e2 | hy'
              · exact absurd (List.mem_map_of_mem (f := (·.1)) hx') (by ((first | (refine rwG exy ?_; try (with_reducible rfl)) | rw [exy]); (first | (refine rwG e2 ?_; try (with_reducible rfl)) | rw [e2])); exact hn.1)
              · exact ih hn.2 hx' hy' exy
        exact inj nd.2 ha hm' rfl
      rw [e1] at g5 ⊢
      obtain ⟨g6, ents, ep, g7, g8, g8', g8''⟩ := g5
      obtain ⟨sl, g9⟩ := up _ o g4 (fun vs z => by rw [g7] at z; cases z)
      exact ⟨g3, _, g9, g6, ents, ep, g7, g8, g8', g8''⟩
    · exact ⟨g3, o, keep _ _ g4 (fun z => nd.1 (show e ∈ σ.map (·.1) from z ▸ List.mem_map_of_mem (f := (·.1)) ha)) hb, g5⟩
  · obtain ⟨g1', g2', ps, g3, g4⟩ := r.tabs t ht
    rw [List.map_cons, List.mem_cons, not_or] at g2'
    refine ⟨g1', g2'.2, ps, keep _ _ g3 g2'.1 (fun z => ?_), g4⟩
    obtain ⟨es', hm'⟩ := frIn_mem hF z
    exact g2'.2 (List.mem_map_of_mem (f := (·.1)) hm')
theorem XF.notedBy {l : List Env} {Qσ : Hp → Prop} {ev : Value} {s : Shared} {R : Value → Shared → Prop} {L : Addr} (hfr : A.frames = some (env :: l)) (hf : env.frame = some L) (h : XF X (env :: l) Qσ ev s)
    (k : ∀ e s' base a0 σ, ev = .ref e → Qσ σ → Heap.HeldW base (env :: l) e (.type "StopIteration") a0 L s'.heap → (∀ h'' tk, base.StaysIn h'' → s'.heap.UpToSlots h'' → Rel X σ { s' with heap := h'', toks := tk }) → R ev s') : notedBy (model X.prog X.w) A env R ev s := by
  obtain ⟨e, base, a0, σ, rfl, q, hfl, hl⟩ := h
  exact wpAny_looks_onW hfr hf hfl fun h' hh hu => k e _ base a0 σ rfl q hh fun h'' tk g1 g2 => hl h'' tk g1 (hu.trans g2)
theorem setFlight_held {M : Model} {s : Shared} {base : Heap} {l : List Env} {e : Addr} {cls a0 : Value} {L : Addr} {Q : Unit → Shared → Prop} (H : Heap.HeldW base l e cls a0 L s.heap)
    (h : ∀ h', Heap.HeldW base l e cls a0 L h' → s.heap.UpToSlots h' → Q () { s with heap := h' }) : wpAny M A (do
    if (← field (.ref e) 1) == .none then unsupported "frame.own-activation:exception-without-traceback"
    setFlight (.ref e) (some L)) Q E s := by
  obtain ⟨f1, f2, f3, oe, vs, T, oT, ts, he, hcls, hd, h1, hnT, hTe, hT, hdT, h3⟩ := H
  have hsz3 : 3 < ts.size := (Array.getElem?_eq_some_iff.mp h3).1
  refine wpAny_bind (wpAny_field he hd h1 ?_)
  (first | refine ifN (show ¬ ((Value.ref T == Value.none) = true) from by simp) ?_ | rw [if_neg (show ¬ ((Value.ref T == Value.none) = true) from by simp)])
  unfold setFlight
  refine wpAny_bind (wpAny_field he hd h1 ?_)
  (first | refine ifP (show (Value.ref T != Value.none) = true from by simp) ?_ | rw [if_pos (show (Value.ref T != Value.none) = true from by simp)])
  refine wpAny_setField hT hdT hsz3 ?_
  have other : ∀ b, b ≠ T → (s.heap.update T (Obj.mapFields (·.setIfInBounds 3 ((some L : Option Addr).elim Value.none fun f => rawInt f)))).get? b = s.heap.get? b := fun b hb => Heap.get?_update_other _ _ (Ne.symm hb)
  have noRecord : ∀ b o, s.heap.get? b = some o → (∀ vs, o.data ≠ .fields vs) → b ≠ T := fun b o hb hnf q => by
    rw [q, hT] at hb; injection hb with hb; subst hb; exact hnf ts hdT
  have hT' := Heap.get?_update_self (Obj.mapFields (·.setIfInBounds 3 ((some L : Option Addr).elim Value.none fun f => rawInt f))) hT (Obj.isFreed_of_fields (Obj.data_mapFields hdT _))
  refine h _ ⟨fun b o hb => (other b fun q => by rw [q, hnT] at hb; cases hb).trans (f1 b o hb), f2, f3.of_keeps fun b o hb hnf => ⟨o, (other b (noRecord b o hb hnf)).trans hb, rfl⟩, oe, vs, T, _, _, (other e (Ne.symm hTe)).trans he, hcls, hd, h1, hnT, hTe, hT', Obj.data_mapFields hdT _, by simp [hsz3]⟩
    fun b o hb hnf => ⟨o.slots, (other b (noRecord b o hb hnf)).trans hb⟩
theorem EX_TryLoop {t : Expr} {wbody : List Stmt} {b₀ : Stmt} {suite : List Stmt} {p1 p2 p3 pos : Pos} {k : Nat} {L : Addr} {outer : List Env} {Q : Flow → Hp → Prop} {Qσ : Hp → Prop} (hfr : A.frames = some (env :: outer)) (hf : env.frame = some L)
    (J : Nat → Hp → Prop) (n : Nat) (h0 : J n σ)
    (turn : ∀ n σ, J n σ → XS X A env (XF X (env :: outer) Qσ) wbody σ (fun f σ₂ => f = .next ∧ ∃ m σ', Pick σ' σ₂ ∧ m < n ∧ J m σ'))
    (hex : ∀ A' σ s K E', Rel X σ s → K (.type "StopIteration") s → wpAny (model X.prog X.w) A' (eval t env) K E' s)
    (hsu : ∀ σ e, Qσ σ → XS X (A.mark (some (.ref e))) env F0 (b₀ :: suite) σ Q) :
    EX X A env E (.Try [.While (.Constant (.bool true) k p1) wbody [] p2] [.ExceptHandler (some t) none (b₀ :: suite) p3] [] [] pos) σ Q := fun s R => by
  refine wpAny_Try_except (wpAny_execs_cons ?_)
  have handler : ∀ e s' base a0 σ₁, Qσ σ₁ → Heap.HeldW base (env :: outer) e (.type "StopIteration") a0 L s'.heap → (∀ h'' tk, base.StaysIn h'' → s'.heap.UpToSlots h'' → Rel X σ₁ { s' with heap := h'', toks := tk }) →
      wpAny (model X.prog X.w) A (noteFrame (.ref e) env) (fun _ s₂ => wpAny (model X.prog X.w) A (setFlight (.ref e) none) (fun _ s₃ => wpAny (model X.prog X.w) A (handleBy (.ref e) env [.ExceptHandler (some t) none (b₀ :: suite) p3]) (fun a s' => Ends X Q (erF a) s') E s₃) E s₂) E s' := by
    intro e s' base a0 σ₁ q H hl
    refine wpAny_noteFrame_againW hf H.2.2.2 (wpAny_landsW H fun h₁ F₁ u₁ => ?_)
    have R₁ : Rel X σ₁ { s' with heap := h₁, toks := s'.toks } := hl h₁ s'.toks F₁.1 u₁
    refine wpAny_handleBy_builtin (X := "StopIteration") (T := "StopIteration") (b := true) (by rw [isSubtype_type]; kernel_rfl) (by kernel_rfl) isSubtype_stop ?_
    refine hex _ σ₁ _ _ _ R₁ ⟨rfl, F₁.there, ?_⟩
    (first | refine ifP rfl ?_ | rw [if_pos rfl])
    refine wpAny_setFlight_noneW F₁.1 F₁.2.2.1 F₁.2.2.2.at fun h₂ g1 g2 g3 g4 => ?_
    have R₂ : Rel X σ₁ { s' with heap := h₂, toks := s'.toks } := hl h₂ s'.toks g1 (u₁.trans fun b o hb hn => ⟨o.slots, g4 b o hb hn⟩)
    exact wpAny_mono (hsu σ₁ e q _ R₂) (fun _ _ z => z) fun _ _ x => x.elim
  have turnE : ∀ ev s', XF X (env :: outer) Qσ ev s' → notedBy (model X.prog X.w) A env (fun e s' => cameBackBy (model X.prog X.w) A env (fun e s₁ => wpAny (model X.prog X.w) A (noteFrame e env) (fun _ s₂ => wpAny (model X.prog X.w) A (setFlight e none) (fun _ s₃ => wpAny (model X.prog X.w) A (handleBy e env [.ExceptHandler (some t) none (b₀ :: suite) p3]) (fun a s' => Ends X Q (erF a) s') E s₃) E s₂) E s₁) e s') ev s' := by
    intro ev s' hx
    refine XF.notedBy hfr hf hx fun e s₁ base a0 σ₁ ee q H hl => ?_
    subst ee
    unfold cameBackBy
    (first | (refine rwG hf ?_; try (with_reducible rfl)) | rw [hf])
    exact setFlight_held H fun h' H' u' => handler e _ base a0 σ₁ q H' fun h'' tk g1 g2 => hl h'' tk g1 (u'.trans g2)
  refine wpAny_While (codeAny_whileLoop (R := fun r s' => match r with | .ok f => False | .error e => cameBackBy (model X.prog X.w) A env _ e s') (fun n s => Ends X J n s) (fun n s ⟨σ, R, hJ⟩ => ?_) n ⟨σ, R, h0⟩) |> fun z => wpAny_mono z (fun f s₁ x => ?_) fun _ _ x => x
  · exact x.elim
  · refine wpAny_mono (TE_plain (X := X) (E := F0) (Q := fun b σ' => b = true ∧ σ' = σ) rfl (EV_bool (TRU_bool ⟨rfl, rfl⟩)) s R) (fun b s₁ ⟨σ₁, R₁, eb, e1⟩ => ?_) fun _ _ x => x.elim
    have eb : b = true := eb
    subst eb e1
    (first | refine ifP rfl ?_ | rw [if_pos rfl])
    refine wpAny_mono (turn n _ hJ s₁ R₁) (fun f s₂ ⟨σ₂, R₂, ef, m, σ', hp, hm, hj⟩ => ?_) fun ev s' x => turnE ev s' x
    cases f <;> first | (cases ef; done) | exact ⟨m, hm, σ', R₂.pick hp, hj⟩
end
noncomputable abbrev dT (l : List Nat) : PyData := .str (tx l)
theorem readsT {h : Heap} : ∀ {vs : List Value} {xs : List (List Nat)}, vs.map er = xs.map T → ∃ as, ReadsAll h vs (xs.map dT) as
  | [], [], _ => ⟨_, .nil⟩
  | [], _ :: _, e => by simp at e
  | _ :: _, [], e => by simp at e
  | v :: vs, x :: xs, e => by
    simp only [List.map_cons, List.cons.injEq] at e
    obtain ⟨t, rfl⟩ := er_str e.1
    obtain ⟨as, h1⟩ := readsT (h := h) e.2
    exact ⟨_, .cons (.str (tx x) t) h1⟩
theorem readsI {h : Heap} : ∀ {vs : List Value} {xs : List Int}, vs.map er = xs.map I → ∃ as, ReadsAll h vs (xs.map PyData.int) as
  | [], [], _ => ⟨_, .nil⟩
  | [], _ :: _, e => by simp at e
  | _ :: _, [], e => by simp at e
  | v :: vs, x :: xs, e => by
    simp only [List.map_cons, List.cons.injEq] at e
    obtain ⟨t, rfl⟩ := er_int e.1
    obtain ⟨as, h1⟩ := readsI (h := h) e.2
    exact ⟨_, .cons (.int x t) h1⟩
theorem eqvT : ∀ (xs ys : List (List Nat)), PyData.eqvAll (xs.map dT) (ys.map dT) = (xs == ys)
  | [], [] => by simp [PyData.eqvAll]
  | [], _ :: _ => by simp [PyData.eqvAll]
  | _ :: _, [] => by simp [PyData.eqvAll]
  | x :: xs, y :: ys => by
    have h1 : PyData.eqv (dT x) (dT y) = (x == y) := by
      (first | (refine rwG tx_eq.symm ?_; try (with_reducible rfl)) | rw [← tx_eq]); simp [PyData.eqv]
    simp only [List.map_cons, PyData.eqvAll, h1, eqvT xs ys, List.cons_beq_cons]
theorem eqvI : ∀ (xs ys : List Int), PyData.eqvAll (xs.map .int) (ys.map .int) = (xs == ys)
  | [], [] => by simp [PyData.eqvAll]
  | [], _ :: _ => by simp [PyData.eqvAll]
  | _ :: _, [] => by simp [PyData.eqvAll]
  | x :: xs, y :: ys => by
    have h1 : PyData.eqv (.int x) (.int y) = (x == y) := by simp [PyData.eqv]
    simp only [List.map_cons, PyData.eqvAll, h1, eqvI xs ys, List.cons_beq_cons]
theorem eqvTT : ∀ (xs ys : List (List (List Nat))), PyData.eqvAll (xs.map fun x => .list (x.map dT)) (ys.map fun x => .list (x.map dT)) = (xs == ys)
  | [], [] => by simp [PyData.eqvAll]
  | [], _ :: _ => by simp [PyData.eqvAll]
  | _ :: _, [] => by simp [PyData.eqvAll]
  | x :: xs, y :: ys => by
    have h1 : PyData.eqv (.list (x.map dT)) (.list (y.map dT)) = (x == y) := by rw [PyData.eqv]; exact eqvT x y
    simp only [List.map_cons, PyData.eqvAll, h1, eqvTT xs ys, List.cons_beq_cons]
noncomputable def lowT (xs : List (List Nat)) : Prop := ∀ x ∈ xs, ∀ c ∈ x, c < 128
theorem layT : ∀ {xs : List (List Nat)}, lowT xs → PyData.canLayAll0 (xs.map dT) = true
  | [], _ => rfl
  | x :: xs, h => by
    simp only [List.map_cons, PyData.canLayAll0, layT (xs := xs) fun y hy => h y (.tail _ hy), Bool.and_true]
    show PyData.strOk (tx x) = true
    unfold PyData.strOk
    simp only [List.all_toArray, List.size_toArray, List.take_length, List.all_eq_true, decide_eq_true_eq]
    try simp
    intro c hc
    have := h x (.head _) c hc
    (first | lia | omega)
theorem layI : ∀ (xs : List Int), PyData.canLayAll0 (xs.map .int) = true
  | [] => rfl
  | x :: xs => by simp only [List.map_cons, PyData.canLayAll0, layI xs, PyData.canLay0, Bool.and_self]
theorem layTT : ∀ {xs : List (List (List Nat))}, (∀ x ∈ xs, lowT x) → PyData.canLayAll0 (xs.map fun x => .list (x.map dT)) = true
  | [], _ => rfl
  | x :: xs, h => by
    simp only [List.map_cons, PyData.canLayAll0, layTT (xs := xs) fun y hy => h y (.tail _ hy), Bool.and_true, PyData.canLay0]
    exact layT (h x (.head _))
theorem depT : ∀ (xs : List (List Nat)), PyData.depthAll (xs.map dT) = 0
  | [] => rfl
  | x :: xs => by simp only [List.map_cons, PyData.depthAll, depT xs, PyData.depth, Nat.max_self]
theorem depI : ∀ (xs : List Int), PyData.depthAll (xs.map .int) = 0
  | [] => rfl
  | x :: xs => by simp only [List.map_cons, PyData.depthAll, depI xs, PyData.depth, Nat.max_self]
theorem depTT : ∀ (xs : List (List (List Nat))), PyData.depthAll (xs.map fun x => .list (x.map dT)) ≤ 1
  | [] => by simp [PyData.depthAll]
  | x :: xs => by
    have := depTT xs
    simp only [List.map_cons, PyData.depthAll, PyData.depth, depT]; (first | lia | omega)
section
variable {X : Cx} {A : Around} {α β γ δ : Type} {σ : Hp} {E : Value → Shared → Prop} {env : Env}
theorem readsList {s : Shared} (R : Rel X σ s) {a : Addr} {vs : List Value} {ds : List PyData} (hm : (a, AO.seq "list" vs) ∈ σ) (h : ∀ items : Array Value, items.toList.map er = vs → ∃ as, ReadsAll s.heap items.toList ds as) : ∃ as, Reads s.heap (.ref a) (.list ds) as := by
  obtain ⟨items, n, ho, he, _⟩ := isL R hm
  obtain ⟨as, ha⟩ := h items he
  exact ⟨_, .list ho rfl rfl ha⟩
theorem CMP_nel {a b : Addr} {da db : List PyData} {r : Bool} {Q : Value → Hp → Prop} {n : Nat} (rm : Rm (n + 1) A) (ra : ∀ s, Rel X σ s → ∃ as, Reads s.heap (.ref a) (.list da) as) (rb : ∀ s, Rel X σ s → ∃ as, Reads s.heap (.ref b) (.list db) as)
    (la : PyData.canLayAll0 da = true) (lb : PyData.canLayAll0 db = true) (hd : PyData.depthAll da ≤ 3) (hr : PyData.eqvAll da db = r) (q : Q (.bool (!r)) σ) : CMP X A E .NotEq (.ref a) (.ref b) σ Q := fun a' b' ea eb s R => by
  obtain rfl := er_ref ea
  obtain rfl := er_ref eb
  obtain ⟨as, h1⟩ := ra s R
  obtain ⟨bs, h2⟩ := rb s R
  refine SeqAt.compareNe_reads h1 h2 la lb ?_ ⟨σ, R, ?_⟩
  · have := rm.units
    simp only [PyData.depth]
    show _ < 9900
    omega
  · show Q (.bool (!(PyData.eqv (.list da) (.list db)))) σ
    rw [PyData.eqv, hr]; exact q
theorem CMP_neT {a b : Addr} {xs ys : List (List Nat)} {Q : Value → Hp → Prop} {n : Nat} (rm : Rm (n + 1) A) (ha : (a, AO.seq "list" (xs.map T)) ∈ σ) (hb : (b, AO.seq "list" (ys.map T)) ∈ σ) (la : lowT xs) (lb : lowT ys) (q : Q (.bool (xs != ys)) σ) : CMP X A E .NotEq (.ref a) (.ref b) σ Q :=
  CMP_nel rm (fun s R => readsList R ha fun items e => readsT e) (fun s R => readsList R hb fun items e => readsT e) (layT la) (layT lb) (by (first | (refine rwG depT ?_; try (with_reducible rfl)) | rw [depT]); omega) (eqvT xs ys) q
theorem CMP_neI {a b : Addr} {xs ys : List Int} {Q : Value → Hp → Prop} {n : Nat} (rm : Rm (n + 1) A) (ha : (a, AO.seq "list" (xs.map I)) ∈ σ) (hb : (b, AO.seq "list" (ys.map I)) ∈ σ) (q : Q (.bool (xs != ys)) σ) : CMP X A E .NotEq (.ref a) (.ref b) σ Q :=
  CMP_nel rm (fun s R => readsList R ha fun items e => readsI e) (fun s R => readsList R hb fun items e => readsI e) (layI _) (layI _) (by (first | (refine rwG depI ?_; try (with_reducible rfl)) | rw [depI]); omega) (eqvI xs ys) q
noncomputable def LLs (σ : Hp) : List Addr → List (List (List Nat)) → Prop
  | [], [] => True
  | a :: as, x :: xs => (a, AO.seq "list" (x.map T)) ∈ σ ∧ LLs σ as xs
  | _, _ => False
theorem readsLL {s : Shared} (R : Rel X σ s) : ∀ {as : List Addr} {xs : List (List (List Nat))} {vs : List Value}, LLs σ as xs → vs.map er = as.map Value.ref → ∃ bs, ReadsAll s.heap vs (xs.map fun x => .list (x.map dT)) bs
  | [], [], [], _, _ => ⟨_, .nil⟩
  | [], [], _ :: _, _, e => by simp at e
  | [], _ :: _, _, h, _ => h.elim
  | _ :: _, [], _, h, _ => h.elim
  | a :: as, x :: xs, [], _, e => by simp at e
  | a :: as, x :: xs, v :: vs, h, e => by
    simp only [List.map_cons, List.cons.injEq] at e
    obtain rfl := er_ref e.1
    obtain ⟨b1, h1⟩ := readsList R h.1 (ds := x.map dT) fun items e => readsT e
    obtain ⟨b2, h2⟩ := readsLL R h.2 e.2
    exact ⟨_, .cons h1 h2⟩
theorem CMP_neTT {a b : Addr} {as bs : List Addr} {xs ys : List (List (List Nat))} {Q : Value → Hp → Prop} {n : Nat} (rm : Rm (n + 1) A) (ha : (a, AO.seq "list" (as.map Value.ref)) ∈ σ) (hb : (b, AO.seq "list" (bs.map Value.ref)) ∈ σ) (ka : LLs σ as xs) (kb : LLs σ bs ys) (la : ∀ x ∈ xs, lowT x) (lb : ∀ x ∈ ys, lowT x)
    (q : Q (.bool (xs != ys)) σ) : CMP X A E .NotEq (.ref a) (.ref b) σ Q :=
  CMP_nel rm (fun s R => readsList R ha fun items e => readsLL R ka e) (fun s R => readsList R hb fun items e => readsLL R kb e) (layTT la) (layTT lb) (by have := depTT xs; (first | lia | omega)) (eqvTT xs ys) q
end
namespace FF
theorem slot_citer : Slot "callable_iterator" "__iter__" "callable_iterator.__iter__" :=
  .of (owner := "callable_iterator") (n := "__iter__") (by rw [typeLookup_type, builtinLookup_eq_fast]; kernel_rfl) (by decide +kernel) (by decide +kernel) (by decide +kernel)
    (by first | exact .inl (by decide +kernel) | exact .inr (by decide +kernel)) (by rw [isSubtype_type]; kernel_rfl)
theorem entry_citer : entryFor table "callable_iterator.__iter__" = some Builtin.«dict_keyiterator.__iter__» :=
  entryFor_alias (id' := "dict_keyiterator.__iter__") (by rw [fastTable_eq_tree]; kernel_rfl) rfl (by decide +kernel) (by rw [fastTable_eq_tree]; kernel_rfl)
theorem args_citer (a : Value) : argsOk "callable_iterator.__iter__" ⟨[a], []⟩ := by
  unfold argsOk; rw [signature?_of (id := "callable_iterator.__iter__") (n := ['_', '_', 'r', 'e', 't', 'i', '_', '_']) (o := ['r', 'o', 't', 'a', 'r', 'e', 't', 'i', '_', 'e', 'l', 'b', 'a', 'l', 'l', 'a', 'c']) (by kernel_rfl) owner_callable_iterator]; kernel_rfl
end FF
section
variable {X : Cx} {A : Around} {α β γ δ : Type} {σ : Hp} {E : Value → Shared → Prop} {env : Env}
theorem PI_fldE {it : Addr} {xs : List Value} {Q : Value → Hp → Prop} (hm : (it, AO.fldE "callable_iterator" xs) ∈ σ) (q : Q (.ref it) σ) : PI X A E (.ref it) σ Q := fun x' e s R => by
  obtain rfl := er_ref e
  obtain ⟨o, vs, ho, hcl, hd, he⟩ := R.fldE hm
  have hT : s.TypeIs (.ref it) "callable_iterator" := ⟨o, ho, hcl⟩
  refine wpAny_pyIter_slot hT FF.slot_citer (wpAny_call_entry FF.slot_citer hT FF.entry_citer ?_ (FF.args_citer _))
  show wpAny _ _ (ret (.ref it)) _ _ s
  exact wpAny_pure ⟨_, rfl, "callable_iterator", _, hT, FF.slot_next.lookup, σ, R, q⟩
end
section
variable {X : Cx} {A : Around} {α β γ δ : Type} {σ : Hp} {E : Value → Shared → Prop} {env : Env}
inductive SJinv (own : Nat → Hp) (ents : Nat → List (Str × Value)) (J : Nat → List Value → Hp → Prop) (C D : Addr) (n m : Nat) (σ' : Hp) : Prop
  | mk (i : Nat) (ys : List Value) (τ : Hp) (es : List (Str × Value)) (e : m = n + 1 - i) (hi : i ≤ n) (e' : σ' = own i ++ (C, .ns es) :: (τ ++ [(D, .seq "list" ys)])) (hJ : J i ys τ) (hl : ys.length = i) (hes : es = [] ∨ ∃ j, es = ents j)
inductive SJfin (J : Nat → List Value → Hp → Prop) (n : Nat) (D C : Addr) (σ' : Hp) : Prop
  | mk (es : List (Str × Value)) (ys : List Value) (τ : Hp) (hJ : J n ys τ) (hl : ys.length = n) (e : σ' = (C, .ns es) :: (D, .seq "list" ys) :: τ)
theorem Comp_srcJ {target elt : Expr} {it : Addr} {own : Nat → Hp} {P : Hp → Prop} {n : Nat} {B : Env → Nat → Hp → (Hp → Prop) → Prop} {scope : Scope} {cl : List (Str × Addr)} {ents : Nat → List (Str × Value)} {J : Nat → List Value → Hp → Prop} (S : Src X A target it own P n B)
    (hz : n ≤ sizeLine) (hP : ∀ i ys τ, J i ys τ → ∀ q R, P (q :: (τ ++ R)))
    (hB : ∀ C i es τ o K, (es = [] ∨ ∃ j, es = ents j) → K (o ++ (C, .ns (ents i)) :: τ) → i < n → B (compEnvC scope cl C env) i (o ++ (C, .ns es) :: τ) K)
    (he : ∀ C R i (hi : i < n) ys τ, J i ys τ → ys.length = i → EV X A (compEnvC scope cl C env) F0 elt ((C, .ns (ents i)) :: (τ ++ R)) (fun y => Lft (fun τ' => (C, .ns (ents i)) :: (τ' ++ R)) (J (i + 1) (ys ++ [y])))) (h0 : J 0 [] σ) :
    CRun X A env scope cl target elt it (own 0 ++ σ) (SJfin J n) := fun D C => by
  refine ⟨SJinv own ents J C D n,
    SJfin J n D C, n + 1, own 0 ++ (C, .ns []) :: (σ ++ [(D, .seq "list" [])]), Im.perm ?_,
    ⟨0, [], σ, [], rfl, Nat.zero_le _, rfl, h0, rfl, .inl rfl⟩, ?_, fun τ h => h⟩
  · have h1 : ((C, AO.ns []) :: (D, AO.seq "list" []) :: (own 0 ++ σ)).Perm ((own 0 ++ σ) ++ [(C, AO.ns []), (D, AO.seq "list" [])]) := List.perm_append_comm (l₁ := [(C, AO.ns []), (D, AO.seq "list" [])])
    refine h1.trans ?_
    rw [List.append_assoc]
    refine List.Perm.append_left _ ?_
    exact List.perm_append_comm.trans (.cons _ (List.perm_append_comm (l₁ := [(D, AO.seq "list" [])])))
  · rintro m _ ⟨i, ys, τ, es, rfl, hi, rfl, hJ, hl, hes⟩
    unfold CTurn
    by_cases hlt : i < n
    · refine (S.step (compEnvC scope cl C env) i _ _ hlt (hP i ys τ hJ _ _) (hB C i es _ _ (fun σ₃ => EV X A (compEnvC scope cl C env) F0 elt σ₃ fun x σ₄ => CW X A F0 (.builtin "list.append") [.ref D, x] σ₄ fun _ σ₅ => LessI X (SJinv own ents J C D n) (n + 1 - i) σ₅) hes ?_ hlt)).mono fun r σ₁ ⟨v, er, h₁⟩ => ?_
      · refine W_im (Im.perm (perm_mid ..)) ((he C _ i hlt ys τ hJ hl).mono fun y σ₂ ⟨τ', hp, hJ'⟩ => ?_)
        refine CW_im hp.im (CW_append (l := D) (xs := ys) (v := y) (.there (Chg_app .here τ')) (by (first | lia | omega)) ?_)
        refine ⟨n + 1 - (i + 1), _, Im.perm (perm_mid (own (i + 1)) _ _ _).symm, dec1 hlt, i + 1, ys ++ [y], τ', ents i, rfl, hlt, rfl, hJ', by simp [hl], .inr ⟨i, rfl⟩⟩
      · subst er; exact h₁
    · have e : i = n := by (first | lia | omega)
      subst e
      refine (S.done _ (hP i ys τ hJ _ _)).mono fun r σ₁ ⟨er, him⟩ => ?_
      subst er
      exact ⟨(C, .ns es) :: (D, .seq "list" ys) :: τ, fun s R => (him s R).perm (.cons _ List.perm_append_comm), es, ys, τ, hJ, hl, rfl⟩
inductive CompSrcK (X : Cx) (A : Around) (env : Env) (scope : Scope) (cl : List (Str × Addr)) (target elt : Expr) (Z : Addr → List Value → Hp → Prop) (i : Value) (σ₂ : Hp) : Prop
  | mk (it : Addr) (own : Nat → Hp) (P : Hp → Prop) (n : Nat) (B : Env → Nat → Hp → (Hp → Prop) → Prop) (ents : Nat → List (Str × Value)) (J : Nat → List Value → Hp → Prop) (σ₃ : Hp) (ei : i = .ref it) (e2 : σ₂ = own 0 ++ σ₃) (S : Src X A target it own P n B) (hz : n ≤ sizeLine) (hP : ∀ i ys τ, J i ys τ → ∀ q R, P (q :: (τ ++ R)))
    (hself : ∀ s, Rel X σ₂ s → ∀ (K : Value → Shared → Prop) E', K (.ref it) s → ∀ D C, Rel X ((C, .ns []) :: (D, .seq "list" []) :: σ₂) s → wpAny (model X.prog X.w) A (pyIter (.ref it)) K E' s)
    (hB : ∀ C i es τ o K, (es = [] ∨ ∃ j, es = ents j) → K (o ++ (C, .ns (ents i)) :: τ) → i < n → B (compEnvC scope cl C env) i (o ++ (C, .ns es) :: τ) K)
    (he : ∀ C R i (hi : i < n) ys τ, J i ys τ → ys.length = i → EV X A (compEnvC scope cl C env) F0 elt ((C, .ns (ents i)) :: (τ ++ R)) (fun y => Lft (fun τ' => (C, .ns (ents i)) :: (τ' ++ R)) (J (i + 1) (ys ++ [y])))) (h0 : J 0 [] σ₃)
    (hq : ∀ D ys τ, J n ys τ → ys.length = n → Z D ys τ)
noncomputable def CompSrcJ (X : Cx) (A : Around) (E : Value → Shared → Prop) (env : Env) (scope : Scope) (cl : List (Str × Addr)) (target elt : Expr) (x : Value) (σ : Hp) (Z : Addr → List Value → Hp → Prop) : Prop :=
  PI X A E x σ (CompSrcK X A env scope cl target elt Z)
noncomputable abbrev kCompE (X : Cx) (A : Around) (E : Value → Shared → Prop) (env : Env) (scope : Scope) (cl : List (Str × Addr)) (target elt : Expr) (Q : Value → Hp → Prop) : Value → Hp → Prop := fun x σ => CompSrcJ X A E env scope cl target elt x σ (fun D ys τ => Q (.ref D) ((D, .seq "list" ys) :: τ))
noncomputable abbrev kCompA (X : Cx) (A : Around) (E : Value → Shared → Prop) (env : Env) (scope : Scope) (cl : List (Str × Addr)) (target elt : Expr) (y : Str) (Q : Flow → Hp → Prop) : Value → Hp → Prop := fun x σ => CompSrcJ X A E env scope cl target elt x σ (fun D ys τ => ∀ R, ST X A env E y (.ref D) ((D, .seq "list" ys) :: (τ ++ R)) (Lft (fun σ' => σ' ++ R) (Q .next)))
theorem EV_CompJ {target elt iter : Expr} {scope : Scope} {pos : Pos} (cl : List (Str × Addr)) {Q : Value → Hp → Prop} (c : CompSc env scope cl) (hs : ∀ x, foldedSetIterable iter env x = pure x)
    (h : EV X A env E iter σ (kCompE X A E env scope cl target elt Q)) : EV X A env E (.ListComp elt [⟨target, iter, [], 0⟩] scope pos) σ Q := fun s R => by
  rw [eval_ListComp]
  refine comp_W (use := none) c hs R (h.mono fun x σ₁ h₁ => ?_)
  unfold CompSrcJ at h₁
  intro x' e
  refine (h₁ x' e).mono fun i σ₂ hh => ?_
  obtain ⟨it, own, P, n, B, ents, J, σ₃, ei, e2, S, hz, hP, hself, hB, he, h0, hq⟩ := hh
  subst e2
  refine ⟨it, ei, hself, ?_⟩
  intro D C
  obtain ⟨J', fin, n, σ', h1, h2, h3, h4⟩ := Comp_srcJ S hz hP hB he h0 D C
  refine ⟨J', fin, n, σ', h1, h2, h3, fun τ hf s R => ?_⟩
  obtain ⟨es, ys, τ', hJ, hl, rfl⟩ := h4 τ hf
  obtain ⟨m, hn, hk⟩ := R.nsOut
  exact ⟨m, hn, fun h' hs' => ⟨_, hk h' hs', hq D ys τ' hJ hl⟩⟩
theorem EX_AssignCompJ {y : Str} {py spos : Pos} {target elt iter : Expr} {scope : Scope} {pos : Pos} (cl : List (Str × Addr)) {Q : Flow → Hp → Prop} (hsw : swapsWith (.ListComp elt [⟨target, iter, [], 0⟩] scope pos) (some (.Name y py)) spos.line env = pure true)
    (c : CompSc env scope cl) (hs : ∀ x, foldedSetIterable iter env x = pure x)
    (h : EV X A env E iter σ (kCompA X A E env scope cl target elt y Q)) :
    EX X A env E (.Assign [.Name y py] (.ListComp elt [⟨target, iter, [], 0⟩] scope pos) spos) σ Q := by
  refine comp_swap hsw c hs (h.mono fun x σ₁ h₁ => ?_)
  unfold CompSrcJ at h₁
  intro x' e
  refine (h₁ x' e).mono fun i σ₂ hh => ?_
  obtain ⟨it, own, P, n, B, ents, J, σ₃, ei, e2, S, hz, hP, hself, hB, he, h0, hq⟩ := hh
  subst e2
  refine ⟨it, ei, hself, ?_⟩
  intro D C
  obtain ⟨J', fin, n, σ', h1, h2, h3, h4⟩ := Comp_srcJ S hz hP hB he h0 D C
  refine ⟨J', fin, n, σ', h1, h2, h3, fun τ hf s R => ?_⟩
  obtain ⟨es, ys, τ', hJ, hl, rfl⟩ := h4 τ hf
  exact swap_post (hq D ys τ' hJ hl) R
theorem Src_range {x : Str} {px : Pos} {it : Addr} {a c : Int} {n : Nat} (hh : A.handled = none) : Src X A (.Name x px) it (fun i => [(it, RI (a + (i : Nat) * c) ((n : Int) - (i : Nat)) c)]) (fun _ => True) n (fun env i σ K => ST X A env F0 x (I (a + (i : Nat) * c)) σ K) := by
  constructor
  · intro env' i τ K hi _ h
    refine NX_rng hh (fun _ => ?_) (fun hl => by (first | lia | omega))
    have e1 : a + (i : Int) * c + c = a + ((i + 1 : Nat) : Int) * c := by rw [Int.natCast_add, Int.add_mul]; simp; (first | lia | omega)
    have e2 : (n : Int) - i - 1 = (n : Int) - ((i + 1 : Nat) : Int) := by (first | lia | omega)
    ((first | (refine rwG e1 ?_; try (with_reducible rfl)) | rw [e1]); (first | (refine rwG e2 ?_; try (with_reducible rfl)) | rw [e2]))
    exact ⟨_, rfl, LG_Name (AS_Name h)⟩
  · intro τ _
    exact NX_rng hh (fun hl => by (first | lia | omega)) (fun _ => ⟨rfl, fun _ R => R⟩)
theorem getD_at {xs : List Value} {i : Nat} (hi : i < xs.length) : (xs[i]?).getD .none = xs[i] := by simp [hi]
theorem srcJ_list {x : Str} {px : Pos} {elt : Expr} {scope : Scope} {cl : List (Str × Addr)} {Z : Addr → List Value → Hp → Prop} {l : Addr} {xs : List Value} (hh : A.handled = none) (hk : scope.kind = .function) (hx : scope.names.lookup x = some .local) (J : Nat → List Value → Hp → Prop)
    (hm : ∀ i ys τ, J i ys τ → (l, AO.seq "list" xs) ∈ τ) (hz : xs.length ≤ sizeLine) (h0 : J 0 [] σ)
    (he : ∀ C R i (hi : i < xs.length) ys τ, J i ys τ → ys.length = i → EV X A (compEnvC scope cl C env) F0 elt ((C, .ns [(x, xs[i])]) :: (τ ++ R)) (fun y => Lft (fun τ' => (C, .ns [(x, xs[i])]) :: (τ' ++ R)) (J (i + 1) (ys ++ [y]))))
    (hq : ∀ D ys τ, J xs.length ys τ → ys.length = xs.length → Z D ys τ) : CompSrcJ X A E env scope cl (.Name x px) elt (.ref l) σ Z := by
  unfold CompSrcJ
  refine PI_list (hm 0 [] _ h0) fun it => ⟨it, _, _, _, _, fun i => [(x, (xs[i]?).getD .none)], J, σ, rfl, rfl, Src_list (l := l) (xs := xs) hh, hz, fun i ys τ hJ q R => .tail _ (List.mem_append_left _ (hm i ys τ hJ)), fun s R K E' k D C R' => PI_self R' me2 k, ?_, ?_, h0, hq⟩
  · intro C i es τ o K hes hK hi hi'
    refine ST_local (es := es) (es' := [(x, xs[i])]) hk (lookup_relabel_local hx) (Chg_app .here o) (put_one ?_) (by rw [getD_at hi'] at hK; exact hK)
    rcases hes with h | ⟨j, h⟩
    · exact .inl h
    · exact .inr ⟨_, h⟩
  · intro C R i hi ys τ hJ hl
    rw [getD_at hi]
    exact he C R i hi ys τ hJ hl
theorem srcJ_range {x : Str} {px : Pos} {elt : Expr} {scope : Scope} {cl : List (Str × Addr)} {Z : Addr → List Value → Hp → Prop} {r : Addr} {a b c : Int} {n : Nat} (hh : A.handled = none) (hk : scope.kind = .function) (hx : scope.names.lookup x = some .local) (J : Nat → List Value → Hp → Prop)
    (hm : (r, AO.rng a b c) ∈ σ) (hsm : Builtin.Range.small a b c = true) (hn : Builtin.Range.rangeSize a b c = (n : Nat)) (hz : n ≤ sizeLine) (h0 : J 0 [] σ)
    (he : ∀ C R i (hi : i < n) ys τ, J i ys τ → ys.length = i → EV X A (compEnvC scope cl C env) F0 elt ((C, .ns [(x, I (a + (i : Nat) * c))]) :: (τ ++ R)) (fun y => Lft (fun τ' => (C, .ns [(x, I (a + (i : Nat) * c))]) :: (τ' ++ R)) (J (i + 1) (ys ++ [y]))))
    (hq : ∀ D ys τ, J n ys τ → ys.length = n → Z D ys τ) : CompSrcJ X A E env scope cl (.Name x px) elt (.ref r) σ Z := by
  unfold CompSrcJ
  refine PI_rng hm hsm fun it => ?_
  have e0 : (it, RI a (Builtin.Range.rangeSize a b c) c) :: σ = (fun i : Nat => [(it, RI (a + (i : Nat) * c) ((n : Int) - (i : Nat)) c)]) 0 ++ σ := by
    dsimp only; (first | (refine rwG hn ?_; try (with_reducible rfl)) | rw [hn]); simp
  refine ⟨it, _, _, n, _, fun i => [(x, I (a + (i : Nat) * c))], J, σ, rfl, e0, Src_range hh, hz, fun i ys τ hJ q R => trivial, fun s R K E' k D C R' => PI_self_obj R' me2 k, ?_, he, h0, hq⟩
  intro C i es τ o K hes hK hi
  refine ST_local (es := es) (es' := [(x, I (a + (i : Nat) * c))]) hk (lookup_relabel_local hx) (Chg_app .here o) (put_one ?_) hK
  rcases hes with h | ⟨j, h⟩
  · exact .inl h
  · exact .inr ⟨_, h⟩
theorem srcJ_str {x : Str} {px : Pos} {elt : Expr} {scope : Scope} {cl : List (Str × Addr)} {Z : Addr → List Value → Hp → Prop} {t : List Nat} (hh : A.handled = none) (hk : scope.kind = .function) (hx : scope.names.lookup x = some .local) (J : Nat → List Value → Hp → Prop)
    (ha : ∀ c ∈ t, c < 128) (hz : t.length ≤ sizeLine) (h0 : J 0 [] σ)
    (he : ∀ C R i (hi : i < t.length) ys τ, J i ys τ → ys.length = i → EV X A (compEnvC scope cl C env) F0 elt ((C, .ns [(x, T [t[i]])]) :: (τ ++ R)) (fun y => Lft (fun τ' => (C, .ns [(x, T [t[i]])]) :: (τ' ++ R)) (J (i + 1) (ys ++ [y]))))
    (hq : ∀ D ys τ, J t.length ys τ → ys.length = t.length → Z D ys τ) : CompSrcJ X A E env scope cl (.Name x px) elt (T t) σ Z := by
  unfold CompSrcJ
  have ge : ∀ i (hi : i < t.length), T [t.getD i 0] = T [t[i]] := fun i hi => by simp [hi]
  refine PI_sit ha fun it => ⟨it, _, _, t.length, _, fun i => [(x, T [t.getD i 0])], J, σ, rfl, rfl, Src_str hh, hz, fun i ys τ hJ q R => trivial, fun s R K E' k D C R' => PI_self_sit R' me2 k, ?_, ?_, h0, hq⟩
  · intro C i es τ o K hes hK hi hi'
    refine ST_local (es := es) (es' := [(x, T [t[i]])]) hk (lookup_relabel_local hx) (Chg_app .here o) (put_one ?_) (by rw [ge i hi'] at hK; exact hK)
    rcases hes with h | ⟨j, h⟩
    · exact .inl h
    · exact .inr ⟨_, h⟩
  · intro C R i hi ys τ hJ hl
    rw [ge i hi]
    exact he C R i hi ys τ hJ hl
end
section
variable {X : Cx} {A : Around} {α β γ δ : Type} {σ : Hp} {E : Value → Shared → Prop} {env : Env}
inductive ForEnumK (X : Cx) (A : Around) (env : Env) (elts : List Expr) (body : List Stmt) (J : Addr → List Value → Nat → Hp → Prop) (Q : Flow → Hp → Prop) (x : Value) (σ : Hp) : Prop
  | mk (e it l : Addr) (xs : List Value) (τ : Hp) (ex : x = .ref e) (e1 : σ = (e, .enum it 0 none) :: (it, LI l 0) :: τ) (hl : ∀ i τ, J l xs i τ → (l, AO.seq "list" xs) ∈ τ) (h0 : J l xs 0 τ) (fin : ∀ τ, J l xs xs.length τ → Q .next τ)
    (turn : ∀ i (hi : i < xs.length) τ, J l xs i τ → AE X A env F0 elts [I i, xs[i]] ((e, .enum it ((i + 1 : Nat) : Int) none) :: (it, LI l (i + 1)) :: τ) (fun σ₃ => XS X A env F0 body σ₃ (LoopF (fun τ' => (e, .enum it ((i + 1 : Nat) : Int) none) :: (it, LI l (i + 1)) :: τ') (J l xs (i + 1)) Q)))
theorem EX_ForEnum {elts : List Expr} {k tpos iter body pos} {Q : Flow → Hp → Prop} (hh : A.handled = none) (hl2 : elts.length = 2) (hst : elts.all noStar = true) (hs : ∀ x, foldedSetIterable iter env x = pure x) (J : Addr → List Value → Nat → Hp → Prop)
    (h : EV X A env E iter σ (ForEnumK X A env elts body J Q)) : EX X A env E (.For (.Tuple elts k tpos) iter body [] pos) σ Q := by
  refine EX_For hs (h.mono fun x σ₁ ⟨e, it, l, xs, τ, ex, e1, hl, h0, fin, turn⟩ => ?_)
  subst ex; subst e1
  exact PI_enum (.head _) ⟨e, rfl, _, xs.length + 1, ⟨0, τ, rfl, Nat.zero_le _, rfl, h0⟩, For_src (Src_enum (l := l) (xs := xs) hh hl2 hst) (J l xs) (hl) fin fun i hi τ hJ _ => turn i hi τ hJ⟩
theorem put_two {x y : Str} (hxy : (x == y) = false) {es : List (Str × Value)} (h : es = [] ∨ ∃ a b, es = [(x, a), (y, b)]) (v w : Value) : ∃ es₁, Put x v es es₁ ∧ Put y w es₁ [(x, v), (y, w)] := by
  rcases h with rfl | ⟨a, b, rfl⟩
  · exact ⟨_, .nil, .there hxy .nil⟩
  · exact ⟨_, .here, .there hxy .here⟩
theorem srcJ_enum {x y : Str} {px py : Pos} {k tpos} {elt : Expr} {scope : Scope} {cl : List (Str × Addr)} {Z : Addr → List Value → Hp → Prop} {e it l : Addr} {xs : List Value} (hh : A.handled = none) (hk : scope.kind = .function) (hx : scope.names.lookup x = some .local) (hy : scope.names.lookup y = some .local) (hxy : (x == y) = false) (J : Nat → List Value → Hp → Prop)
    (hm : ∀ i ys τ, J i ys τ → (l, AO.seq "list" xs) ∈ τ) (hz : xs.length ≤ sizeLine) {τ₀ : Hp} (hσ : σ = (e, .enum it 0 none) :: (it, LI l 0) :: τ₀) (h0 : J 0 [] τ₀)
    (he : ∀ C R i (hi : i < xs.length) ys τ, J i ys τ → ys.length = i → EV X A (compEnvC scope cl C env) F0 elt ((C, .ns [(x, I i), (y, xs[i])]) :: (τ ++ R)) (fun y' => Lft (fun τ' => (C, .ns [(x, I i), (y, xs[i])]) :: (τ' ++ R)) (J (i + 1) (ys ++ [y']))))
    (hq : ∀ D ys τ, J xs.length ys τ → ys.length = xs.length → Z D ys τ) : CompSrcJ X A E env scope cl (.Tuple [.Name x px, .Name y py] k tpos) elt (.ref e) σ Z := by
  subst hσ
  unfold CompSrcJ
  refine PI_enum (.head _) ⟨e, _, _, _, _, fun i => [(x, I i), (y, (xs[i]?).getD .none)], J, τ₀, rfl, rfl, Src_enum (l := l) (xs := xs) hh rfl rfl, hz, fun i ys τ hJ q R => .tail _ (List.mem_append_left _ (hm i ys τ hJ)), fun s R K E' k D C R' => PI_self_enum R' me2 k, ?_, ?_, h0, hq⟩
  · intro C i es τ o K hes hK hi hi'
    obtain ⟨es₁, p1, p2⟩ := put_two hxy (es := es) (by rcases hes with h | ⟨j, h⟩; exact .inl h; exact .inr ⟨_, _, h⟩) (I i) xs[i]
    rw [getD_at hi'] at hK
    exact AS_Name (ST_local hk (lookup_relabel_local hx) (Chg_app .here o) p1 (AS_Name (ST_local hk (lookup_relabel_local hy) (Chg_app .here o) p2 hK)))
  · intro C R i hi ys τ hJ hl
    rw [getD_at hi]
    exact he C R i hi ys τ hJ hl
theorem Src_tup2 {elts : List Expr} {k tpos} {l it : Addr} {xs : List Value} {a b : Nat → Value} (hh : A.handled = none) (hl2 : elts.length = 2) (hst : elts.all noStar = true) :
    Src X A (.Tuple elts k tpos) it (fun i => [(it, LI l i)]) (fun τ => (l, AO.seq "list" xs) ∈ τ ∧ ∀ i (hi : i < xs.length), ∃ t, xs[i] = .ref t ∧ (t, AO.seq "tuple" [a i, b i]) ∈ τ) xs.length (fun env i σ K => AE X A env F0 elts [a i, b i] σ K) :=
  ⟨fun env' i τ K hi hl h => NX_list hh hl.1 (fun v hv => by
      obtain ⟨hlt, rfl⟩ := List.getElem?_eq_some_iff.mp hv
      obtain ⟨t, e, hm⟩ := hl.2 i hi
      (first | (refine rwG e ?_; try (with_reducible rfl)) | rw [e])
      exact ⟨_, rfl, LG_tupL (.head _) (AS_Tuple hh (.tail _ hm) hl2 hst h)⟩) (fun hv => by simp at hv; omega),
    fun τ hl => NX_list hh hl.1 (fun v hv => by simp at hv) (fun _ => ⟨rfl, fun _ R => R⟩)⟩
theorem srcJ_tup2 {x y : Str} {px py : Pos} {k tpos} {elt : Expr} {scope : Scope} {cl : List (Str × Addr)} {Z : Addr → List Value → Hp → Prop} {l : Addr} {xs : List Value} {a b : Nat → Value} (hh : A.handled = none) (hk : scope.kind = .function) (hx : scope.names.lookup x = some .local) (hy : scope.names.lookup y = some .local) (hxy : (x == y) = false) (J : Nat → List Value → Hp → Prop)
    (hm : ∀ i ys τ, J i ys τ → (l, AO.seq "list" xs) ∈ τ ∧ ∀ i (hi : i < xs.length), ∃ t, xs[i] = .ref t ∧ (t, AO.seq "tuple" [a i, b i]) ∈ τ) (hz : xs.length ≤ sizeLine) (h0 : J 0 [] σ)
    (he : ∀ C R i (hi : i < xs.length) ys τ, J i ys τ → ys.length = i → EV X A (compEnvC scope cl C env) F0 elt ((C, .ns [(x, a i), (y, b i)]) :: (τ ++ R)) (fun y' => Lft (fun τ' => (C, .ns [(x, a i), (y, b i)]) :: (τ' ++ R)) (J (i + 1) (ys ++ [y']))))
    (hq : ∀ D ys τ, J xs.length ys τ → ys.length = xs.length → Z D ys τ) : CompSrcJ X A E env scope cl (.Tuple [.Name x px, .Name y py] k tpos) elt (.ref l) σ Z := by
  unfold CompSrcJ
  refine PI_list (hm 0 [] _ h0).1 fun it => ⟨it, _, _, _, _, fun i => [(x, a i), (y, b i)], J, σ, rfl, rfl, Src_tup2 (l := l) (xs := xs) hh rfl rfl, hz, fun i ys τ hJ q R => ⟨.tail _ (List.mem_append_left _ (hm i ys τ hJ).1), fun j hj => by
    obtain ⟨t, e, h⟩ := (hm i ys τ hJ).2 j hj; exact ⟨t, e, .tail _ (List.mem_append_left _ h)⟩⟩, fun s R K E' k D C R' => PI_self R' me2 k, ?_, he, h0, hq⟩
  intro C i es τ o K hes hK hi
  obtain ⟨es₁, p1, p2⟩ := put_two hxy (es := es) (by rcases hes with h | ⟨j, h⟩; exact .inl h; exact .inr ⟨_, _, h⟩) (a i) (b i)
  exact AS_Name (ST_local hk (lookup_relabel_local hx) (Chg_app .here o) p1 (AS_Name (ST_local hk (lookup_relabel_local hy) (Chg_app .here o) p2 hK)))
end
section
variable {X : Cx} {A : Around} {α β γ δ : Type} {σ : Hp} {E : Value → Shared → Prop} {env : Env}
theorem first_note {e L : Addr} {outer : List Env} {s : Shared} {E' : Value → Shared → Prop} {P : Shared → Prop} (hfr : A.frames = some (env :: outer)) (hf : env.frame = some L) (hF : FrIn (env :: outer) σ) (R : Rel X ((e, .exc .none) :: σ) s)
    (k : ∀ s' base a0, Heap.HeldW base (env :: outer) e (.type "StopIteration") a0 L s'.heap → (∀ h'' tk, base.StaysIn h'' → s'.heap.UpToSlots h'' → Rel X σ { s' with heap := h'', toks := tk }) → P s') :
    wpAny (model X.prog X.w) A (noteFrame (.ref e) env) (fun _ s' => P s') E' s := by
  obtain ⟨p, r⟩ := id R
  have nd := r.nodup
  rw [List.map_cons, List.nodup_cons] at nd
  obtain ⟨hpe, oe, hoe, hcl, vs, a0, hd, h0, h1⟩ := r.has (e, .exc .none) (.head _)
  have Rσ : Rel X σ s := R.sublist (.cons _ (.refl _))
  let fr := (env :: outer).filterMap (·.frame)
  let base := hid s.heap (e :: fr)
  have frn : ∀ L ∈ fr, base.get? L = none := fun L hL => hid_in (.tail _ hL)
  unfold noteFrame
  simp only [hf]
  refine wpAny_bind (wpAny_field hoe hd h1 ?_)
  (first | refine ifN (by decide) ?_ | rw [if_neg (by decide)])
  refine wpAny_entryW (base := base) hfr (funFrames_of Rσ hF frn) hf hoe (fun b o x => of_hid x) (hid_in (.head _)) hd (Array.getElem?_eq_some_iff.mp h1).1 h0 fun h' ⟨k1, k2, k3, k4⟩ => ?_
  rw [hcl] at k3
  refine k _ base a0 ⟨k1, hid_in (.head _), k2, k3⟩ fun h'' tk g1 g2 => ?_
  have up : s.heap.UpToSlots h'' := Heap.UpToSlots.trans k4 g2
  have keep : ∀ b o, s.heap.get? b = some o → b ≠ e → b ∉ fr → h''.get? b = some o := fun b o x n1 n2 => g1 b o (by
    show (hid s.heap (e :: fr)).get? b = _
    rw [hid_out (by simp only [List.mem_cons, not_or]; exact ⟨n1, n2⟩)]; exact x)
  have pfr : ∀ b o, p b = some o → b ≠ e ∧ b ∉ fr := fun b o x => ⟨(fun z => by rw [z, hpe] at x; cases x), (fun z => by
    obtain ⟨es', hm'⟩ := frIn_mem hF z
    rw [(r.has _ (.tail _ hm')).1] at x; cases x)⟩
  refine ⟨p, r.base, fun b o x => keep b o (r.keep b o x) (pfr b o x).1 (pfr b o x).2, fun a ha => ?_, nd.2, fun t ht => ?_, r.gens, r.os⟩
  · obtain ⟨g3, o, g4, g5⟩ := r.has a (.tail _ ha)
    by_cases hb : a.1 ∈ fr
    · obtain ⟨es', hm'⟩ := frIn_mem hF hb
      have e1 : a = (a.1, AO.ns es') := by
        have inj : ∀ {τ : Hp}, (τ.map (·.1)).Nodup → ∀ {x y : Addr × AO}, x ∈ τ → y ∈ τ → x.1 = y.1 → x = y := by
          intro τ hn
          induction τ with
          | nil => intro x y hx; cases hx
          | cons z r ih =>
            rw [List.map_cons, List.nodup_cons] at hn
            intro x y hx hy exy
            rcases List.mem_cons.mp hx with e1 | hx'
            · rcases List.mem_cons.mp hy with e2 | hy'
              · ((first | (refine rwG e1 ?_; try (with_reducible rfl)) | rw [e1]); (first | (refine rwG e2 ?_; try (with_reducible rfl)) | rw [e2]))
              · exact absurd (List.mem_map_of_mem (f := (·.1)) hy') (by ((first | (refine rwG exy.symm ?_; try (with_reducible rfl)) | rw [← exy]); (first | (refine rwG e1 ?_; try (with_reducible rfl)) | rw [e1])); exact hn.1)
            · rcases List.mem_cons.mp hy with e2 | hy'
              · exact absurd (List.mem_map_of_mem (f := (·.1)) hx') (by ((first | (refine rwG exy ?_; try (with_reducible rfl)) | rw [exy]); (first | (refine rwG e2 ?_; try (with_reducible rfl)) | rw [e2])); exact hn.1)
              · exact ih hn.2 hx' hy' exy
        exact inj nd.2 ha hm' rfl
      rw [e1] at g5 ⊢
      obtain ⟨g6, ents, ep, g7, g8, g8', g8''⟩ := g5
      obtain ⟨sl, g9⟩ := up _ o g4 (fun vs z => by rw [g7] at z; cases z)
      exact ⟨g3, _, g9, g6, ents, ep, g7, g8, g8', g8''⟩
    · exact ⟨g3, o, keep _ _ g4 (fun z => nd.1 (show e ∈ σ.map (·.1) from z ▸ List.mem_map_of_mem (f := (·.1)) ha)) hb, g5⟩
  · obtain ⟨g1', g2', ps, g3, g4⟩ := r.tabs t ht
    rw [List.map_cons, List.mem_cons, not_or] at g2'
    refine ⟨g1', g2'.2, ps, keep _ _ g3 g2'.1 (fun z => ?_), g4⟩
    obtain ⟨es', hm'⟩ := frIn_mem hF z
    exact g2'.2 (List.mem_map_of_mem (f := (·.1)) hm')
theorem loop_out {e L : Addr} {outer : List Env} {Qσ : Hp → Prop} {s : Shared} (hfr : A.frames = some outer) (hf : env.frame = some L) (hF : FrIn (env :: outer) σ) (R : Rel X ((e, .exc .none) :: σ) s) (q : Qσ σ) :
    notedBy (model X.prog X.w) (A.deeper env) env (fun e s' => cameBackBy (model X.prog X.w) (A.deeper env) env (LV X A env (XF X outer Qσ)) e s') (.ref e) s := by
  have hfr' : (A.deeper env).frames = some (env :: outer) := Around.frames_deeper hfr
  unfold notedBy
  refine first_note hfr' hf hF R fun s₁ base a0 H hl => ?_
  unfold cameBackBy
  (first | (refine rwG hf ?_; try (with_reducible rfl)) | rw [hf])
  refine setFlight_held H fun h' H' u' => ?_
  unfold LV
  unfold leaving
  refine wpAny_bind (wpAny_noteFrame_againW hf H'.2.2.2 ?_)
  refine wpAny_landsW H' fun h₂ F u₂ => ?_
  obtain ⟨k1, k2, ⟨_, _, k3⟩, k4⟩ := F
  exact ⟨e, base, a0, σ, rfl, q, ⟨k1, k2, k3, k4⟩, fun h'' tk g1 g2 => hl h'' tk g1 (u'.trans (u₂.trans g2))⟩
theorem EX_WhileE {test body pos} {Q : Flow → Hp → Prop} {Ein : Value → Shared → Prop} (J : Nat → Hp → Prop) (n : Nat) (h0 : J n σ) (hE : ∀ ev s, Ein ev s → notedBy (model X.prog X.w) A env (fun e s' => cameBackBy (model X.prog X.w) A env E e s') ev s) (turn : ∀ n σ, J n σ → TE X A env F0 test σ (fun b σ₁ => if b then XS X A env Ein body σ₁ (WhileF J n Q) else OutQ Q .next σ₁)) : EX X A env E (.While test body [] pos) σ Q := fun s R => by
  refine wpAny_While (codeAny_whileLoop (R := fun r s' => match r with | .ok f => Ends X Q (erF f) s' | .error e => cameBackBy (model X.prog X.w) A env E e s') (fun n s => Ends X J n s) (fun n s ⟨σ, R, hJ⟩ => ?_) n ⟨σ, R, h0⟩)
  refine wpAny_mono (turn n σ hJ s R) (fun b s₁ ⟨σ₁, R₁, h₁⟩ => ?_) fun _ _ x => x.elim
  cases b with
  | false =>
    have h₁ : OutQ Q .next σ₁ := by simpa using h₁
    obtain ⟨σ', hp, q⟩ := h₁
    exact wpAny_execs_nil ⟨σ', R₁.pick hp, q⟩
  | true =>
    have h₁ : XS X A env Ein body σ₁ (WhileF J n Q) := by simpa using h₁
    refine wpAny_mono (h₁ s₁ R₁) (fun f s₂ ⟨σ₂, R₂, h₂⟩ => ?_) fun ev s' x => hE ev s' x
    cases f with
    | next => obtain ⟨m, σ', hp, hm, hj⟩ := h₂; exact ⟨m, hm, σ', R₂.pick hp, hj⟩
    | cont => obtain ⟨m, σ', hp, hm, hj⟩ := h₂; exact ⟨m, hm, σ', R₂.pick hp, hj⟩
    | brk => obtain ⟨σ', hp, q⟩ := h₂; exact ⟨σ', R₂.pick hp, q⟩
    | ret v => obtain ⟨σ', hp, q⟩ := h₂; exact ⟨σ', R₂.pick hp, q⟩
end
theorem CmpOf_strs_lt {prog : Program} {w : World} {A : Around} {P : Nat → Value → Prop} (val : Nat → Str) (hval : ∀ i v, P i v → ∃ t, v = .str (val i) t) :
    CmpOf prog w A .Lt P (fun i j => decide ((val i).cps.toList < (val j).cps.toList)) := fun i j vi vj s Q E hi hj h => by
  obtain ⟨t, rfl⟩ := hval i vi hi
  obtain ⟨u, rfl⟩ := hval j vj hj
  exact richCompare_gives (op := .Lt) (typeIs_str s _ t) (typeIs_str s _ u) PySem.F.slot_str_lt PySem.F.entry_str_lt (PySem.F.args_str_lt_2 _ _) (gives_str_lt _ _ t u) (fun x => nomatch x) h
theorem min_two_strs {prog : Program} {w : World} {A : Around} {E : Value → Shared → Prop} {s : Shared} {a b : Str} {t u : Tok} {Q : Value → Shared → Prop} (hh : A.handled = none)
    (h : ∀ h' tk, (∀ c o, s.heap.get? c = some o → h'.get? c = some o) → Q (if b.cps.toList < a.cps.toList then .str b u else .str a t) { s with heap := h', toks := tk }) :
    wpAny (model prog w) A (call (.builtin "min") [.str a t, .str b u]) Q E s := by
  have hT : (s.heap.push { cls := .type "tuple", data := .seq #[.str a t, .str b u] }).IsTuple s.heap.objs.size #[.str a t, .str b u] := ⟨_, Heap.get?_push_size _ rfl, rfl, 0, by simp⟩
  refine call_min_two (wpAny_pyIter_tuple hT ?_)
  have hsz : (s.heap.push { cls := .type "tuple", data := .seq #[.str a t, .str b u] }).objs.size = s.heap.objs.size + 1 := Heap.size_push ..
  refine ⟨_, [_, s.heap.objs.size], [_], _, _, _, _, rfl, Walks.tuple (A := A.in1) hh _ s.heap.objs.size (by (first | (refine rwG hsz ?_; try (with_reducible rfl)) | rw [hsz]); exact Nat.ne_of_lt (Nat.lt_succ_self _)) #[.str a t, .str b u],
    ⟨⟨_, Heap.get?_push_size _ rfl, rfl, rfl⟩, hT.push _⟩, fun c hc => ?_, by simp, CmpOf_strs_lt (fun i => if i = 0 then a else b) (fun i v hv => ?_), fun v h' tk hP hk => ?_⟩
  · show c < ((s.heap.push _).push _).objs.size
    rw [Heap.size_push, hsz]
    rcases List.mem_cons.mp hc with rfl | hc
    · (first | (refine rwG hsz ?_; try (with_reducible rfl)) | rw [hsz]); exact Nat.lt_succ_self _
    · rcases List.mem_cons.mp hc with rfl | hc
      · exact Nat.lt_succ_of_lt (Nat.lt_succ_self _)
      · cases hc
  · match i, hv with
    | 0, hv => exact ⟨t, by simpa using hv.symm⟩
    | 1, hv => exact ⟨u, by simpa using hv.symm⟩
    | i + 2, hv => simp at hv
  · have hold : ∀ c o, s.heap.get? c = some o → h'.get? c = some o := fun c o e => by
      refine hk c o (fun hm => ?_) (Heap.get?_push_of_some _ (Heap.get?_push_of_some _ e))
      rcases List.mem_cons.mp hm with e1 | hm
      · have := Heap.lt_size e; rw [e1, hsz] at this; exact Nat.lt_irrefl _ (Nat.lt_of_succ_lt this)
      · cases hm
    have := h h' tk hold
    have hP' : (#[Value.str a t, Value.str b u])[argBest (fun i j => decide ((if i = 0 then a else b).cps.toList < (if j = 0 then a else b).cps.toList)) 1]? = some v := hP
    have hv : v = if b.cps.toList < a.cps.toList then Value.str b u else Value.str a t := by
      by_cases hba : b.cps.toList < a.cps.toList
      · have e : argBest (fun i j => decide ((if i = 0 then a else b).cps.toList < (if j = 0 then a else b).cps.toList)) 1 = 1 := by simp [argBest, hba]
        rw [e] at hP'
        simpa [hba] using hP'.symm
      · have e : argBest (fun i j => decide ((if i = 0 then a else b).cps.toList < (if j = 0 then a else b).cps.toList)) 1 = 0 := by simp [argBest, hba]
        rw [e] at hP'
        simpa [hba] using hP'.symm
    (first | (refine rwG hv ?_; try (with_reducible rfl)) | rw [hv]); exact this
section
variable {X : Cx} {A : Around} {σ : Hp} {E : Value → Shared → Prop} {env : Env}
theorem CW_min2s {a b : Nat} {Q : Value → Hp → Prop} (hh : A.handled = none) (q : Q (T [min a b]) σ) : CW X A E (.builtin "min") [T [a], T [b]] σ Q := fun vs' e s R => by
  obtain ⟨a', b', rfl, e1, e2⟩ := one_arg e
  obtain ⟨t, rfl⟩ := er_str e1
  obtain ⟨u, rfl⟩ := er_str e2
  refine min_two_strs hh fun h' tk k => ⟨σ, R.grow k, ?_⟩
  have hl : ∀ x y : Nat, ((tx [x]).cps.toList < (tx [y]).cps.toList) ↔ x < y := by
    intro x y
    show ([x] : List Nat) < [y] ↔ x < y
    constructor
    · intro h
      rcases List.cons_lt_cons_iff.mp h with h | ⟨_, h⟩
      · exact h
      · exact absurd h (List.not_lt_nil _)
    · intro h
      exact List.cons_lt_cons_iff.mpr (.inl h)
  by_cases h : b < a
  · (first | refine ifP ((hl b a).mpr h) ?_ | rw [if_pos ((hl b a).mpr h)]); rw [Nat.min_eq_right (Nat.le_of_lt h)] at q; exact q
  · (first | refine ifN (fun z => h ((hl b a).mp z)) ?_ | rw [if_neg (fun z => h ((hl b a).mp z))]); rw [Nat.min_eq_left (by omega)] at q; exact q
end
section
variable {X : Cx} {A : Around} {σ : Hp} {E : Value → Shared → Prop} {env : Env}
theorem EX_AssignSwap2 {x y : Str} {elts k tpos value pos} {Q : Flow → Hp → Prop} (hh : A.handled = none) (hs : swapsWithSole [.Tuple elts k tpos] value pos.line env = pure false) (hw : swappedStores [.Tuple elts k tpos] value env = pure (some [x, y]))
    (h : EV X A env E value σ (fun v σ₁ => ∃ t a b, v = .ref t ∧ (t, AO.seq "tuple" [a, b]) ∈ σ₁ ∧ ST X A env E y b σ₁ (fun σ₂ => ST X A env E x a σ₂ (fun σ₃ => Q .next σ₃)))) : EX X A env E (.Assign [.Tuple elts k tpos] value pos) σ Q := fun s R =>
  Assign_Tuple_swapped (h.use R fun v s₁ σ₁ R₁ ⟨t, a, b, ev, hm, h₁⟩ => by
    obtain rfl := er_ref ev
    obtain ⟨items, n, ho, he⟩ := R₁.tup hm
    obtain ⟨a', b', e'⟩ := len2 (l := items.toList) (by rw [← List.length_map (f := er), he]; rfl)
    rw [e'] at he
    obtain ⟨ea, eb⟩ : er a' = a ∧ er b' = b := by simpa using he
    have e2 : [x, y].length = items.size := by rw [← Array.length_toList, e']; rfl
    (first | (refine rwG e2 ?_; try (with_reducible rfl)) | rw [e2])
    refine PyProof.Rows.unpackItems_tuple hh ⟨_, ho, rfl, n, rfl⟩ fun h' hx => ?_
    have R₂ : Rel X σ₁ { s₁ with heap := h' } := R₁.ext (tk := s₁.toks) hx
    (first | (refine rwG e' ?_; try (with_reducible rfl)) | rw [e'])
    show wpAny _ A (assignInOrder [bindName env y, bindName env x] [b', a']) _ E _
    refine wpAny_bind (wpAny_holding (wpAny_bindName ((h₁ b' eb).use R₂ fun _ s₃ σ₃ R₃ h₃ => ?_)))
    refine wpAny_bind (wpAny_holding (wpAny_bindName ((h₃ a' ea).use R₃ fun _ s₄ σ₄ R₄ q => ?_)))
    exact wpAny_pure ⟨σ₄, R₄, q⟩) hs hw
end
section
variable {prog : Program} {w : World} {A : Around} {E : Value → Shared → Prop} {s : Shared}
theorem wpAny_choose {src : Source} {n : Nat} {Q : Nat → Shared → Prop} (hn : n ≠ 0) (h : ∀ i d, i < n → Q i { s with drawn := d }) : wpAny (model prog w) A (choose src n) Q E s := fun Γ p hΓ => by
  show n ≠ 0 ∧ _
  exact ⟨hn, h _ _ (Nat.mod_lt _ (Nat.pos_of_ne_zero hn))⟩
theorem perm_erase {α : Type} : ∀ (xs : List α) (i : Nat) (h : i < xs.length), (xs[i] :: xs.eraseIdx i).Perm xs
  | [], i, h => by simp at h
  | x :: xs, 0, h => .refl _
  | x :: xs, i + 1, h => by
    simp only [List.getElem_cons_succ, List.eraseIdx_cons_succ]
    exact (List.Perm.swap _ _ _).trans ((perm_erase xs i (by simpa using h)).cons _)
theorem wpAny_drawOrder {α : Type} : ∀ (n : Nat) (xs : List α) {s : Shared} {Q : List α → Shared → Prop}, xs.length ≤ n → (∀ ys d, ys.Perm xs → Q ys { s with drawn := d }) → wpAny (model prog w) A (drawOrder n xs) Q E s
  | 0, xs, s, Q, hn, h => by
    have : xs = [] := List.eq_nil_of_length_eq_zero (by (first | lia | omega))
    subst this
    exact wpAny_pure (h [] s.drawn (.refl _))
  | n + 1, [], s, Q, hn, h => wpAny_pure (h [] s.drawn (.refl _))
  | n + 1, x :: xs, s, Q, hn, h => by
    refine wpAny_bind (wpAny_choose (by simp) fun i d hi => ?_)
    have hx : (x :: xs)[i]? = some (x :: xs)[i] := List.getElem?_eq_getElem hi
    (first | (refine rwG hx ?_; try (with_reducible rfl)) | rw [hx])
    dsimp only
    refine wpAny_bind (wpAny_drawOrder n ((x :: xs).eraseIdx i) (by rw [List.length_eraseIdx_of_lt hi]; (first | lia | omega)) fun ys d' hp => ?_)
    refine wpAny_pure (h _ _ ?_)
    refine (hp.cons _).trans ?_
    exact perm_erase (x :: xs) i hi
structure SetV (prog : Program) (w : World) (S : Str → Bool) (es : Array (Int × Value)) (t : SetTable) : Prop where
  el : ElemsOf (strKind prog w) es.toList
  mem : ∀ k, S k = true ↔ ∃ e ∈ es.toList, (strKind prog w).is k e.2 = true
  lt : es.size < scanBound
  fits : t.fits es.size = true
  nodup : (es.toList.map fun e => er e.2).Nodup
  led : w.params.followText "set-order" = true ∨ t.led = true
  plain : es.size = 0 ∨ t.plain = false
inductive SetP (prog : Program) (w : World) (S : Str → Bool) (N : Nat) (o : Obj) : Prop
  | mk (hex : o.ExactSet) (es : Array (Int × Value)) (ep : Nat) (t : SetTable) (hd : o.data = .set es ep t) (V : SetV prog w S es t) (hN : es.size ≤ N)
theorem layNew_led (t : SetTable) (es : Array (Int × Value)) (h : Int) (x : Value) : (layNew t es h x).2.1.led = t.led := by
  unfold layNew
  split
  · dsimp only
    unfold SetTable.orStandIn
    split
    · rfl
    · rfl
  · rfl
theorem layNew_plain {t : SetTable} (es : Array (Int × Value)) (h : Int) (x : Value) (hp : t.plain = false) : (layNew t es h x).2.1.plain = false := by
  unfold layNew
  split
  · dsimp only
    unfold SetTable.orStandIn
    split
    · exact hp
    · rfl
  · rfl
theorem relaid_keeps {t t' : SetTable} {hs : Array Int} {n : Nat} {order : Array Nat} (h : t.relaid hs n = some (t', order)) : t'.led = t.led ∧ t'.plain = t.plain := by
  unfold SetTable.relaid SetTable.laid at h
  obtain ⟨ow, _, h2⟩ := Option.bind_eq_some_iff.mp h
  have h2 := Option.some.inj h2
  have h3 := congrArg Prod.fst h2
  dsimp only at h3
  subst h3
  exact ⟨rfl, rfl⟩
set_option tactic.hygienic true in
theorem relayAll_led (t : SetTable) (es : Array (Int × Value)) (n : Nat) : (relayAll t es n).2.1.led = t.led := by
  unfold relayAll
  split
  · rename_i t' order hr
    dsimp only
    split
    · exact (relaid_keeps hr).1
    · rfl
  · rfl
set_option tactic.hygienic true in
theorem relayAll_plain {t : SetTable} (es : Array (Int × Value)) (n : Nat) (hp : t.plain = false) : (relayAll t es n).2.1.plain = false := by
  unfold relayAll
  split
  · rename_i t' order hr
    dsimp only
    split
    · exact (relaid_keeps hr).2.trans hp
    · rfl
  · rfl
theorem SetV.perm {S : Str → Bool} {es es' : Array (Int × Value)} {t t' : SetTable} (V : SetV prog w S es t) (hp : es'.toList.Perm es.toList) (hf : t'.fits es'.size = true) (hl : t'.led = t.led) (hpl : t.plain = false → t'.plain = false) : SetV prog w S es' t' := by
  have hsz : es'.size = es.size := by rw [← Array.length_toList, hp.length_eq, Array.length_toList]
  refine ⟨V.el.perm hp, fun k => (V.mem k).trans ⟨fun ⟨e, he, q⟩ => ⟨e, hp.mem_iff.mpr he, q⟩, fun ⟨e, he, q⟩ => ⟨e, hp.mem_iff.mp he, q⟩⟩, by (first | (refine rwG hsz ?_; try (with_reducible rfl)) | rw [hsz]); exact V.lt, hf, (hp.map _).nodup_iff.mpr V.nodup, hl ▸ V.led, ?_⟩
  (first | (refine rwG hsz ?_; try (with_reducible rfl)) | rw [hsz])
  exact V.plain.imp id hpl
theorem add_tail {a : Addr} {o : Obj} {es : Array (Int × Value)} {ep : Nat} {t : SetTable} (ho : s.heap.get? a = some o) (hex : o.ExactSet) (hd : o.data = .set es ep t)
    {g : Bool → Sem Unit} (hg : ∀ (b : Bool) (s₁ : Shared) (Q' : Unit → Shared → Prop), Q' () s₁ → wpAny (model prog w) A (g b) Q' E s₁)
    {es1 : Array (Int × Value)} {t2 : SetTable} {S' : Str → Bool} (V : SetV prog w S' es1 t2) {wasDummy : Bool} {R : Option Bool → Shared → Prop}
    (h : ∀ h' o', Heap.SameBut a s.heap h' → h'.get? a = some o' → SetP prog w S' es1.size o' → R (some true) { s with heap := h' }) :
    wpAny (model prog w) A (do
        storeSet a es1 t2
        if (!wasDummy && t2.tooFull) = true then do
            g (relayAll t2 es1 (SetTable.grown es1.size)).2.2
            storeSet a (relayAll t2 es1 (SetTable.grown es1.size)).1 (relayAll t2 es1 (SetTable.grown es1.size)).2.1
            pure (some true)
          else pure (some true)) R E s := by
  refine wpAny_bind (wpAny_storeSet_of ho hd ?_ (fits_of_scanBound V.lt))
  obtain ⟨ho1, _⟩ := SetOf_store (knd := strKind prog w) ho hex hd V.el V.mem V.lt V.fits
  have hsb1 := Heap.SameBut.update s.heap a (Obj.putSet es1 t2)
  split
  · have hp := relayAll_perm t2 es1 (SetTable.grown es1.size)
    have hfr := relayAll_fits t2 es1 (SetTable.grown es1.size)
    have V2 := V.perm hp hfr (relayAll_led t2 es1 _) (relayAll_plain es1 _)
    refine wpAny_bind (hg _ _ _ ?_)
    refine wpAny_bind (wpAny_storeSet_of ho1 rfl ?_ (fits_of_scanBound V2.lt))
    obtain ⟨ho2, _⟩ := SetOf_store (knd := strKind prog w) ho1 hex rfl V2.el V2.mem V2.lt V2.fits
    exact wpAny_pure (h _ _ (hsb1.trans (Heap.SameBut.update _ a _)) ho2 ⟨hex, _, _, _, rfl, V2, Nat.le_of_eq (by rw [← Array.length_toList, hp.length_eq, Array.length_toList])⟩)
  · exact wpAny_pure (h _ _ hsb1 ho1 ⟨hex, _, _, _, rfl, V, Nat.le_refl _⟩)
theorem add_P {a : Addr} {o : Obj} {S : Str → Bool} {N : Nat} {x : Str} {tk : Tok} {Q : Bool → Shared → Prop} (ho : s.heap.get? a = some o) (hP : SetP prog w S N o) (hroom : N + 1 < scanBound)
    (h : ∀ b h' o', Heap.SameBut a s.heap h' → h'.get? a = some o' → SetP prog w (fun k' => S k' || decide (k' = x)) (N + 1) o' → Q b { s with heap := h' }) :
    wpAny (model prog w) A (setAddHashed a (.str x tk) ((strKind prog w).hash x)) Q E s := by
  obtain ⟨hex, es, ep, t, hd, V, hN⟩ := hP
  have hb1 : es.size + 1 < scanBound := by (first | lia | omega)
  have hkey : (strKind prog w).is x (.str x tk) = true := by show Value.isStrOf x (.str x tk) = true; simp [Value.isStrOf]
  have hsc : (Value.str x tk).scannable = true := rfl
  unfold setAddHashed setAddHashedIn
  refine wpAny_holding (wpAny_bind (wpAny_setState_of ho hd V.fits ?_))
  dsimp only
  rw [byScan_of hsc V.lt V.el]
  simp only [↓reduceIte]
  unfold setAddByScan
  refine wpAny_bind ?_
  refine wpAny_bind (wpAny_rule ?_)
  refine wpAny_bind (wpAny_setScan_of hkey ho hd V.fits V.el ?_)
  cases hr : List.findIdx? (fun e => (strKind prog w).is x e.2) es.toList with
  | some j =>
    dsimp only
    obtain ⟨hj, hpj, _⟩ := List.findIdx?_eq_some_iff_getElem.mp hr
    have hSk : S x = true := (V.mem x).mpr ⟨es.toList[j], List.getElem_mem hj, hpj⟩
    refine wpAny_pure (wpAny_pure ?_)
    have e : s = { s with heap := s.heap } := by cases s; rfl
    (first | (refine rwG e ?_; try (with_reducible rfl)) | rw [e])
    refine h _ s.heap o (Heap.SameBut.refl a s.heap) ho ⟨hex, es, ep, t, hd, { V with mem := fun k' => ?_ }, by (first | lia | omega)⟩
    rw [Bool.or_eq_true, decide_eq_true_eq, ← V.mem k']
    exact ⟨fun hk => hk.elim id (fun e => e ▸ hSk), .inl⟩
  | none =>
    dsimp only
    have hnone := List.findIdx?_eq_none_iff.mp hr
    have hgw : ∀ (b : Bool) (s₁ : Shared) (Q' : Unit → Shared → Prop), Q' () s₁ → wpAny (model prog w) A (match b with | true => rule "set.scan.the-table-gave-way" | false => pure ()) Q' E s₁ :=
      fun b s₁ Q' hq => by cases b <;> first | exact wpAny_pure hq | exact wpAny_rule hq
    have hperm := layNew_perm t es ((strKind prog w).hash x) (.str x tk)
    have hfits := layNew_fits t es ((strKind prog w).hash x) (.str x tk)
    have hled := layNew_led t es ((strKind prog w).hash x) (.str x tk)
    have hpl := layNew_plain (t := t) es ((strKind prog w).hash x) (.str x tk)
    generalize hL : layNew t es ((strKind prog w).hash x) (.str x tk) = L at hperm hfits hled hpl ⊢
    obtain ⟨es1, t1, wasDummy, gave⟩ := L
    dsimp only at hperm hfits hled hpl ⊢
    rw [Array.toList_push] at hperm
    have hsz : es1.size = es.size + 1 := by rw [← Array.length_toList, hperm.length_eq, List.length_append, Array.length_toList]; rfl
    have hmem1 : ∀ k', (S k' || decide (k' = x)) = true ↔ ∃ e ∈ es1.toList, (strKind prog w).is k' e.2 = true := mem_push_iff hkey V.mem hperm
    have hnd : (es1.toList.map fun e => er e.2).Nodup := by
      rw [(hperm.map _).nodup_iff, List.map_append, List.nodup_append]
      refine ⟨V.nodup, by simp, fun u hu v hv e => ?_⟩
      obtain ⟨q, hq, rfl⟩ := List.mem_map.mp hu
      simp only [List.map_cons, List.map_nil, List.mem_singleton] at hv
      subst hv
      have := hnone q hq
      obtain ⟨t', et⟩ := er_str (x := x) e
      rw [et] at this
      have h2 : (strKind prog w).is x (.str x t') = true := by show Value.isStrOf x (.str x t') = true; simp [Value.isStrOf]
      rw [h2] at this
      cases this
    have key : ∀ t2 : SetTable, t2.fits es1.size = true → t2.led = t1.led → t2.plain = false → SetV prog w (fun k' => S k' || decide (k' = x)) es1 t2 := fun t2 h1 h2 h3 =>
      ⟨(V.el.push hkey hsc).perm hperm, hmem1, by (first | (refine rwG hsz ?_; try (with_reducible rfl)) | rw [hsz]); exact hb1, h1, hnd, by ((first | (refine rwG h2 ?_; try (with_reducible rfl)) | rw [h2]); (first | (refine rwG hled ?_; try (with_reducible rfl)) | rw [hled])); exact V.led, .inr h3⟩
    refine wpAny_bind (hgw _ _ _ ?_)
    by_cases htp : t1.plain = true
    · (first | refine ifP htp ?_ | rw [if_pos htp])
      refine wpAny_bind ?_
      rw [hashByValue_scannable 8 hsc]
      refine wpAny_pure ?_
      refine add_tail ho hex hd (g := fun b => match b with | true => rule "set.scan.the-table-gave-way" | false => pure ()) hgw (S' := fun k' => S k' || decide (k' = x)) ?_ ?_
      · exact key _ (SetTable.fits_plain_off hfits) rfl rfl
      · intro h' o' hsb ho' hP'; dsimp only; exact wpAny_pure (h _ h' o' hsb ho' (by obtain ⟨q1, q2, q3, q4, q5, q6, q7⟩ := hP'; exact ⟨q1, q2, q3, q4, q5, q6, by (first | lia | omega)⟩))
    · (first | refine ifN htp ?_ | rw [if_neg htp])
      refine wpAny_bind (wpAny_pure ?_)
      simp only [↓reduceIte]
      refine add_tail ho hex hd (g := fun b => match b with | true => rule "set.scan.the-table-gave-way" | false => pure ()) hgw (S' := fun k' => S k' || decide (k' = x)) ?_ ?_
      · exact key _ hfits rfl (by simpa using htp)
      · intro h' o' hsb ho' hP'; dsimp only; exact wpAny_pure (h _ h' o' hsb ho' (by obtain ⟨q1, q2, q3, q4, q5, q6, q7⟩ := hP'; exact ⟨q1, q2, q3, q4, q5, q6, by (first | lia | omega)⟩))
noncomputable def upTo (val : Nat → Str) (i : Nat) (k : Str) : Bool := (List.range i).any fun j => val j == k
theorem upTo_succ (val : Nat → Str) (i : Nat) (k : Str) : upTo val (i + 1) k = (upTo val i k || decide (k = val i)) := by
  unfold upTo
  rw [List.range_succ, List.any_append]
  congr 1
  simp only [List.any_cons, List.any_nil, Bool.or_false]
  by_cases h : k = val i
  · subst h; simp
  · rw [decide_eq_false h, beq_eq_false_iff_ne]; exact fun e => h e.symm
theorem SetP.congr {S S' : Str → Bool} {N : Nat} {o : Obj} (h : SetP prog w S N o) (e : ∀ k, S k = S' k) : SetP prog w S' N o := by
  have : S = S' := funext e
  subst this; exact h
end
section
variable {prog : Program} {w : World} {A : Around} {R : Result → Shared → Prop} {I : Addr} {fp wr : List Addr} {G : Array GenState → Array GenState → Prop} {n : Nat} {P : Nat → Value → Prop} {St : Nat → Shared → Prop}
theorem update_loop (W : WalksS prog w A.in1 I fp wr G n P St) (a : Addr) (hSf : a ∉ fp) (val : Nat → Str) (hval : ∀ i v, P i v → ∃ t, v = .str (val i) t) (hb : n + 1 < scanBound) :
    ∀ (k i : Nat) (s : Shared) (o : Obj), n - i = k → i ≤ n → St i s → s.heap.get? a = some o → SetP prog w (upTo val i) i o →
      (∀ s' o', Moved (a :: wr) G s s' → s'.heap.get? a = some o' → SetP prog w (upTo val n) n o' → R (.ok (.ret .none)) s') →
      codeAny (model prog w) A (.builtin "set.update.loop" ⟨[.ref a, .ref I], []⟩) R s := by
  have hSw : a ∉ wr := fun h => hSf (W.sub _ h)
  have hsub : ∀ b ∈ wr, b ∈ a :: wr := fun b hb => List.mem_cons_of_mem _ hb
  intro k
  induction k with
  | zero =>
    intro i s o hk hi hst ho hP hR
    have hin : i = n := by (first | lia | omega)
    subst hin
    refine codeAny_builtin PyProof.Rows.F.entry_set_update_loop ?_
    rw [Around.under_plainId PyProof.Rows.F.plain_set_update_loop _]
    show wpAny _ A.in1 (pyNext (.ref I) >>= _) _ _ s
    refine wpAny_bind (W.done s _ _ hst fun s' hm => ?_)
    show wpAny _ A.in1 (ret Value.none) _ _ s'
    exact wpAny_pure (hR s' o (hm.mono hsub) (hm.heap a _ hSw ho) hP)
  | succ k ih =>
    intro i s o hk hi hst ho hP hR
    have hlt : i < n := by (first | lia | omega)
    refine codeAny_builtin PyProof.Rows.F.entry_set_update_loop ?_
    rw [Around.under_plainId PyProof.Rows.F.plain_set_update_loop _]
    show wpAny _ A.in1 (pyNext (.ref I) >>= _) _ _ s
    refine wpAny_bind (W.item i s _ _ hlt hst fun v s' hPv hst' hm => ?_)
    obtain ⟨t, rfl⟩ := hval i v hPv
    have ho' := hm.heap a _ hSw ho
    show wpAny _ A.in1 (holding [Value.str (val i) t] (setAdd a (.str (val i) t)) >>= _) _ _ s'
    refine wpAny_bind (wpAny_holding ?_)
    unfold setAdd
    refine wpAny_holding ?_
    have hkey : (strKind prog w).is (val i) (.str (val i) t) = true := by show Value.isStrOf (val i) (.str (val i) t) = true; simp [Value.isStrOf]
    refine wpAny_bind ((strKind prog w).pyHash (k := val i) hkey ?_)
    refine add_P (s := { s' with toks := s'.toks + 1 }) ho' hP (by (first | lia | omega)) fun b h' o' hsb ho2 hP2 => ?_
    refine wpAny_pure ⟨plainId_quiet PyProof.Rows.F.plain_set_update_loop _, ih (i + 1) _ o' (by (first | lia | omega)) hlt (W.frame _ s' _ _ hst' (Nat.le_succ _) fun b hb o e => ?_) ho2 (hP2.congr fun k => (upTo_succ val i k).symm) fun s'' o'' hm'' ho3 hS'' => ?_⟩
    · rw [hsb.2 b (fun h : b = a => hSf (by rw [← h]; exact hb))]; exact e
    · refine hR s'' o'' (Moved.trans W.gtrans ((hm.mono hsub).then_heap (Nat.le_succ _) fun b o hb e => ?_) hm'') ho3 hS''
      rw [hsb.2 b (fun h : b = a => hb (by rw [h]; exact List.mem_cons_self))]; exact e
end
noncomputable abbrev newS (w : World) : Obj := { cls := .type "set", dict := none, data := .set #[] 0 (.fresh 0 0 (!w.params.followText "set-order")) }
section
variable {prog : Program} {w : World} {A : Around} {E : Value → Shared → Prop} {s : Shared}
theorem newS_P : SetP prog w (fun _ => false) 0 (newS w) := by
  refine ⟨⟨rfl, rfl, rfl⟩, #[], 0, _, rfl, ⟨fun e he => by simp at he, fun k => by simp, by decide, by rfl, by simp, ?_, .inl rfl⟩, Nat.le_refl _⟩
  cases h : w.params.followText "set-order" with
  | true => exact .inl rfl
  | false => exact .inr rfl
theorem set_new_led (a : Value) {Q₁ : Value → Shared → Prop} (h : Q₁ (.ref s.heap.objs.size) { s with heap := s.heap.push (newS w) }) :
    codeAny (model prog w) A (.call (.builtin "set.__new__") ⟨[.type "set", a], []⟩) (wants Q₁ E) s := by
  refine codeAny_of_tree ?_
  show wpAny _ A.in1 (do checkBuiltinCall "set.__new__" ⟨[.type "set", a], []⟩; again (.builtin "set.__new__" ⟨[.type "set", a], []⟩)) _ _ s
  refine wpAny_bind (wpAny_of_eq (PySem.F.newCall_set_1 a) (wpAny_pure ⟨plainId_quiet PySem.F.plain_set_new _, codeAny_builtin PySem.F.entry_set_new ?_⟩))
  rw [Around.under_plainId PySem.F.plain_set_new _]
  unfold Builtin.«set.__new__» Builtin.Frozenset.newClass
  have hsub := sub_set_self
  obtain ⟨hp, g, d, tk, os⟩ := s
  dsimp only
  wp_walk
  refine wpAny_askSetting (wpAny_pure ?_)
  dsimp only
  simp only [newObj]
  refine wpAny_bind (wpAny_alloc (wpAny_pure ?_))
  exact wpAny_pure h
theorem sub_str_set : isSubtype (.type "str") (.type "set") = pure false := by rw [isSubtype_type]; kernel_rfl
theorem sub_str_frozenset : isSubtype (.type "str") (.type "frozenset") = pure false := by rw [isSubtype_type]; kernel_rfl
theorem signs_at {x : List Nat} {i : Nat} {v : Value} (h : SignAt (tx x) i v) : ∃ t, v = .str (tx [x.getD i 0]) t := by
  obtain ⟨c, u, h1, rfl⟩ := h
  have : x[i]? = some c := by simpa using h1
  refine ⟨u, ?_⟩
  simp [this]
set_option maxHeartbeats 3200000 in
theorem call_set_str {x : List Nat} {t : Tok} {Q : Value → Shared → Prop} (hh : A.handled = none) (hb : x.length + 1 < scanBound)
    (h : ∀ (h' : Heap) (tk : Nat) o, h'.get? s.heap.objs.size = some o → SetP prog w (upTo (fun i => tx [x.getD i 0]) x.length) x.length o →
      (∀ b o, b < s.heap.objs.size → s.heap.get? b = some o → h'.get? b = some o) → Q (.ref s.heap.objs.size) { s with heap := h', toks := tk }) :
    wpAny (model prog w) A (call (.type "set") [.str (tx x) t]) Q E s := by
  obtain ⟨c, tl, hmro⟩ := PySem.F.called_set.mro
  have hmade := PySem.F.called_set.made
  have hsub := PySem.F.called_set.sub
  refine wpAny_call (codeAny_of_tree ?_)
  show wpAny _ _ (callAny (.type "set") _) _ _ _
  refine wpAny_pure ⟨Code.quiet_builtin _ (by decide +kernel), codeAny_builtin PySem.F.entry_type_call ?_⟩
  rw [Around.under_plain (weight_type_call_type "set" [.str (tx x) t] []) rfl]
  have h1 := PySem.F.called_set.notType
  have h2 := PySem.F.called_set.canCreate
  have hct := PySem.F.typeCall_set_1 (.str (tx x) t)
  repeat (any_goals (first | assumption | wp_step))
  refine codeAny_mono (set_new_led (.str (tx x) t) (E := E) (Q₁ := fun obj s₁ => obj = .ref s.heap.objs.size ∧ s₁ = { s with heap := s.heap.push (newS w) }) ⟨rfl, rfl⟩) fun r s₁ hr => ?_
  cases r with
  | error e => exact hr
  | ok fl =>
    cases fl with
    | ret obj =>
      obtain ⟨rfl, rfl⟩ := hr
      have hS : (s.heap.push (newS w)).get? s.heap.objs.size = some (newS w) := Heap.get?_push_size _ rfl
      have hT : Shared.TypeIs { s with heap := s.heap.push (newS w) } (.ref s.heap.objs.size) "set" := ⟨_, hS, rfl⟩
      have hli := PySem.F.called_set.init.lookup
      have hbi := PySem.F.called_set.init.bind (.ref s.heap.objs.size)
      repeat (any_goals (first | assumption | wp_step))
      refine codeAny_mono (codeAny_call_builtin (R := wants (fun r s₂ => r = .none ∧ ∃ h' tk o, s₂ = { s with heap := h', toks := tk } ∧ h'.get? s.heap.objs.size = some o ∧ SetP prog w (upTo (fun i => tx [x.getD i 0]) x.length) x.length o ∧
          (∀ b o, b < s.heap.objs.size → s.heap.get? b = some o → h'.get? b = some o)) E) PySem.F.called_set.init.plain PySem.F.entry_set_init (check_set_init_1 hT ?_)) fun r₂ s₂ hr₂ => ?_
      · have hsls := sub_str_set
        have hslf := sub_str_frozenset
        have hne : (Value.type "str" == Value.type "dict") = false := by decide
        unfold Builtin.«set.__init__» noKeywords Builtin.Frozenset.updateFrom
        generalize hPI : pyIter = PI
        wp_walk
        subst hPI
        refine wpAny_pyIter_str fun oI St hW st => ?_
        refine wpAny_bind (wpAny_runValue ?_)
        have hsz : (s.heap.push (newS w)).objs.size = s.heap.objs.size + 1 := Heap.size_push ..
        have hSf : s.heap.objs.size ∉ [(s.heap.push (newS w)).objs.size] := by
          (first | (refine rwG hsz ?_; try (with_reducible rfl)) | rw [hsz]); simp only [List.mem_singleton]; exact Nat.ne_of_lt (Nat.lt_succ_self _)
        have hn : (tx x).cps.size = x.length := by simp
        refine update_loop (hW A.in1.in1.in1 hh).toS s.heap.objs.size hSf (fun i => tx [x.getD i 0]) (fun i v hv => signs_at hv) (by (first | (refine rwG hn ?_; try (with_reducible rfl)) | rw [hn]); exact hb) ((tx x).cps.size - 0) 0 _ (newS w) rfl (Nat.zero_le _) st (Heap.get?_push_of_some _ hS) (newS_P.congr fun k => rfl) fun s' o' hm ho' hP' => ?_
        obtain ⟨h', g', d', tk', os'⟩ := s'
        have eg : g' = s.gens := hm.gens
        have ed : d' = s.drawn := hm.drawn
        have eo : os' = s.os := hm.os
        subst eg; subst ed; subst eo
        show wpAny _ _ _ _ _ _
        refine wpAny_pure ?_
        show wpAny _ _ (ret Value.none) _ _ _
        rw [hn] at hP'
        refine wpAny_pure ⟨rfl, h', tk', o', rfl, ho', hP', fun b o hb e => ?_⟩
        have hb1 : b ≠ s.heap.objs.size := Nat.ne_of_lt hb
        have hb2 : b ≠ (s.heap.push (newS w)).objs.size := by (first | (refine rwG hsz ?_; try (with_reducible rfl)) | rw [hsz]); exact Nat.ne_of_lt (Nat.lt_succ_of_lt hb)
        exact hm.heap b o (by simp only [List.mem_cons, List.mem_singleton, List.not_mem_nil, or_false, not_or]; exact ⟨hb1, hb2⟩) (Heap.get?_push_of_some _ (Heap.get?_push_of_some _ e))
      · cases r₂ with
        | error e => exact hr₂
        | ok fl₂ =>
          cases fl₂ with
          | ret r =>
            obtain ⟨rfl, h', tk, o, rfl, hS', hP', hk'⟩ := hr₂
            repeat (any_goals (first | assumption | wp_step))
            exact h _ _ o hS' hP' hk'
          | _ => exact hr₂.elim
    | _ => exact hr.elim
end
section
variable {X : Cx} {A : Around} {σ : Hp} {E : Value → Shared → Prop}
theorem CW_set {x : List Nat} {Q : Value → Hp → Prop} (hh : A.handled = none) (hb : x.length < 4000) (q : ∀ a, Q (.ref a) ((a, .pred (SetP X.prog X.w (upTo (fun i => tx [x.getD i 0]) x.length) x.length)) :: σ)) : CW X A E (.type "set") [T x] σ Q := fun vs' e s R => by
  obtain ⟨v, rfl, e1⟩ := no_arg e
  obtain ⟨t, rfl⟩ := er_str e1
  refine call_set_str hh (by show x.length + 1 < 4096; (first | lia | omega)) fun h' tk o ho hP k => ⟨_, R.new (x := .pred (SetP X.prog X.w (upTo (fun i => tx [x.getD i 0]) x.length) x.length)) fresh_size (fun b o e => k b o (Heap.lt_size e) e) ho (fun p _ => hP), q _⟩
end
namespace FF
theorem owner_set_iterator : Manifest.owners.lookup (String.ofList ['r', 'o', 't', 'a', 'r', 'e', 't', 'i', '_', 't', 'e', 's'].reverse) = some Manifest.sig_set_iterator := by kernel_rfl
theorem slot_snext : Slot "set_iterator" "__next__" "set_iterator.__next__" :=
  .of (owner := "set_iterator") (n := "__next__") (by rw [typeLookup_type, builtinLookup_eq_fast]; kernel_rfl) (by decide +kernel) (by decide +kernel) (by decide +kernel)
    (by first | exact .inl (by decide +kernel) | exact .inr (by decide +kernel)) (by rw [isSubtype_type]; kernel_rfl)
theorem entry_snext : entryFor table "set_iterator.__next__" = some Builtin.«set_iterator.__next__» := entryFor_of_tree (by kernel_rfl)
theorem args_snext (a : Value) : argsOk "set_iterator.__next__" ⟨[a], []⟩ := by
  unfold argsOk; rw [signature?_of (id := "set_iterator.__next__") (n := ['_', '_', 't', 'x', 'e', 'n', '_', '_']) (o := ['r', 'o', 't', 'a', 'r', 'e', 't', 'i', '_', 't', 'e', 's']) (by kernel_rfl) owner_set_iterator]; kernel_rfl
theorem slot_siter : Slot "set_iterator" "__iter__" "set_iterator.__iter__" :=
  .of (owner := "set_iterator") (n := "__iter__") (by rw [typeLookup_type, builtinLookup_eq_fast]; kernel_rfl) (by decide +kernel) (by decide +kernel) (by decide +kernel)
    (by first | exact .inl (by decide +kernel) | exact .inr (by decide +kernel)) (by rw [isSubtype_type]; kernel_rfl)
theorem entry_siter : entryFor table "set_iterator.__iter__" = some Builtin.«dict_keyiterator.__iter__» :=
  entryFor_alias (id' := "dict_keyiterator.__iter__") (by rw [fastTable_eq_tree]; kernel_rfl) rfl (by decide +kernel) (by rw [fastTable_eq_tree]; kernel_rfl)
theorem args_siter (a : Value) : argsOk "set_iterator.__iter__" ⟨[a], []⟩ := by
  unfold argsOk; rw [signature?_of (id := "set_iterator.__iter__") (n := ['_', '_', 'r', 'e', 't', 'i', '_', '_']) (o := ['r', 'o', 't', 'a', 'r', 'e', 't', 'i', '_', 't', 'e', 's']) (by kernel_rfl) owner_set_iterator]; kernel_rfl
theorem entry_sit : entryFor table "set.__iter__" = some Builtin.«frozenset.__iter__» :=
  entryFor_alias (id' := "frozenset.__iter__") (by rw [fastTable_eq_tree]; kernel_rfl) rfl (by decide +kernel) (by rw [fastTable_eq_tree]; kernel_rfl)
theorem owner_set' : Manifest.owners.lookup (String.ofList ['t', 'e', 's'].reverse) = some Manifest.sig_set := by kernel_rfl
theorem args_sit (a : Value) : argsOk "set.__iter__" ⟨[a], []⟩ := by
  unfold argsOk; rw [signature?_of (id := "set.__iter__") (n := ['_', '_', 'r', 'e', 't', 'i', '_', '_']) (o := ['t', 'e', 's']) (by kernel_rfl) owner_set']; kernel_rfl
end FF
theorem pickGo_perm {α : Type} (next : Nat → Nat) : ∀ (fuel k : Nat) (left : List α) (out : Array α), left.length ≤ fuel → (pickOrder.go next fuel k left out).toList.Perm (out.toList ++ left)
  | 0, k, left, out, h => by
    have : left = [] := List.eq_nil_of_length_eq_zero (by (first | lia | omega))
    subst this
    unfold pickOrder.go; simp
  | fuel + 1, k, left, out, h => by
    unfold pickOrder.go
    cases left with
    | nil => simp
    | cons x xs =>
      have hi : next k % (x :: xs).length < (x :: xs).length := Nat.mod_lt _ (by simp)
      rw [List.getElem?_eq_getElem hi]
      dsimp only
      refine (pickGo_perm next fuel _ _ _ (by rw [List.length_eraseIdx_of_lt hi]; (first | lia | omega))).trans ?_
      rw [Array.toList_push, List.append_assoc]
      exact (perm_erase _ _ hi).append_left _
theorem pick_perm {α : Type} (next : Nat → Nat) (xs : Array α) : (pickOrder next xs).toList.Perm xs.toList := by
  unfold pickOrder
  exact pickGo_perm next _ _ _ _ (by simp)
section
variable {prog : Program} {w : World} {A : Around} {E : Value → Shared → Prop} {s : Shared}
noncomputable abbrev itObj (first : Value) (i : Nat) (a : Value) (n ep : Nat) : Obj := { cls := .type "set_iterator", data := .fields #[first, .int i 0, a, .int n 0, .int ep 0] }
theorem attempt_stop {s' : Shared} (hh : A.handled = none) {Q : Option Value → Shared → Prop} {e : Value} (hT : s'.TypeIs e "StopIteration") (q : Q none s') :
    wpAny (model prog w) A (match (Except.error e : Except Value (Option Value)) with
        | Except.ok (some v) => pure (some v)
        | Except.ok none => unsupported "iter:the-iterator's-class-has-lost-its-__next__-amid-the-walk"
        | Except.error e => do
          let __do_lift ← isInstance e (Value.type "StopIteration")
          if __do_lift = true then pure none else throw e) Q E s' := by
  dsimp only
  refine wpAny_bind (wpAny_isInstance (T := "StopIteration") (b := true) hT isSubtype_stop ?_)
  exact wpAny_pure q
theorem raise_stop {Q : α → Shared → Prop} (hh : A.handled = none)
    (h : ∀ h' e, s.heap.get? e = none → (∀ b o, s.heap.get? b = some o → h'.get? b = some o) → (∃ o, h'.get? e = some o ∧ ∀ p, Conc p (.exc .none) o) → E (.ref e) { s with heap := h' }) :
    wpAny (model prog w) A (newExc (.type "StopIteration") [] >>= raiseNew : Sem α) Q E s := stop_raises hh h
theorem next_int {I a : Addr} {i n ep slot : Nat} {es : Array (Int × Value)} {t : SetTable} {oa : Obj} {r : Option (Value × Nat)} {Q : Option Value → Shared → Prop} (hh : A.handled = none) (ho : s.heap.get? I = some (itObj (.int slot 0) i (.ref a) es.size ep)) (hoa : s.heap.get? a = some oa) (hda : oa.data = .set es ep t) (hf : t.fits es.size = true)
    (hsn : ∀ {Q' : Option (Value × Nat) → Shared → Prop} {E' : Value → Shared → Prop}, Q' r s → wpAny (model prog w) A.in1 (setNext a slot i ep) Q' E' s)
    (hsome : ∀ v nx h', r = some (v, nx) → h'.get? I = some (itObj (.int nx 0) (i + 1) (.ref a) es.size ep) → Heap.SameBut I s.heap h' → Q (some v) { s with heap := h' })
    (hnone : r = none → ∀ h', (∀ b o, b ≠ I → s.heap.get? b = some o → h'.get? b = some o) → Q none { s with heap := h' }) : wpAny (model prog w) A (pyNext (.ref I)) Q E s := by
  have hT : s.TypeIs (.ref I) "set_iterator" := ⟨_, ho, rfl⟩
  unfold pyNext
  refine wpAny_bind (wpAny_attempt (wpAny_callSpecial?_slot (name := Str.ofString "__next__") hT FF.slot_snext (wpAny_call_entry FF.slot_snext hT FF.entry_snext ?_ (FF.args_snext _))))
  unfold Builtin.«set_iterator.__next__»
  refine wpAny_bind (m := slotArgs "__next__" 0 _) (wpAny_pure ?_)
  refine wpAny_bind (wpAny_fieldsOf ho rfl ?_)
  dsimp only
  refine wpAny_bind (wpAny_setEntries_of hoa hda hf ?_)
  (first | refine ifN (by simp) ?_ | rw [if_neg (by simp)])
  rw [Int.toNat_natCast, Int.toNat_natCast, Int.toNat_natCast]
  refine wpAny_bind (hsn ?_)
  cases r with
  | some p =>
    obtain ⟨v, nx⟩ := p
    dsimp only
    refine wpAny_bind (wpAny_setField ho rfl (by simp) ?_)
    have ho1 := Heap.get?_update_self (Obj.mapFields (·.setIfInBounds 0 (rawInt (nx : Nat)))) ho rfl
    refine wpAny_bind (wpAny_setField ho1 rfl (by simp) ?_)
    refine wpAny_pure ⟨v, rfl, wpAny_pure ?_⟩
    refine hsome v nx _ rfl ?_ ((Heap.SameBut.update ..).trans (Heap.SameBut.update ..))
    have ho2 := Heap.get?_update_self (Obj.mapFields (·.setIfInBounds 1 (rawInt ((i : Int) + 1)))) ho1 rfl
    (first | (refine rwG ho2 ?_; try (with_reducible rfl)) | rw [ho2])
    rfl
  | none =>
    dsimp only
    refine wpAny_bind (wpAny_setField ho rfl (by simp) ?_)
    have hsb : Heap.SameBut I s.heap (s.heap.update I (Obj.mapFields (·.setIfInBounds 2 .none))) := Heap.SameBut.update ..
    refine raise_stop (A := A.in1) hh fun h' e he hk ⟨oe, h1, h2⟩ => ?_
    refine attempt_stop (A := A) hh ⟨oe, h1, (h2 fun _ => none).1⟩ ?_
    exact hnone rfl h' fun b o hb eb => hk b o (hsb.extBut b o hb eb)
theorem next_drawn {I a tp : Addr} {i ep nt : Nat} {es : Array (Int × Value)} {ps : List Nat} {t : SetTable} {oa : Obj} {Q : Option Value → Shared → Prop} (hh : A.handled = none) (ho : s.heap.get? I = some (itObj (.ref tp) i (.ref a) es.size ep)) (hoa : s.heap.get? a = some oa) (hda : oa.data = .set es ep t) (hf : t.fits es.size = true)
    (htp : s.heap.get? tp = some { cls := .type "tuple", data := .seq (ps.map fun j : Nat => rawInt j).toArray nt })
    (hsome : ∀ j v h', ps[i]? = some j → (es[j]?).map (·.2) = some v → h'.get? I = some (itObj (.ref tp) (i + 1) (.ref a) es.size ep) → Heap.SameBut I s.heap h' → Q (some v) { s with heap := h' })
    (hps : ∀ j ∈ ps, j < es.size)
    (hnone : ps[i]? = none → ∀ h', (∀ b o, b ≠ I → s.heap.get? b = some o → h'.get? b = some o) → Q none { s with heap := h' }) : wpAny (model prog w) A (pyNext (.ref I)) Q E s := by
  have hT : s.TypeIs (.ref I) "set_iterator" := ⟨_, ho, rfl⟩
  unfold pyNext
  refine wpAny_bind (wpAny_attempt (wpAny_callSpecial?_slot (name := Str.ofString "__next__") hT FF.slot_snext (wpAny_call_entry FF.slot_snext hT FF.entry_snext ?_ (FF.args_snext _))))
  unfold Builtin.«set_iterator.__next__»
  refine wpAny_bind (m := slotArgs "__next__" 0 _) (wpAny_pure ?_)
  refine wpAny_bind (wpAny_fieldsOf ho rfl ?_)
  dsimp only
  refine wpAny_bind (wpAny_setEntries_of hoa hda hf ?_)
  (first | refine ifN (by simp) ?_ | rw [if_neg (by simp)])
  rw [Int.toNat_natCast, Int.toNat_natCast]
  refine wpAny_bind (wpAny_seqItems htp rfl ?_)
  dsimp only
  have hget : (ps.map fun j : Nat => rawInt j).toArray[i]? = (ps[i]?).map fun j : Nat => rawInt j := by simp
  (first | (refine rwG hget ?_; try (with_reducible rfl)) | rw [hget])
  cases hp : ps[i]? with
  | some j =>
    have hj : j < es.size := hps j (List.mem_of_getElem? hp)
    have he : es[j]? = some es[j] := Array.getElem?_eq_getElem hj
    show wpAny _ _ (setNextDrawn a (j : Int).toNat ep >>= _) _ _ _
    rw [Int.toNat_natCast]
    unfold setNextDrawn
    refine wpAny_bind ?_
    refine wpAny_bind (wpAny_setState_of hoa hda hf ?_)
    dsimp only
    ((first | refine ifN (by simp) ?_ | rw [if_neg (by simp)]); (first | (refine rwG he ?_; try (with_reducible rfl)) | rw [he]))
    refine wpAny_pure ?_
    refine wpAny_bind (wpAny_setField ho rfl (by simp) ?_)
    refine wpAny_pure ⟨es[j].2, rfl, wpAny_pure ?_⟩
    refine hsome j _ _ hp (by (first | (refine rwG he ?_; try (with_reducible rfl)) | rw [he]); rfl) ?_ (Heap.SameBut.update ..)
    rw [Heap.get?_update_self _ ho rfl]
    rfl
  | none =>
    dsimp only [Option.map_none]
    refine wpAny_bind (wpAny_setField ho rfl (by simp) ?_)
    have ho1 := Heap.get?_update_self (Obj.mapFields (·.setIfInBounds 0 (rawInt 0))) ho rfl
    refine wpAny_bind (wpAny_setField ho1 rfl (by simp) ?_)
    have hsb : Heap.SameBut I s.heap ((s.heap.update I (Obj.mapFields (·.setIfInBounds 0 (rawInt 0)))).update I (Obj.mapFields (·.setIfInBounds 2 .none))) := (Heap.SameBut.update ..).trans (Heap.SameBut.update ..)
    refine raise_stop (A := A.in1) hh fun h' e he hk ⟨oe, h1, h2⟩ => ?_
    refine attempt_stop (A := A) hh ⟨oe, h1, (h2 fun _ => none).1⟩ ?_
    exact hnone hp h' fun b o hb eb => hk b o (hsb.extBut b o hb eb)
end
section
variable {prog : Program} {w : World} {A : Around} {E : Value → Shared → Prop} {s : Shared}
theorem siter_self {first v : Value} {i n ep : Nat} {I : Addr} {Q : Value → Shared → Prop} (ho : s.heap.get? I = some (itObj first i v n ep)) (q : Q (.ref I) s) : wpAny (model prog w) A (pyIter (.ref I)) Q E s := by
  have hT : s.TypeIs (.ref I) "set_iterator" := ⟨_, ho, rfl⟩
  refine wpAny_pyIter_slot hT FF.slot_siter (wpAny_call_entry FF.slot_siter hT FF.entry_siter ?_ (FF.args_siter _))
  show wpAny _ _ (ret (.ref I)) _ _ s
  exact wpAny_pure ⟨_, rfl, "set_iterator", _, hT, FF.slot_snext.lookup, q⟩
noncomputable abbrev vals (es : Array (Int × Value)) : List Value := es.toList.map (·.2)
theorem walks1 {I a : Addr} (hne : a ≠ I) {es : Array (Int × Value)} {ep : Nat} {t : SetTable} {oa : Obj} (hda : oa.data = .set es ep t) (hf : t.fits es.size = true) (hw : w.params.followText "set-order" = true) :
    ∃ vs : List Value, vs.Perm (vals es) ∧ ∀ A : Around, A.handled = none → Walks prog w A I [I, a] [I] vs.length (fun i v => vs[i]? = some v) (fun i h => h.get? I = some (itObj (.int 0 0) i (.ref a) es.size ep) ∧ h.get? a = some oa) := by
  have hp := pick_perm (w.params.setOrder a ep) es
  refine ⟨(pickOrder (w.params.setOrder a ep) es).toList.map (·.2), hp.map _, fun A hh => ?_⟩
  have hsn : ∀ (i : Nat) (s : Shared) {Q' : Option (Value × Nat) → Shared → Prop} {E' : Value → Shared → Prop}, s.heap.get? a = some oa → Q' (((pickOrder (w.params.setOrder a ep) es)[i]?).map fun e => (e.2, 0)) s → wpAny (model prog w) A.in1 (setNext a 0 i ep) Q' E' s := by
    intro i s Q' E' hoa q
    unfold setNext
    refine wpAny_bind (wpAny_setState_of hoa hda hf ?_)
    dsimp only
    unfold setsByText
    refine wpAny_bind (wpAny_bind (wpAny_askSetting (wpAny_pure ?_)))
    dsimp only
    ((first | refine ifP (show (model prog w).w.params.followText "set-order" = true from hw) ?_ | rw [if_pos (show (model prog w).w.params.followText "set-order" = true from hw)]); (first | refine ifN (by simp) ?_ | rw [if_neg (by simp)]))
    unfold setWalk
    refine wpAny_bind (wpAny_bind (wpAny_setState_of hoa hda hf ?_))
    dsimp only
    unfold setsByText
    refine wpAny_bind (wpAny_bind (wpAny_askSetting (wpAny_pure ?_)))
    dsimp only
    (first | refine ifP (show (model prog w).w.params.followText "set-order" = true from hw) ?_ | rw [if_pos (show (model prog w).w.params.followText "set-order" = true from hw)])
    refine wpAny_bind (wpAny_askSetting (wpAny_pure ?_))
    exact wpAny_pure q
  refine ⟨fun b hb => by simp at hb; simp [hb], fun i h h' st hk => ⟨hk I (by simp) _ st.1, hk a (by simp) _ st.2⟩, ?_, ?_, fun i s Q E st q => siter_self st.1 q⟩
  · intro i s Q E hi st hQ
    refine next_int (n := 0) (t := t) (slot := 0) hh st.1 st.2 hda hf (hsn i s st.2) (fun v nx h' hr ho' hsb => ?_) (fun hr => ?_)
    · obtain ⟨e, he, hev⟩ := Option.map_eq_some_iff.mp hr
      cases hev
      refine hQ e.2 h' s.toks ?_ ⟨ho', (hsb.extBut a _ hne st.2)⟩ fun b o hb e => hsb.extBut b o (fun h => hb (by simp [h])) e
      rw [List.getElem?_map, Array.getElem?_toList, he]; rfl
    · have : (pickOrder (w.params.setOrder a ep) es)[i]? = none := by simpa using hr
      simp at hi
      have := Array.getElem?_eq_none_iff.mp this
      omega
  · intro s Q E st hQ
    refine next_int (n := 0) (t := t) (slot := 0) hh st.1 st.2 hda hf (hsn _ s st.2) (fun v nx h' hr ho' hsb => ?_) (fun hr h' k => hQ h' s.toks fun b o hb e => k b o (fun h => hb (by simp [h])) e)
    · simp at hr
theorem walks2 {I a tp : Addr} (hne : a ≠ I) (hne2 : tp ≠ I) {es : Array (Int × Value)} {ep nt : Nat} {t : SetTable} {oa : Obj} (hda : oa.data = .set es ep t) (hf : t.fits es.size = true) {ps : List Nat} (hps : ps.Perm (List.range es.size)) :
    ∃ vs : List Value, vs.Perm (vals es) ∧ ∀ A : Around, A.handled = none → Walks prog w A I [I, a, tp] [I] vs.length (fun i v => vs[i]? = some v) (fun i h => h.get? I = some (itObj (.ref tp) i (.ref a) es.size ep) ∧ h.get? a = some oa ∧ h.get? tp = some { cls := .type "tuple", data := .seq (ps.map fun j : Nat => rawInt j).toArray nt }) := by
  have hlt : ∀ j ∈ ps, j < es.size := fun j hj => List.mem_range.mp (hps.mem_iff.mp hj)
  have he0 : (List.range es.size).map (fun j => (es[j]?.map (·.2)).getD .none) = vals es := by
    apply List.ext_getElem?
    intro i
    simp only [List.getElem?_map, vals, Array.getElem?_toList]
    by_cases hi : i < es.size
    · rw [List.getElem?_range hi, Array.getElem?_eq_getElem hi]; simp [hi]
    · rw [List.getElem?_eq_none (by simp; (first | lia | omega)), Array.getElem?_eq_none (by (first | lia | omega))]; rfl
  refine ⟨ps.map (fun j => (es[j]?.map (·.2)).getD .none), he0 ▸ hps.map _, fun A hh => ?_⟩
  refine ⟨fun b hb => by simp at hb; simp [hb], fun i h h' st hk => ⟨hk I (by simp) _ st.1, hk a (by simp) _ st.2.1, hk tp (by simp) _ st.2.2⟩, ?_, ?_, fun i s Q E st q => siter_self st.1 q⟩
  · intro i s Q E hi st hQ
    refine next_drawn (t := t) hh st.1 st.2.1 hda hf st.2.2 (fun j v h' hr hv ho' hsb => ?_) hlt (fun hr => ?_)
    · refine hQ v h' s.toks ?_ ⟨ho', hsb.extBut a _ hne st.2.1, hsb.extBut tp _ hne2 st.2.2⟩ fun b o hb e => hsb.extBut b o (fun h => hb (by simp [h])) e
      rw [List.getElem?_map, hr]
      simp only [Option.map_some, hv, Option.getD_some]
    · simp at hi hr
      (first | lia | omega)
  · intro s Q E st hQ
    refine next_drawn (t := t) hh st.1 st.2.1 hda hf st.2.2 (fun j v h' hr hv ho' hsb => ?_) hlt (fun hr h' k => hQ h' s.toks fun b o hb e => k b o (fun h => hb (by simp [h])) e)
    · simp at hr
theorem walks3 {I a : Addr} (hne : a ≠ I) {es : Array (Int × Value)} {ep : Nat} {t : SetTable} {oa : Obj} (hda : oa.data = .set es ep t) (hf : t.fits es.size = true) (hw : w.params.followText "set-order" = false) (hl : t.led = true) (h1 : es.size ≤ 1) :
    ∃ vs : List Value, vs.Perm (vals es) ∧ ∀ A : Around, A.handled = none → Walks prog w A I [I, a] [I] vs.length (fun i v => vs[i]? = some v) (fun i h => h.get? I = some (itObj (.int (((if i = 0 then 0 else t.place.getD 0 0 + 1) : Nat) : Int) 0) i (.ref a) es.size ep) ∧ h.get? a = some oa) := by
  refine ⟨vals es, .refl _, fun A hh => ?_⟩
  have hlen : (vals es).length = es.size := by simp
  have hps : t.place.size = es.size := by
    have := hf
    simp only [SetTable.fits, Bool.and_eq_true, beq_iff_eq] at this
    exact this.1
  have hsn : ∀ (i : Nat) (hi : i ≤ es.size) (s : Shared) {Q' : Option (Value × Nat) → Shared → Prop} {E' : Value → Shared → Prop}, s.heap.get? a = some oa → Q' (es[i]?.map fun e => (e.2, t.place.getD 0 0 + 1)) s → wpAny (model prog w) A.in1 (setNext a (if i = 0 then 0 else t.place.getD 0 0 + 1) i ep) Q' E' s := by
    intro i hi s Q' E' hoa q
    unfold setNext
    refine wpAny_bind (wpAny_setState_of hoa hda hf ?_)
    dsimp only
    unfold setsByText
    refine wpAny_bind (wpAny_bind (wpAny_askSetting (wpAny_pure ?_)))
    dsimp only
    (first | refine ifN (by rw [show (model prog w).w.params.followText "set-order" = false from hw]; decide) ?_ | rw [if_neg (by rw [show (model prog w).w.params.followText "set-order" = false from hw]; decide)])
    show wpAny _ _ (if (!t.plain && decide (es.size > 1)) = true then _ else _) _ _ _
    (first | refine ifN (by simp; (first | lia | omega)) ?_ | rw [if_neg (by simp; (first | lia | omega))])
    show wpAny _ _ ((if (!t.led && !es.isEmpty) = true then _ else _) >>= _) _ _ _
    (first | refine ifN (by rw [hl]; simp) ?_ | rw [if_neg (by rw [hl]; simp)])
    refine wpAny_bind (wpAny_pure ?_)
    refine wpAny_pure ?_
    by_cases hz : es.size = 0
    · have hi0 : i = 0 := by (first | lia | omega)
      have : es[i]? = none := Array.getElem?_eq_none (by (first | lia | omega))
      rw [this] at q
      have e2 : ∀ j, es[j]? = none := fun j => Array.getElem?_eq_none (by (first | lia | omega))
      (first | (refine rwG e2 ?_; try (with_reducible rfl)) | rw [e2])
      exact q
    · have hone : es.size = 1 := by (first | lia | omega)
      have hp1 : t.place.size = 1 := by (first | lia | omega)
      obtain ⟨p, hp⟩ : ∃ p, t.place = #[p] := by
        generalize t.place = pl at hp1
        obtain ⟨l⟩ := pl
        match l, hp1 with
        | [p], _ => exact ⟨p, rfl⟩
      have hg : t.place.getD 0 0 = p := by (first | (refine rwG hp ?_; try (with_reducible rfl)) | rw [hp]); rfl
      rw [hg] at q ⊢
      rcases (by (first | lia | omega) : i = 0 ∨ i = 1) with rfl | rfl
      · have hb : SetTable.below t.place 0 = 0 := by
          (first | (refine rwG hp ?_; try (with_reducible rfl)) | rw [hp])
          simp [SetTable.below, SetTable.below.go]
        ((first | refine ifP rfl ?_ | rw [if_pos rfl]); (first | (refine rwG hb ?_; try (with_reducible rfl)) | rw [hb]))
        have e0 : es[0]? = some es[0] := Array.getElem?_eq_getElem (by (first | lia | omega))
        rw [e0] at q ⊢
        rw [show t.place[0]? = some p from by rw [hp]; rfl]
        exact q
      · have hb : SetTable.below t.place (p + 1) = 1 := by
          (first | (refine rwG hp ?_; try (with_reducible rfl)) | rw [hp])
          simp [SetTable.below, SetTable.below.go]
        ((first | refine ifN (by decide) ?_ | rw [if_neg (by decide)]); (first | (refine rwG hb ?_; try (with_reducible rfl)) | rw [hb]))
        have e0 : es[1]? = none := Array.getElem?_eq_none (by (first | lia | omega))
        rw [e0] at q ⊢
        exact q
  (first | (refine rwG hlen ?_; try (with_reducible rfl)) | rw [hlen])
  refine ⟨fun b hb => by simp at hb; simp [hb], fun i h h' st hk => ⟨hk I (by simp) _ st.1, hk a (by simp) _ st.2⟩, ?_, ?_, fun i s Q E st q => siter_self st.1 q⟩
  · intro i s Q E hi st hQ
    have hi0 : i = 0 := by (first | lia | omega)
    refine next_int (n := 0) (t := t) (slot := if i = 0 then 0 else t.place.getD 0 0 + 1) hh st.1 st.2 hda hf (hsn i (by (first | lia | omega)) s st.2) (fun v nx h' hr ho' hsb => ?_) (fun hr => ?_)
    · obtain ⟨e, he, hev⟩ := Option.map_eq_some_iff.mp hr
      cases hev
      refine hQ e.2 h' s.toks ?_ ⟨by (first | refine ifN (by (first | lia | omega)) ?_ | rw [if_neg (by (first | lia | omega))]); exact ho', (hsb.extBut a _ hne st.2)⟩ fun b o hb e => hsb.extBut b o (fun h => hb (by simp [h])) e
      simp only [vals]
      rw [List.getElem?_map, Array.getElem?_toList, he]; rfl
    · have : es[i]? = none := by simpa using hr
      have := Array.getElem?_eq_none_iff.mp this
      (first | lia | omega)
  · intro s Q E st hQ
    refine next_int (n := 0) (t := t) (slot := if es.size = 0 then 0 else t.place.getD 0 0 + 1) hh st.1 st.2 hda hf (hsn _ (Nat.le_refl _) s st.2) (fun v nx h' hr ho' hsb => ?_) (fun hr h' k => hQ h' s.toks fun b o hb e => k b o (fun h => hb (by simp [h])) e)
    · simp at hr
theorem iter_set {a N : Addr} {S : Str → Bool} {oa : Obj} {Q : Value → Shared → Prop} (hoa : s.heap.get? a = some oa) (hP : SetP prog w S N oa)
    (h : ∀ (h' : Heap) d (I : Addr) (es : Array (Int × Value)) (t : SetTable) (vs : List Value) (fp : List Addr) (St : Nat → Heap → Prop), SetV prog w S es t → es.size ≤ N → vs.Perm (vals es) → (∀ A' : Around, A'.handled = none → Walks prog w A' I fp [I] vs.length (fun i v => vs[i]? = some v) St) → St 0 h' →
      s.heap.get? I = none → (∀ b o, s.heap.get? b = some o → h'.get? b = some o) → (∀ b ∈ fp, ∃ o, h'.get? b = some o) → (∀ b ∈ fp, b = a ∨ s.heap.get? b = none) → Q (.ref I) { s with heap := h', drawn := d }) : wpAny (model prog w) A (pyIter (.ref a)) Q E s := by
  obtain ⟨hex, es, ep, t, hda, V, hN⟩ := hP
  have hT : s.TypeIs (.ref a) "set" := ⟨oa, hoa, hex.1⟩
  have hal := Heap.lt_size hoa
  refine wpAny_pyIter_slot hT PySem.F.slot_set_iter (wpAny_call_entry PySem.F.slot_set_iter hT FF.entry_sit ?_ (FF.args_sit _))
  unfold Builtin.«frozenset.__iter__»
  refine wpAny_bind (wpAny_pure ?_)
  refine wpAny_bind (m := Builtin.Frozenset.sizeOf a) ?_
  unfold Builtin.Frozenset.sizeOf
  refine wpAny_bind (wpAny_setEntries_of hoa hda V.fits ?_)
  refine wpAny_pure ?_
  refine wpAny_bind (m := setDrawn a) ?_
  unfold setDrawn
  refine wpAny_bind (wpAny_setState_of hoa hda V.fits ?_)
  dsimp only
  unfold setsByText
  refine wpAny_bind (wpAny_bind (wpAny_askSetting (wpAny_pure ?_)))
  refine wpAny_pure ?_
  have fr : ∀ {h : Heap}, h.get? h.objs.size = none := fresh_size
  by_cases hw : w.params.followText "set-order" = true
  · rw [show (model prog w).w.params.followText "set-order" = true from hw]
    (first | refine ifN (by simp) ?_ | rw [if_neg (by simp)])
    refine wpAny_bind (wpAny_pure ?_)
    refine wpAny_bind (wpAny_setEpoch_of hoa hda V.fits ?_)
    refine wpAny_bind (wpAny_newObj_type (wpAny_pure ⟨_, rfl, "set_iterator", _, ⟨_, Heap.get?_push_size _ rfl, rfl⟩, FF.slot_snext.lookup, ?_⟩))
    obtain ⟨vs, hp, hW⟩ := walks1 (prog := prog) (w := w) (I := s.heap.objs.size) (Nat.ne_of_lt hal) hda V.fits hw
    have hI := Heap.get?_push_size s.heap (o := itObj (.int 0 0) 0 (.ref a) es.size ep) rfl
    refine h _ s.drawn _ es t vs _ _ V hN hp hW ⟨hI, Heap.get?_push_of_some _ hoa⟩ fr (fun b o e => Heap.get?_push_of_some _ e) (fun b hb => ?_) (fun b hb => ?_)
    · simp only [List.mem_cons, List.not_mem_nil, or_false] at hb
      rcases hb with rfl | rfl
      · exact ⟨_, hI⟩
      · exact ⟨_, Heap.get?_push_of_some _ hoa⟩
    · simp only [List.mem_cons, List.not_mem_nil, or_false] at hb
      rcases hb with rfl | rfl
      · exact .inr fr
      · exact .inl rfl
  · have hw' : w.params.followText "set-order" = false := by simpa using hw
    by_cases h2 : es.size ≤ 1
    · rw [show (model prog w).w.params.followText "set-order" = false from hw']
      show wpAny _ _ (if (!false && (!t.plain && decide (es.size > 1))) = true then _ else _) _ _ _
      (first | refine ifN (by simp; (first | lia | omega)) ?_ | rw [if_neg (by simp; (first | lia | omega))])
      refine wpAny_bind (wpAny_pure ?_)
      refine wpAny_bind (wpAny_setEpoch_of hoa hda V.fits ?_)
      refine wpAny_bind (wpAny_newObj_type (wpAny_pure ⟨_, rfl, "set_iterator", _, ⟨_, Heap.get?_push_size _ rfl, rfl⟩, FF.slot_snext.lookup, ?_⟩))
      obtain ⟨vs, hp, hW⟩ := walks3 (prog := prog) (w := w) (I := s.heap.objs.size) (Nat.ne_of_lt hal) hda V.fits hw' (V.led.resolve_left hw) h2
      have hI := Heap.get?_push_size s.heap (o := itObj (.int 0 0) 0 (.ref a) es.size ep) rfl
      refine h _ s.drawn _ es t vs _ _ V hN hp hW ⟨hI, Heap.get?_push_of_some _ hoa⟩ fr (fun b o e => Heap.get?_push_of_some _ e) (fun b hb => ?_) (fun b hb => ?_)
      · simp only [List.mem_cons, List.not_mem_nil, or_false] at hb
        rcases hb with rfl | rfl
        · exact ⟨_, hI⟩
        · exact ⟨_, Heap.get?_push_of_some _ hoa⟩
      · simp only [List.mem_cons, List.not_mem_nil, or_false] at hb
        rcases hb with rfl | rfl
        · exact .inr fr
        · exact .inl rfl
    · have hpl : t.plain = false := V.plain.resolve_left (by (first | lia | omega))
      rw [show (model prog w).w.params.followText "set-order" = false from hw']
      show wpAny _ _ (if (!false && (!t.plain && decide (es.size > 1))) = true then _ else _) _ _ _
      (first | refine ifP (by rw [hpl]; simp; (first | lia | omega)) ?_ | rw [if_pos (by rw [hpl]; simp; (first | lia | omega))])
      refine wpAny_bind (wpAny_drawOrder _ _ (by simp) fun ps d hps => ?_)
      unfold newTuple
      refine wpAny_bind (wpAny_newObj_type ?_ (by have h0 := hps.length_eq; have h1 := V.lt; have h3 : scanBound = 4096 := rfl; rw [List.length_range] at h0; show _ ≤ sizeLine; rw [sizeLine_eq]; simp only [List.size_toArray, List.length_map]; (first | lia | omega)))
      have hoa1 : (s.heap.push { cls := .type "tuple", data := .seq (ps.map fun j : Nat => rawInt j).toArray }).get? a = some oa := Heap.get?_push_of_some _ hoa
      refine wpAny_bind (wpAny_setEpoch_of hoa1 hda V.fits ?_)
      refine wpAny_bind (wpAny_newObj_type (wpAny_pure ⟨_, rfl, "set_iterator", _, ⟨_, Heap.get?_push_size _ rfl, rfl⟩, FF.slot_snext.lookup, ?_⟩))
      have hsz : (s.heap.push { cls := .type "tuple", data := .seq (ps.map fun j : Nat => rawInt j).toArray }).objs.size = s.heap.objs.size + 1 := Heap.size_push ..
      obtain ⟨vs, hp, hW⟩ := walks2 (prog := prog) (w := w) (I := (s.heap.push { cls := .type "tuple", data := .seq (ps.map fun j : Nat => rawInt j).toArray }).objs.size) (tp := s.heap.objs.size) (nt := 0) (by (first | (refine rwG hsz ?_; try (with_reducible rfl)) | rw [hsz]); exact Nat.ne_of_lt (Nat.lt_succ_of_lt hal)) (by (first | (refine rwG hsz ?_; try (with_reducible rfl)) | rw [hsz]); exact Nat.ne_of_lt (Nat.lt_succ_self _)) hda V.fits hps
      have ht : (s.heap.push { cls := .type "tuple", data := .seq (ps.map fun j : Nat => rawInt j).toArray }).get? s.heap.objs.size = some { cls := .type "tuple", data := .seq (ps.map fun j : Nat => rawInt j).toArray } := Heap.get?_push_size _ rfl
      have hI := Heap.get?_push_size (s.heap.push { cls := .type "tuple", data := .seq (ps.map fun j : Nat => rawInt j).toArray }) (o := itObj (.ref s.heap.objs.size) 0 (.ref a) es.size ep) rfl
      have hn2 : s.heap.get? (s.heap.push { cls := .type "tuple", data := .seq (ps.map fun j : Nat => rawInt j).toArray }).objs.size = none := by
        cases z : s.heap.get? (s.heap.push { cls := .type "tuple", data := .seq (ps.map fun j : Nat => rawInt j).toArray }).objs.size with
        | none => rfl
        | some o => have := Heap.lt_size z; rw [hsz] at this; exact absurd this (Nat.not_lt.mpr (Nat.le_succ _))
      refine h _ d _ es t vs _ _ V hN hp hW ⟨hI, Heap.get?_push_of_some _ hoa1, Heap.get?_push_of_some _ ht⟩ hn2 (fun b o e => Heap.get?_push_of_some _ (Heap.get?_push_of_some _ e)) (fun b hb => ?_) (fun b hb => ?_)
      · simp only [List.mem_cons, List.not_mem_nil, or_false] at hb
        rcases hb with rfl | rfl | rfl
        · exact ⟨_, hI⟩
        · exact ⟨_, Heap.get?_push_of_some _ hoa1⟩
        · exact ⟨_, Heap.get?_push_of_some _ ht⟩
      · simp only [List.mem_cons, List.not_mem_nil, or_false] at hb
        rcases hb with rfl | rfl | rfl
        · exact .inr hn2
        · exact .inl rfl
        · exact .inr fr
end
section
variable {prog : Program} {w : World} {A : Around} {E : Value → Shared → Prop} {s : Shared}
theorem hint_set {r : Addr} {Q : Bool → Shared → Prop} (hT : s.TypeIs (.ref r) "set") (h : Q false s) : wpAny (model prog w) A (Builtin.List.listLengthHint (.ref r)) Q E s := by
  unfold Builtin.List.listLengthHint
  refine wpAny_bind (wpAny_specialOf hT PySem.F.slot_set_len.lookup ?_)
  generalize hid : ("set.__len__" : String) = id0
  wp_delta
  rw [show splitId id0 = some ("set", "__len__") from by subst hid; decide +kernel]
  subst hid
  refine wpAny_bind (wpAny_isInstance (T := "set") (b := true) hT (by rw [isSubtype_type]; kernel_rfl) ?_)
  refine wpAny_ite_split (fun hab => absurd hab (by decide)) (fun _ => ?_)
  refine wpAny_ite_split (fun _ => ?_) (fun hab => absurd (by decide +kernel) hab)
  refine wpAny_bind (wpAny_typeOf hT ?_)
  exact wpAny_pure h
theorem collect_set {a : Addr} {N : Nat} {S : Str → Bool} {oa : Obj} {Q : List Value → Shared → Prop} (hh : A.handled = none) (hoa : s.heap.get? a = some oa) (hP : SetP prog w S N oa)
    (h : ∀ (h' : Heap) d tk (es : Array (Int × Value)) (t : SetTable) (vs : List Value), SetV prog w S es t → es.size ≤ N → vs.Perm (vals es) → (∀ b o, s.heap.get? b = some o → h'.get? b = some o) → Q vs { s with heap := h', drawn := d, toks := tk }) :
    wpAny (model prog w) A (collect (.ref a)) Q E s := by
  have hal := Heap.lt_size hoa
  unfold collect
  refine wpAny_bind (wpAny_runValue (codeAny_builtin entry_proto_collect' ?_))
  rw [Around.under_plainId PySem.F.plain_proto_collect _]
  show wpAny _ A.in1 (newList [] >>= fun l => again (.builtin "list.__iadd__" ⟨[l, .ref a], []⟩)) _ _ s
  refine wpAny_bind (wpAny_newObj_type ?_)
  refine wpAny_pure ⟨plainId_quiet PySem.F.plain_list_iadd _, codeAny_builtin entry_list_iadd' ?_⟩
  rw [Around.under_plainId PySem.F.plain_list_iadd _]
  have hS₁ : (s.heap.push { cls := .type "list", data := .seq ([] : List Value).toArray }).get? s.heap.objs.size = some { cls := .type "list", data := .seq #[] } := Heap.get?_push_size _ rfl
  have hoa₁ : (s.heap.push { cls := .type "list", data := .seq ([] : List Value).toArray }).get? a = some oa := Heap.get?_push_of_some _ hoa
  show wpAny _ A.in1 (Builtin.List.listExtendWith (.ref s.heap.objs.size) (.ref a) (.ref s.heap.objs.size)) _ _ _
  have h1 : Builtin.List.listSameRef (.ref s.heap.objs.size) (.ref a) = false := by simp [Builtin.List.listSameRef, Nat.ne_of_gt hal]
  unfold Builtin.List.listExtendWith
  refine wpAny_bind (wpAny_typeOf (T := "set") ⟨oa, hoa₁, hP.1.1⟩ ?_)
  (first | refine ifN (by rw [h1]; decide) ?_ | rw [if_neg (by rw [h1]; decide)])
  refine wpAny_bind (iter_set (s := { s with heap := s.heap.push { cls := .type "list", data := .seq ([] : List Value).toArray } }) hoa₁ hP fun h' d I es t vs fp St V hN hp hW st hI hk hfp hfp2 => ?_)
  have hSI : s.heap.objs.size ≠ I := fun e => by rw [← e] at hI; rw [show Heap.get? _ _ = some _ from hS₁] at hI; cases hI
  have hSf : s.heap.objs.size ∉ fp := fun hm => by
    rcases hfp2 _ hm with e | e
    · exact Nat.ne_of_gt hal e
    · rw [show Heap.get? _ _ = some _ from hS₁] at e; cases e
  have hT' : Shared.TypeIs { s with heap := h', drawn := d } (.ref a) "set" := ⟨oa, hk _ _ hoa₁, hP.1.1⟩
  refine wpAny_bind (wpAny_holding (hint_set hT' ?_))
  have hS₂ := hk _ _ hS₁
  (first | refine ifP (by decide +kernel) ?_ | rw [if_pos (by decide +kernel)])
  refine wpAny_bind (wpAny_rule ?_)
  refine wpAny_bind ?_
  show wpAny _ _ (updateSeq s.heap.objs.size (·.push .none) >>= fun _ => updateSeq s.heap.objs.size (·.pop)) _ _ _
  refine wpAny_bind (wpAny_updateSeq hS₂ rfl ?_)
  have hS₃ := Heap.get?_update_self (Obj.mapSeq (·.push Value.none)) hS₂ rfl
  refine wpAny_updateSeq (hz := by seq_fits) hS₃ rfl ?_
  have hS₄ := Heap.get?_update_self (Obj.mapSeq (·.pop)) hS₃ rfl
  have hlen : vs.length ≤ sizeLine := by
    have := hp.length_eq
    have h1 := V.lt
    have h3 : scanBound = 4096 := rfl
    simp only [vals, List.length_map, Array.length_toList] at this
    rw [sizeLine_eq]; (first | lia | omega)
  have hoth : ∀ b o, b ≠ s.heap.objs.size → h'.get? b = some o → ((h'.update s.heap.objs.size (Obj.mapSeq (·.push Value.none))).update s.heap.objs.size (Obj.mapSeq (·.pop))).get? b = some o := fun b o hb e =>
    (Heap.get?_update_other _ _ (Ne.symm hb)).trans ((Heap.get?_update_other _ _ (Ne.symm hb)).trans e)
  have st₁ := (hW A.in1 hh).frame 0 _ _ st fun b hb o e => hoth b o (fun z => hSf (z ▸ hb)) e
  refine wpAny_pure ⟨plainId_quiet PySem.F.plain_extend_loop _, codeAny_extend_loopS (hW A.in1 hh).toS hlen _ hSf _ vs.length 0 { s with heap := _, drawn := d } #[] _ rfl (Nat.zero_le _) st₁ hS₄ (ItemsOf.nil _) fun s' acc' c' hm hS' hacc => ?_⟩
  show wpAny _ A (load s.heap.objs.size >>= _) _ _ s'
  refine wpAny_bind (wpAny_load hS' ?_)
  have hv : acc'.toList = vs := by
    apply List.ext_getElem?
    intro j
    rw [Array.getElem?_toList]
    by_cases hj : j < acc'.size
    · rw [Array.getElem?_eq_getElem hj]
      exact (hacc.2 j _ (Array.getElem?_eq_getElem hj)).symm
    · rw [Array.getElem?_eq_none (by (first | lia | omega)), List.getElem?_eq_none (by have := hacc.1; (first | lia | omega))]
  refine wpAny_pure ?_
  (first | (refine rwG hv ?_; try (with_reducible rfl)) | rw [hv])
  obtain ⟨h'', g', d', tk', os'⟩ := s'
  have eg : g' = s.gens := hm.gens
  have ed : d' = d := hm.drawn
  have eo : os' = s.os := hm.os
  subst eg; subst ed; subst eo
  refine h h'' d' tk' es t vs V hN hp fun b o e => hm.heap b o (fun hmem => ?_) (hoth b o (Nat.ne_of_lt (Heap.lt_size e)) (hk b o (Heap.get?_push_of_some _ e)))
  rcases List.mem_cons.mp hmem with e' | hmem
  · exact absurd (e' ▸ Heap.lt_size e) (Nat.lt_irrefl _)
  · rw [List.mem_singleton] at hmem
    subst hmem
    rw [show Heap.get? _ _ = some o from Heap.get?_push_of_some _ e] at hI; cases hI
theorem strsAre_vals {S : Str → Bool} {es : Array (Int × Value)} {t : SetTable} {vs : List Value} (V : SetV prog w S es t) (hp : vs.Perm (vals es)) : ∀ v ∈ vs, ∃ x t, v = .str x t ∧ S x = true := fun v hv => by
  obtain ⟨e, he, rfl⟩ := List.mem_map.mp (hp.mem_iff.mp hv)
  obtain ⟨⟨k, hk, _⟩, _⟩ := V.el e he
  obtain ⟨t, ht⟩ := Value.isStrOf_shape (show Value.isStrOf k e.2 = true from hk)
  exact ⟨k, t, ht, (V.mem k).mpr ⟨e, he, hk⟩⟩
theorem rising_le : ∀ (p : Nat) (cs : List Nat), risingS (tx [p]) (cs.map fun c => tx [c]) = true → (p :: cs).Pairwise (· ≤ ·)
  | p, [], _ => by simp
  | p, x :: r, h => by
    have h : (!Spec.ltCps (tx [x]).cps.toList (tx [p]).cps.toList && risingS (tx [x]) (r.map fun c => tx [c])) = true := h
    rw [Bool.and_eq_true] at h
    have h2 := rising_le x r h.2
    have h1 : p ≤ x := by
      have := h.1
      simp [Spec.ltCps] at this
      omega
    refine List.pairwise_cons.mpr ⟨fun y hy => ?_, h2⟩
    rcases List.mem_cons.mp hy with rfl | hy
    · exact h1
    · exact Nat.le_trans h1 ((List.pairwise_cons.mp h2).1 y hy)
theorem upTo_iff {x : List Nat} {k : Str} : upTo (fun i => tx [x.getD i 0]) x.length k = true ↔ ∃ c ∈ x, k = tx [c] := by
  unfold upTo
  rw [List.any_eq_true]
  constructor
  · rintro ⟨i, hi, e⟩
    have hi := List.mem_range.mp hi
    exact ⟨x[i], List.getElem_mem hi, by rw [← beq_iff_eq.mp e]; simp [hi]⟩
  · rintro ⟨c, hc, rfl⟩
    obtain ⟨i, hi, rfl⟩ := List.mem_iff_getElem.mp hc
    exact ⟨i, List.mem_range.mpr hi, by simp [hi]⟩
theorem tx_one_inj {a b : Nat} (h : tx [a] = tx [b]) : a = b := by
  have := congrArg (fun s : Str => s.cps.toList) h
  simpa using this
theorem strsAre_er : ∀ {vs : List Value} {ss : List Str}, StrsAre vs ss → vs.map er = ss.map S
  | _, _, .nil => rfl
  | _, _, .cons x t h => by rw [List.map_cons, List.map_cons, strsAre_er h]; rfl
theorem le_nodup_lt : ∀ {cs : List Nat}, cs.Pairwise (· ≤ ·) → cs.Nodup → cs.Pairwise (· < ·)
  | [], _, _ => .nil
  | c :: r, h, n => by
    rw [List.pairwise_cons] at h
    rw [List.nodup_cons] at n
    refine List.pairwise_cons.mpr ⟨fun y hy => ?_, le_nodup_lt h.2 n.2⟩
    exact Nat.lt_of_le_of_ne (h.1 y hy) (fun e => n.1 (e ▸ hy))
theorem sorted_texts {x : List Nat} {es : Array (Int × Value)} {t : SetTable} {vs : List Value} {ss' : List Str} (V : SetV prog w (upTo (fun i => tx [x.getD i 0]) x.length) es t) (hp : vs.Perm (vals es)) (h2 : ss'.Perm (vs.map strOf)) (h3 : sortedS ss' = true) :
    ∃ cs : List Nat, ss' = cs.map (fun c => tx [c]) ∧ cs.Pairwise (· < ·) ∧ ∀ c, c ∈ cs ↔ c ∈ x := by
  have hv := strsAre_vals V hp
  have hmem : ∀ k, k ∈ ss' ↔ ∃ c ∈ x, k = tx [c] := by
    intro k
    rw [h2.mem_iff, List.mem_map, ← upTo_iff, V.mem]
    constructor
    · rintro ⟨v, hvm, rfl⟩
      obtain ⟨k, t', rfl, hS⟩ := hv v hvm
      exact (V.mem _).mp hS
    · rintro ⟨e, he, hk⟩
      obtain ⟨t', ht⟩ := Value.isStrOf_shape (show Value.isStrOf k e.2 = true from hk)
      exact ⟨e.2, hp.mem_iff.mpr (List.mem_map_of_mem he), by (first | (refine rwG ht ?_; try (with_reducible rfl)) | rw [ht]); rfl⟩
  have hcs : ss' = (ss'.map fun k => k.cps.toList.headD 0).map (fun c => tx [c]) := by
    rw [List.map_map]
    conv => lhs; rw [← List.map_id ss']
    apply List.map_congr_left
    intro k hk
    obtain ⟨c, _, rfl⟩ := (hmem k).mp hk
    simp
  have hnd : ss'.Nodup := by
    rw [h2.nodup_iff]
    have h1 : (vs.map er).Nodup := by
      have := V.nodup
      rw [show (es.toList.map fun e => er e.2) = (vals es).map er by simp [vals, List.map_map, Function.comp_def]] at this
      exact (hp.map _).nodup_iff.mpr this
    have h4 : vs.map er = (vs.map strOf).map S := strsAre_er (strsAre_map vs fun v hvm => let ⟨k, t', e, _⟩ := hv v hvm; ⟨k, t', e⟩)
    rw [h4] at h1
    exact List.Pairwise.of_map S (fun a b hab e => hab (by (first | (refine rwG e ?_; try (with_reducible rfl)) | rw [e]))) h1
  generalize ss'.map (fun k => k.cps.toList.headD 0) = cs at hcs
  subst hcs
  have hnc : cs.Nodup := List.Pairwise.of_map (fun c => tx [c]) (fun a b hab e => hab (by (first | (refine rwG e ?_; try (with_reducible rfl)) | rw [e]))) hnd
  refine ⟨cs, rfl, le_nodup_lt ?_ hnc, fun c => ?_⟩
  · cases cs with
    | nil => exact .nil
    | cons p r => exact rising_le p r h3
  · constructor
    · intro hc
      obtain ⟨d, hd, e⟩ := (hmem (tx [c])).mp (List.mem_map_of_mem (f := fun c => tx [c]) hc)
      exact tx_one_inj e ▸ hd
    · intro hc
      obtain ⟨d, hd, e⟩ := List.mem_map.mp ((hmem (tx [c])).mpr ⟨c, hc, rfl⟩)
      exact tx_one_inj e ▸ hd
theorem sorted_set {a : Addr} {N : Nat} {x : List Nat} {oa : Obj} {Q : Value → Shared → Prop} (hh : A.handled = none) (hoa : s.heap.get? a = some oa) (hP : SetP prog w (upTo (fun i => tx [x.getD i 0]) x.length) N oa) (hN : N < 64)
    (h : ∀ (h' : Heap) d tk l (cs : List Nat) (out : Array Value) n, out.toList.map er = cs.map (fun c => T [c]) → cs.Pairwise (· < ·) → (∀ c, c ∈ cs ↔ c ∈ x) → s.heap.get? l = none → h'.get? l = some (seqObj "list" out n) → (∀ b o, s.heap.get? b = some o → h'.get? b = some o) → Q (.ref l) { s with heap := h', drawn := d, toks := tk }) :
    wpAny (model prog w) A (call (.builtin "sorted") [.ref a]) Q E s := by
  refine call_function_entry kind_sorted plain_sorted entry_sorted (args_sorted1 _) ?_
  unfold Builtin.«sorted»
  refine wpAny_bind (m := checkCount "sorted" 1 1 _) (wpAny_pure ?_)
  refine wpAny_bind (collect_set (A := A.in1) hh hoa hP fun h' d tk es t vs V hNe hp hk => ?_)
  have hlen : vs.length < 64 := by
    have := hp.length_eq
    simp only [vals, List.length_map, Array.length_toList] at this
    (first | lia | omega)
  refine wpAny_bind (wpAny_newList ?_)
  have hS : ∀ v ∈ vs, ∃ k t, v = .str k t := fun v hv => let ⟨k, t, e, _⟩ := strsAre_vals V hp v hv; ⟨k, t, e⟩
  have hA := strsAre_map vs hS
  have hoL : (h'.push (seqObj "list" vs.toArray 0)).get? h'.objs.size = some (seqObj "list" vs.toArray 0) := Heap.get?_push_size _ rfl
  refine wpAny_bind (wpAny_holding (wpAny_call_entry slot_list_sort ⟨_, hoL, rfl⟩ entry_list_sort (list_sort_treeK strKind_oneLt hoL hA.keysOf (fun v₁ v₂ rest e => keyKind_strs (by (first | (refine rwG e.symm ?_; try (with_reducible rfl)) | rw [← e]); exact hA)) hlen fun st' a1 a2 => ⟨_, rfl, ?_⟩) (args_list_sort _)))
  refine wpAny_pure ⟨_, rfl, ?_⟩
  obtain ⟨ss', b1, b2, b3⟩ := sorted_out_str hA a1 a2
  obtain ⟨cs, rfl, c2, c3⟩ := sorted_texts V hp b2 b3
  obtain ⟨n, hn⟩ := sortedHeap_at (out := (arrOf st').map (·.2)) hoL
  have hnone : ∀ {h : Heap}, h.get? h.objs.size = none := fresh_size
  have hlt : ∀ b o, s.heap.get? b = some o → b < h'.objs.size := fun b o e => Heap.lt_size (hk b o e)
  refine h _ d tk h'.objs.size cs _ n ?_ c2 c3 ?_ hn fun b o e => ?_
  · rw [strsAre_er b1, List.map_map]; rfl
  · cases z : s.heap.get? h'.objs.size with
    | none => rfl
    | some o => exact absurd (hlt _ o z) (Nat.lt_irrefl _)
  · rw [sortedHeap_old (Nat.ne_of_lt (hlt b o e)) (by rw [Heap.size_push]; exact Nat.lt_succ_of_lt (hlt b o e))]
    exact Heap.get?_push_of_some _ (hk b o e)
end
section
variable {X : Cx} {A : Around} {σ : Hp} {E : Value → Shared → Prop}
theorem Rel.drawn {s : Shared} {d : Drawn} (R : Rel X σ s) : Rel X σ { s with drawn := d } := let ⟨p, r⟩ := R; ⟨p, r.base, r.keep, r.has, r.nodup, r.tabs, r.gens, r.os⟩
theorem CW_sortedSet {a : Addr} {x : List Nat} {Q : Value → Hp → Prop} (hh : A.handled = none) (hN : x.length < 64) (hm : (a, AO.pred (SetP X.prog X.w (upTo (fun i => tx [x.getD i 0]) x.length) x.length)) ∈ σ)
    (q : ∀ l (cs : List Nat), cs.Pairwise (· < ·) → (∀ c, c ∈ cs ↔ c ∈ x) → Q (.ref l) ((l, .seq "list" (cs.map fun c => T [c])) :: σ)) : CW X A E (.builtin "sorted") [.ref a] σ Q := fun vs' e s R => by
  obtain ⟨v, rfl, e1⟩ := no_arg e
  obtain rfl := er_ref e1
  obtain ⟨p, o, _, ho, hP⟩ := R.get hm
  refine sorted_set hh ho hP hN fun h' d tk l cs out n h1 h2 h3 hl hl' k => ⟨_, Rel.drawn (R.new (x := .seq "list" (cs.map fun c => T [c])) hl k hl' (fun p _ => ⟨out, n, rfl, h1⟩)), q l cs h2 h3⟩
end
theorem comp2_in (elt : Expr) (g0 : Comprehension) (target iter : Expr) (scope : Scope) (pos : Pos) (it acc : Value) (env : Env) :
    compTurn (.ListComp elt [g0, ⟨target, iter, [], 0⟩] scope pos) 1 it acc env = (standAt iter.pos >>= fun _ => pyNext it >>= fun r => match r with
      | none => pure (.done .next)
      | some v => letOwnedTupleGo target it v >>= fun _ => assign target env v >>= fun _ =>
        (eval elt env >>= fun x => call (.builtin "list.append") [acc, x] >>= fun _ => pure ()) >>= fun _ =>
          again (.compLoop (.ListComp elt [g0, ⟨target, iter, [], 0⟩] scope pos) 1 it acc env)) := by rfl
theorem comp2_out (elt t0 i0 target iter : Expr) (scope : Scope) (pos : Pos) (it acc : Value) (env : Env) :
    compTurn (.ListComp elt [⟨t0, i0, [], 0⟩, ⟨target, iter, [], 0⟩] scope pos) 0 it acc env = (standAt i0.pos >>= fun _ => pyNext it >>= fun r => match r with
      | none => pure (.done .next)
      | some v => letOwnedTupleGo t0 it v >>= fun _ => assign t0 env v >>= fun _ => eval iter env >>= fun x => standAt iter.pos >>= fun _ => foldedSetIterable iter env x >>= fun x =>
          holding [x] (pyIter x) >>= fun it' => runOwn (.compStart (.ListComp elt [⟨t0, i0, [], 0⟩, ⟨target, iter, [], 0⟩] scope pos) 1 it' acc env) env >>= fun _ =>
          again (.compLoop (.ListComp elt [⟨t0, i0, [], 0⟩, ⟨target, iter, [], 0⟩] scope pos) 0 it acc env)) := by rfl
section
variable {prog : Program} {w : World} {A : Around} {R : Result → Shared → Prop} {s : Shared}
theorem comp2_start {elt t0 i0 target iter : Expr} {scope : Scope} {pos : Pos} {it acc : Value} {env : Env}
    (h0 : codeAny (model prog w) A (.compLoop (.ListComp elt [⟨t0, i0, [], 0⟩, ⟨target, iter, [], 0⟩] scope pos) 1 it acc env) R s)
    (h : wpAny (model prog w) A (pyIter it) (fun it' s' => codeAny (model prog w) A (.compLoop (.ListComp elt [⟨t0, i0, [], 0⟩, ⟨target, iter, [], 0⟩] scope pos) 1 it' acc env) R s')
      (notedBy (model prog w) A env fun x s' => R (.error x) s') s) :
    codeAny (model prog w) A (.compStart (.ListComp elt [⟨t0, i0, [], 0⟩, ⟨target, iter, [], 0⟩] scope pos) 1 it acc env) R s := by
  refine codeAny_of_tree ?_
  show wpAny _ _ ((compStart (.ListComp elt [⟨t0, i0, [], 0⟩, ⟨target, iter, [], 0⟩] scope pos) 1 it acc env).onRaise (fun x => do noteFrame x env; standAt theWindowsPlace)) _ _ s
  refine wpAny_notedAt ?_
  unfold compStart
  show wpAny _ _ (ask >>= _) _ _ s
  refine wpAny_bind (wpAny_askSetting (wpAny_ite ?_))
  split
  · first
      | exact wpAny_bind (wpAny_pure (wpAny_pure (And.intro rfl h0)))
      | exact wpAny_pure (And.intro rfl h0)
  · first
      | exact wpAny_bind (wpAny_rule (wpAny_bind (wpAny_standAt (wpAny_bind (wpAny_mono h (fun it' s' h' => wpAny_pure (And.intro rfl h')) fun _ _ x => x)))))
      | (refine wpAny_bind (wpAny_rule ?_); show wpAny _ _ (standAt iter.pos >>= _) _ _ s; exact wpAny_bind (wpAny_standAt (wpAny_bind (wpAny_mono h (fun it' s' h' => wpAny_pure (And.intro rfl h')) fun _ _ x => x))))
end
section
variable {X : Cx} {A : Around} {α β γ δ : Type} {σ : Hp} {E : Value → Shared → Prop} {env : Env}
theorem loop2_in {target elt iter : Expr} {g0 : Comprehension} {scope : Scope} {pos : Pos} {it acc : Addr} {R : Result → Shared → Prop} (J : Nat → Hp → Prop) (fin : Hp → Prop) (hR : ∀ σ' s', Rel X σ' s' → fin σ' → R (.ok .next) s')
    (turn : ∀ n σ, J n σ → CTurn X A env target elt it acc J fin n σ) (n : Nat) (h : J n σ) (s : Shared) (r : Rel X σ s) :
    codeAny (model X.prog X.w) A (.compLoop (.ListComp elt [g0, ⟨target, iter, [], 0⟩] scope pos) 1 (.ref it) (.ref acc) env) R s := by
  refine codeAny_loop rfl (fun n s => Ends X J n s) (fun n s ⟨σ, r, hJ⟩ => ?_) n ⟨σ, r, h⟩
  show wpAny _ _ ((compTurn (.ListComp elt [g0, ⟨target, iter, [], 0⟩] scope pos) 1 (.ref it) (.ref acc) env).onRaise (fun x => do noteFrame x env; theTreesLotGoes x)) _ _ s
  refine wpAny_noted ?_
  rw [comp2_in]
  refine wpAny_bind (wpAny_standAt (wpAny_bind (wpAny_mono (turn n σ hJ s r) (fun ov s₁ ⟨σ₁, R₁, h₁⟩ => ?_) fun _ _ x => x.elim)))
  cases ov with
  | none => obtain ⟨σ', hp, q⟩ := h₁; exact wpAny_pure (hR _ _ (hp _ R₁) q)
  | some v =>
    refine wpAny_bind (wpAny_mono (h₁ v rfl s₁ R₁) (fun _ s₂ ⟨σ₂, R₂, h₂⟩ => ?_) fun _ _ x => x.elim)
    refine wpAny_bind (wpAny_mono (h₂ v rfl s₂ R₂) (fun _ s₃ ⟨σ₃, R₃, h₃⟩ => ?_) fun _ _ x => x.elim)
    refine wpAny_bind (wpAny_bind (wpAny_mono (h₃ s₃ R₃) (fun x s₄ ⟨σ₄, R₄, h₄⟩ => ?_) fun _ _ x => x.elim))
    refine wpAny_bind (wpAny_mono (h₄ [.ref acc, x] rfl s₄ R₄) (fun _ s₅ ⟨σ₅, R₅, m, σ', hp, hm, hj⟩ => ?_) fun _ _ x => x.elim)
    exact wpAny_pure (wpAny_pure ⟨rfl, m, hm, σ', hp _ R₅, hj⟩)
inductive CInn (X : Cx) (A : Around) (env : Env) (target elt : Expr) (acc : Addr) (J : Nat → Hp → Prop) (n : Nat) (i : Value) (σ₅ : Hp) : Prop
  | mk (it2 : Addr) (J1 : Nat → Hp → Prop) (fin1 : Hp → Prop) (n1 : Nat) (σ' : Hp) (ei : i = .ref it2) (hself : ∀ s, Rel X σ₅ s → ∀ (K : Value → Shared → Prop) E', K (.ref it2) s → wpAny (model X.prog X.w) A (pyIter (.ref it2)) K E' s) (him : Im X σ₅ σ') (hj1 : J1 n1 σ')
    (turn1 : ∀ n τ, J1 n τ → CTurn X A env target elt it2 acc J1 fin1 n τ) (hfin1 : ∀ τ, fin1 τ → LessI X J n τ)
noncomputable def CTurn2 (X : Cx) (A : Around) (env : Env) (t0 target iter elt : Expr) (it acc : Addr) (J : Nat → Hp → Prop) (fin : Hp → Prop) (n : Nat) (σ : Hp) : Prop :=
  NX X A F0 it σ (fun r σ₁ => match r with
    | none => ∃ σ', Im X σ₁ σ' ∧ fin σ'
    | some v => LG X A F0 t0 it v σ₁ (fun σ₂ => AS X A env F0 t0 v σ₂ (fun σ₃ => EV X A env F0 iter σ₃ (fun x σ₄ => PI X A F0 x σ₄ (CInn X A env target elt acc J n)))))
inductive LessR (X : Cx) (J : Nat → Hp → Prop) (n : Nat) (s : Shared) : Prop
  | mk (m : Nat) (σ' : Hp) (R : Rel X σ' s) (hm : m < n) (hj : J m σ')
theorem loop2_out {t0 i0 target elt iter : Expr} {scope : Scope} {pos : Pos} {it acc : Addr} {R : Result → Shared → Prop} (hs : ∀ x, foldedSetIterable iter env x = pure x) (J : Nat → Hp → Prop) (fin : Hp → Prop) (hR : ∀ σ' s', Rel X σ' s' → fin σ' → R (.ok .next) s')
    (turn : ∀ n σ, J n σ → CTurn2 X A env t0 target iter elt it acc J fin n σ) (n : Nat) (h : J n σ) (s : Shared) (r : Rel X σ s) :
    codeAny (model X.prog X.w) A (.compLoop (.ListComp elt [⟨t0, i0, [], 0⟩, ⟨target, iter, [], 0⟩] scope pos) 0 (.ref it) (.ref acc) env) R s := by
  refine codeAny_loop rfl (fun n s => Ends X J n s) (fun n s ⟨σ, r, hJ⟩ => ?_) n ⟨σ, r, h⟩
  show wpAny _ _ ((compTurn (.ListComp elt [⟨t0, i0, [], 0⟩, ⟨target, iter, [], 0⟩] scope pos) 0 (.ref it) (.ref acc) env).onRaise (fun x => do noteFrame x env; theTreesLotGoes x)) _ _ s
  refine wpAny_noted ?_
  rw [comp2_out]
  refine wpAny_bind (wpAny_standAt (wpAny_bind (wpAny_mono (turn n σ hJ s r) (fun ov s₁ ⟨σ₁, R₁, h₁⟩ => ?_) fun _ _ x => x.elim)))
  cases ov with
  | none => obtain ⟨σ', hp, q⟩ := h₁; exact wpAny_pure (hR _ _ (hp _ R₁) q)
  | some v =>
    refine wpAny_bind (wpAny_mono (h₁ v rfl s₁ R₁) (fun _ s₂ ⟨σ₂, R₂, h₂⟩ => ?_) fun _ _ x => x.elim)
    refine wpAny_bind (wpAny_mono (h₂ v rfl s₂ R₂) (fun _ s₃ ⟨σ₃, R₃, h₃⟩ => ?_) fun _ _ x => x.elim)
    refine wpAny_bind (wpAny_mono (h₃ s₃ R₃) (fun x s₄ ⟨σ₄, R₄, h₄⟩ => ?_) fun _ _ x => x.elim)
    refine wpAny_bind (wpAny_standAt (wpAny_bind (wpAny_of_eq (hs x) (wpAny_bind (wpAny_holding (wpAny_mono (h₄ x rfl s₄ R₄) (fun i s₅ ⟨σ₅, R₅, it2, J1, fin1, n1, σ', ei, hself, him, hj1, turn1, hfin1⟩ => ?_) fun _ _ x => x.elim))))))
    obtain rfl := er_ref ei
    have lp : ∀ s₆, Rel X σ₅ s₆ → codeAny (model X.prog X.w) A (.compLoop (.ListComp elt [⟨t0, i0, [], 0⟩, ⟨target, iter, [], 0⟩] scope pos) 1 (.ref it2) (.ref acc) env) (fun r s' => match r with | .ok f => LessR X J n s' | .error e => False) s₆ := fun s₆ R₆ =>
      loop2_in J1 fin1 (fun τ s' R' hf => let ⟨m, σ'', h1, h2, h3⟩ := hfin1 τ hf; ⟨m, σ'', h1 _ R', h2, h3⟩) turn1 n1 hj1 s₆ (him _ R₆)
    refine wpAny_bind (wpAny_runOwn (codeAny_mono (comp2_start (lp s₅ R₅) (hself s₅ R₅ _ _ (lp s₅ R₅))) fun r s' hr => ?_))
    cases r with
    | ok f => obtain ⟨m, σ'', R'', hm, hj⟩ := hr; exact wpAny_pure ⟨rfl, m, hm, σ'', R'', hj⟩
    | error e => exact hr.elim
set_option tactic.hygienic true in
theorem comp_G {elt : Expr} {g : Comprehension} {gs : List Comprehension} {scope : Scope} {cl : List (Str × Addr)} {pos p : Pos} {use : Option (Value → Sem Unit)} {Q : Value → Shared → Prop} {s : Shared} (hclos : closureFor scope env = pure cl) (hk : scope.kind = .function) (hn : ∀ x ∈ scope.names, x.2 = .local → scope.names.lookup x.1 = some .local)
    (hs : ∀ x, foldedSetIterable g.iter env x = pure x) (R : Rel X σ s)
    (h : EV X A env E g.iter σ (fun x σ₁ => PI X A E x σ₁ (fun i σ₂ => ∀ D C, CK scope.names cl ((C, .ns []) :: (D, .seq "list" []) :: σ₂) (fun cs σ₃ => ∃ it, i = .ref it ∧ ∀ s, Rel X σ₃ s → codeAny (model X.prog X.w) A (.compStart (.ListComp elt (g :: gs) scope pos) 0 (.ref it) (.ref D) (compEnvC scope cs C env)) (compPost (model X.prog X.w) A E use Q (.ref D) C) s)))) :
    wpAny (model X.prog X.w) A (comprehension (.ListComp elt (g :: gs) scope pos) scope env p (newList []) false (eval g.iter env) use) Q E s := by
  refine wpAny_comprehension_free (g := g) (gs := gs) rfl hs hclos hk hn ?_
  refine h.use R fun x s₁ σ₁ R₁ h₁ => (h₁ x rfl).use R₁ fun i s₂ σ₂ R₂ h₂ => ?_
  refine wpAny_newObj_type ?_
  have R₃ : Rel X ((s₂.heap.objs.size, .seq "list" []) :: σ₂) { s₂ with heap := s₂.heap.push { cls := .type "list", data := .seq ([] : List Value).toArray } } := push_new (x := .seq "list" []) (tk := s₂.toks) R₂ rfl (fun p _ => ⟨_, 0, rfl, rfl⟩)
  have ck : ∀ (names : List (Str × NameKind)) (cs : List (Str × Addr)) (σ : Hp) (K K' : List (Str × Addr) → Hp → Prop), (∀ cs σ, K cs σ → K' cs σ) → CK names cs σ K → CK names cs σ K' := by
    intro names
    induction names with
    | nil => exact fun cs σ K K' k h => k _ _ h
    | cons a r ih =>
      intro cs σ K K' k h
      obtain ⟨n, kd⟩ := a
      unfold CK at h ⊢
      split at h
      · rename_i hk; (first | refine ifP hk ?_ | rw [if_pos hk]); exact fun c => ih _ _ _ _ k (h c)
      · rename_i hk; (first | refine ifN hk ?_ | rw [if_neg hk]); exact ih _ _ _ _ k h
  refine wpAny_mono (newFunctionEnv_W (E := E) (A := A) (bs := []) (Q := fun cenv σ₄ => ∃ C cs, cenv = newEnv scope C env.globals cs env.qual none .none (some env) 0 ∧ ∃ it, er i = .ref it ∧ ∀ s, Rel X σ₄ s → codeAny (model X.prog X.w) A (.compStart (.ListComp elt (g :: gs) scope pos) 0 (.ref it) (.ref s₂.heap.objs.size) (compEnvC scope cs C env)) (compPost (model X.prog X.w) A E use Q (.ref s₂.heap.objs.size) C) s)
    rfl (fun C => ck _ _ _ _ _ (fun cs σ' hh => show BD X A _ E [] _ _ from ⟨C, cs, rfl, hh⟩) (h₂ s₂.heap.objs.size C)) _ R₃) (fun cenv s₄ ⟨σ₄, R₄, C, cs, e1, it, ei, hc⟩ => ?_) fun _ _ x => x
  have e1 : cenv = newEnv scope C env.globals cs env.qual none .none (some env) 0 := e1
  subst e1
  obtain rfl := er_ref ei
  exact hc s₄ R₄
end
section
variable {X : Cx} {A : Around} {α β γ δ : Type} {σ : Hp} {E : Value → Shared → Prop} {env : Env}
theorem put_x1 {x1 x2 : Str} {v : Value} {es : List (Str × Value)} (h : es = [] ∨ (∃ v, es = [(x1, v)]) ∨ ∃ v w, es = [(x1, v), (x2, w)]) : ∃ es', Put x1 v es es' ∧ (x1, v) ∈ es' ∧ (es' = [(x1, v)] ∨ ∃ w, es' = [(x1, v), (x2, w)]) := by
  rcases h with rfl | ⟨w, rfl⟩ | ⟨w, u, rfl⟩
  · exact ⟨_, .nil, .head _, .inl rfl⟩
  · exact ⟨_, .here, .head _, .inl rfl⟩
  · exact ⟨_, .here, .head _, .inr ⟨u, rfl⟩⟩
theorem put_x2 {x1 x2 : Str} (hne : (x1 == x2) = false) {u v : Value} {es : List (Str × Value)} (h : es = [(x1, u)] ∨ ∃ w, es = [(x1, u), (x2, w)]) : Put x2 v es [(x1, u), (x2, v)] := by
  rcases h with rfl | ⟨w, rfl⟩
  · exact .there hne .nil
  · exact .there hne .here
noncomputable def accOf (zs : Nat → List Value) (g : Nat → Nat → Value) (i : Nat) : List Value := ((List.range i).map fun k => (List.range (zs k).length).map (g k)).flatten
theorem accOf_succ (zs : Nat → List Value) (g : Nat → Nat → Value) (i : Nat) : accOf zs g (i + 1) = accOf zs g i ++ (List.range (zs i).length).map (g i) := by
  unfold accOf
  rw [List.range_succ, List.map_append, List.flatten_append]
  simp
inductive C2inv (xs : List Value) (zs : Nat → List Value) (g : Nat → Nat → Value) (x1 x2 : Str) (it l C D : Addr) (σ₁ : Hp) (n : Nat) (σ' : Hp) : Prop
  | mk (i : Nat) (es : List (Str × Value)) (e : n = xs.length + 1 - i) (hi : i ≤ xs.length) (e' : σ' = (it, LI l i) :: (C, .ns es) :: (D, .seq "list" (accOf zs g i)) :: σ₁) (hes : es = [] ∨ (∃ v, es = [(x1, v)]) ∨ ∃ v w, es = [(x1, v), (x2, w)])
inductive C2inn (zs : Nat → List Value) (g : Nat → Nat → Value) (x1 x2 : Str) (v : Value) (i : Nat) (it it2 l l2 C D : Addr) (σ₁ : Hp) (m : Nat) (τ : Hp) : Prop
  | mk (j : Nat) (es'' : List (Str × Value)) (e : m = (zs i).length + 1 - j) (hj : j ≤ (zs i).length) (e' : τ = (it2, LI l2 j) :: (l2, .seq "list" (zs i)) :: (C, .ns es'') :: (it, LI l (i + 1)) :: (D, .seq "list" (accOf zs g i ++ (List.range j).map (g i))) :: σ₁) (hes : es'' = [(x1, v)] ∨ ∃ w, es'' = [(x1, v), (x2, w)])
inductive Comp2K (X : Cx) (A : Around) (env : Env) (E : Value → Shared → Prop) (scope : Scope) (cl : List (Str × Addr)) (elt i2 : Expr) (x1 x2 y : Str) (Q : Flow → Hp → Prop) (v : Value) (σ₁ : Hp) : Prop
  | mk (l : Addr) (xs : List Value) (zs : Nat → List Value) (g : Nat → Nat → Value) (ev : v = .ref l) (hl : (l, AO.seq "list" xs) ∈ σ₁) (hz : ∀ i, i ≤ xs.length → (accOf zs g i).length ≤ 100000)
    (hE2 : ∀ C es i (hi : i < xs.length) τ, (x1, xs[i]) ∈ es → EV X A (compEnvC scope cl C env) F0 i2 ((C, .ns es) :: τ) (fun v σ₂ => ∃ l2, v = .ref l2 ∧ σ₂ = (l2, .seq "list" (zs i)) :: (C, .ns es) :: τ))
    (hE : ∀ C es i j (hj : j < (zs i).length) τ, i < xs.length → (x2, (zs i)[j]) ∈ es → EV X A (compEnvC scope cl C env) F0 elt ((C, .ns es) :: τ) (fun y σ₂ => y = g i j ∧ σ₂ = (C, .ns es) :: τ))
    (hq : ∀ D R, ST X A env E y (.ref D) ((D, .seq "list" (accOf zs g xs.length)) :: (σ₁ ++ R)) (Lft (fun σ' => σ' ++ R) (Q .next)))
theorem EX_AssignComp2 {y : Str} {py spos : Pos} {elt i1 i2 : Expr} {x1 x2 : Str} {p1 p2 : Pos} {scope : Scope} {pos : Pos} (cl : List (Str × Addr)) {Q : Flow → Hp → Prop} (hh : A.handled = none)
    (hsw : swapsWith (.ListComp elt [⟨.Name x1 p1, i1, [], 0⟩, ⟨.Name x2 p2, i2, [], 0⟩] scope pos) (some (.Name y py)) spos.line env = pure true) (c : CompSc env scope cl)
    (hs1 : ∀ x, foldedSetIterable i1 env x = pure x) (hs2 : ∀ C x, foldedSetIterable i2 (compEnvC scope cl C env) x = pure x) (hx1 : scope.names.lookup x1 = some .local) (hx2 : scope.names.lookup x2 = some .local) (hne : (x1 == x2) = false)
    (h : EV X A env E i1 σ (Comp2K X A env E scope cl elt i2 x1 x2 y Q)) :
    EX X A env E (.Assign [.Name y py] (.ListComp elt [⟨.Name x1 p1, i1, [], 0⟩, ⟨.Name x2 p2, i2, [], 0⟩] scope pos) spos) σ Q := fun s R => by
  have hsz := sizeLine_eq
  rw [exec_Assign_Name_used _ _ _ _ hsw]
  refine wpAny_bind (wpAny_standAt (wpAny_bind ?_))
  show wpAny _ A (do let _ ← comprehension (.ListComp elt [⟨.Name x1 p1, i1, [], 0⟩, ⟨.Name x2 p2, i2, [], 0⟩] scope pos) scope env _ (newList []) false (eval i1 env) (some (assign (.Name y py) env))) _ _ s
  refine wpAny_bind (wpAny_mono (comp_G (g := ⟨.Name x1 p1, i1, [], 0⟩) (gs := [⟨.Name x2 p2, i2, [], 0⟩]) (use := some (assign (.Name y py) env)) (Q := fun _ s' => Ends X Q .next s') c.clos c.kind c.names hs1 R (h.mono fun v σ₁ ⟨l, xs, zs, g, ev, hl, hz, hE2, hE, hq⟩ => ?_)) (fun _ s' q => wpAny_pure (wpAny_pure q)) fun _ _ e => e)
  subst ev
  refine PI_list hl fun it D C => CK_plain c.nocell ⟨it, rfl, fun s R => ?_⟩
  have hkf : (compEnvC scope cl C env).scope.kind = .function := c.kind
  let J : Nat → Hp → Prop := C2inv xs zs g x1 x2 it l C D σ₁
  let fin : Hp → Prop := fun σ' => ∃ es, σ' = (C, .ns es) :: (D, .seq "list" (accOf zs g xs.length)) :: σ₁
  have lp : ∀ s, Rel X ((C, .ns []) :: (D, .seq "list" []) :: (it, LI l 0) :: σ₁) s → codeAny (model X.prog X.w) A (.compLoop (.ListComp elt [⟨.Name x1 p1, i1, [], 0⟩, ⟨.Name x2 p2, i2, [], 0⟩] scope pos) 0 (.ref it) (.ref D) (compEnvC scope cl C env)) (compPost (model X.prog X.w) A E (some (assign (.Name y py) env)) (fun _ s' => Ends X Q .next s') (.ref D) C) s := fun s R => by
    have hend : ∀ τ s', Rel X τ s' → fin τ → compPost (model X.prog X.w) A E (some (assign (.Name y py) env)) (fun _ s' => Ends X Q .next s') (.ref D) C (.ok .next) s' := fun τ s' R' hf => by
      obtain ⟨es, rfl⟩ := hf
      exact swap_post (hq D) R'
    refine loop2_out (hs2 C) J fin hend ?_ (xs.length + 1) ⟨0, [], rfl, Nat.zero_le _, rfl, .inl rfl⟩ s (R.pick (.take ex2 .refl))
    rintro n _ ⟨i, es, rfl, hi, rfl, hes⟩
    unfold CTurn2
    refine NX_list hh (.tail _ (.tail _ hl)) (fun v hv => ?_) fun hv => ?_
    · obtain ⟨hlt, rfl⟩ := List.getElem?_eq_some_iff.mp hv
      obtain ⟨es', hput, hm1, hes'⟩ := put_x1 (v := xs[i]) hes
      refine LG_Name (AS_Name (ST_local hkf (lookup_relabel_local hx1) ch1 hput ?_))
      refine W_pick (.take ex1 .refl) ((hE2 C es' i hlt _ hm1).mono ?_)
      rintro v _ ⟨l2, rfl, rfl⟩
      refine PI_list (.head _) fun it2 => ?_
      refine ⟨it2, C2inn zs g x1 x2 xs[i] i it it2 l l2 C D σ₁,
        fun τ => ∃ es'', τ = (l2, .seq "list" (zs i)) :: (C, .ns es'') :: (it, LI l (i + 1)) :: (D, .seq "list" (accOf zs g i ++ (List.range (zs i).length).map (g i))) :: σ₁ ∧ (es'' = [(x1, xs[i])] ∨ ∃ w, es'' = [(x1, xs[i]), (x2, w)]), (zs i).length + 1, _, rfl, fun s R K E' k => PI_self R (.head _) k, fun _ R => R, ⟨0, es', rfl, Nat.zero_le _, by simp, hes'⟩, ?_, ?_⟩
      · rintro m _ ⟨j, es'', rfl, hj, rfl, hes''⟩
        unfold CTurn
        refine NX_list hh (.head _) (fun v hv => ?_) fun hv => ?_
        · obtain ⟨hjt, rfl⟩ := List.getElem?_eq_some_iff.mp hv
          refine LG_Name (AS_Name (ST_local hkf (lookup_relabel_local hx2) ch2 (put_x2 hne hes'') ?_))
          refine W_pick (.take ex2 .refl) ((hE C _ i j hjt _ hlt me1).mono ?_)
          rintro v _ ⟨rfl, rfl⟩
          have hlen := hz (i + 1) hlt
          rw [accOf_succ, List.length_append, List.length_map, List.length_range] at hlen
          refine CW_append ch4 (by simp; omega) ?_
          refine ⟨(zs i).length + 1 - (j + 1), _, Pick.im (.take ex1 (.take ex1 .refl)), dec1 hjt, j + 1, [(x1, xs[i]), (x2, (zs i)[j])], rfl, hjt, ?_, .inr ⟨(zs i)[j], rfl⟩⟩
          rw [List.range_succ, List.map_append, ← List.append_assoc]
          rfl
        · have e : j = (zs i).length := Nat.le_antisymm hj (by simpa using hv)
          subst e
          exact ⟨_, fun _ R => R, es'', rfl, hes''⟩
      · rintro τ ⟨es'', rfl, hes''⟩
        refine ⟨xs.length + 1 - (i + 1), _, Pick.im (.take ex2 (.take ex1 (.drop .refl))), dec1 hlt, i + 1, es'', rfl, hlt, by rw [accOf_succ], ?_⟩
        rcases hes'' with h | ⟨w, h⟩
        · exact .inr (.inl ⟨_, h⟩)
        · exact .inr (.inr ⟨_, w, h⟩)
    · have e : i = xs.length := Nat.le_antisymm hi (by simpa using hv)
      subst e
      exact ⟨_, fun _ R => R, es, rfl⟩
  exact codeAny_compStart_list (lp s R) (PI_self R me2 (lp s R))
inductive RCinv (J : Nat → List Value → Hp → Prop) (it tc C D : Addr) (a c : Int) (n m : Nat) (σ' : Hp) : Prop
  | mk (i : Nat) (ys : List Value) (τ : Hp) (tv : Option Value) (e : m = n + 1 - i) (hi : i ≤ n) (e' : σ' = (it, RI (a + (i : Nat) * c) ((n : Int) - (i : Nat)) c) :: (tc, .cell tv) :: (C, .ns []) :: (τ ++ [(D, .seq "list" ys)])) (hJ : J i ys τ) (hl : ys.length = i)
inductive RCfin (J : Nat → List Value → Hp → Prop) (tc C D : Addr) (n : Nat) (σ' : Hp) : Prop
  | mk (ys : List Value) (τ : Hp) (tv : Option Value) (hJ : J n ys τ) (hl : ys.length = n) (e : σ' = (tc, .cell tv) :: (C, .ns []) :: (τ ++ [(D, .seq "list" ys)]))
inductive CompRCK (X : Cx) (A : Around) (env : Env) (scope : Scope) (cl : List (Str × Addr)) (x : Str) (elt : Expr) (Q : Value → Hp → Prop) (v : Value) (σ₁ : Hp) : Prop
  | mk (r : Addr) (a b c : Int) (n : Nat) (J : Nat → List Value → Hp → Prop) (ev : v = .ref r) (hr : (r, AO.rng a b c) ∈ σ₁) (hsm : Builtin.Range.small a b c = true) (hnn : Builtin.Range.rangeSize a b c = (n : Nat)) (hz : n ≤ 100000) (h0 : J 0 [] σ₁)
    (he : ∀ C tc R i (hi : i < n) ys τ, J i ys τ → ys.length = i → EV X A (compEnvC scope ((x, tc) :: cl) C env) F0 elt ((tc, .cell (some (I (a + (i : Nat) * c)))) :: (C, .ns []) :: (τ ++ R)) (fun y => Lft (fun τ' => (tc, .cell (some (I (a + (i : Nat) * c)))) :: (C, .ns []) :: (τ' ++ R)) (J (i + 1) (ys ++ [y]))))
    (hq : ∀ D ys τ, J n ys τ → ys.length = n → Q (.ref D) ((D, .seq "list" ys) :: τ))
theorem EV_CompRC {x : Str} {px : Pos} {elt iter : Expr} {scope : Scope} {pos : Pos} (cl : List (Str × Addr)) {Q : Value → Hp → Prop} (hh : A.handled = none) (hclos : closureFor scope env = pure cl) (hk : scope.kind = .function) (hn : ∀ x ∈ scope.names, x.2 = .local → scope.names.lookup x.1 = some .local)
    (hs : ∀ x, foldedSetIterable iter env x = pure x) (hck : ∀ (τ : Hp) (K : List (Str × Addr) → Hp → Prop), (∀ tc, K ((x, tc) :: cl) ((tc, .cell none) :: τ)) → CK scope.names cl τ K) (hx : ∀ tc C, (compEnvC scope ((x, tc) :: cl) C env).kindOf x = some .cell)
    (h : EV X A env E iter σ (CompRCK X A env scope cl x elt Q)) :
    EV X A env E (.ListComp elt [⟨.Name x px, iter, [], 0⟩] scope pos) σ Q := fun s R => by
  have hsz := sizeLine_eq
  rw [eval_ListComp]
  refine comp_G (g := ⟨.Name x px, iter, [], 0⟩) (gs := []) (use := none) hclos hk hn hs R (h.mono fun v σ₁ ⟨r, a, b, c, n, J, ev, hr, hsm, hnn, hz, h0, he, hq⟩ => ?_)
  subst ev
  refine PI_rng hr hsm fun it D C => hck _ _ fun tc => ⟨it, rfl, fun s R => ?_⟩
  rw [hnn] at R
  have lp : ∀ s, Rel X ((tc, .cell none) :: (C, .ns []) :: (D, .seq "list" []) :: (it, RI a (n : Nat) c) :: σ₁) s → codeAny (model X.prog X.w) A (.compLoop (.ListComp elt [⟨.Name x px, iter, [], 0⟩] scope pos) 0 (.ref it) (.ref D) (compEnvC scope ((x, tc) :: cl) C env)) (compPost (model X.prog X.w) A E none (fun a s' => Ends X Q (er a) s') (.ref D) C) s := fun s R => by
    have hend : ∀ σ' s', Rel X σ' s' → RCfin J tc C D n σ' → compPost (model X.prog X.w) A E none (fun a s' => Ends X Q (er a) s') (.ref D) C (.ok .next) s' := fun σ' s' R' hf => by
      obtain ⟨ys, τ', tv, hJ, hl, rfl⟩ := hf
      have R2 : Rel X ((C, .ns []) :: (D, .seq "list" ys) :: τ') s' := (R'.pick (.drop .refl)).perm (.cons _ List.perm_append_comm)
      obtain ⟨m, hn, hk⟩ := R2.nsOut
      exact ⟨m, hn, fun h' hs' => ⟨_, hk h' hs', hq D ys τ' hJ hl⟩⟩
    refine compLoop_W (RCinv J it tc C D a c n)
      (RCfin J tc C D n) hend ?_ (n + 1) ⟨0, [], σ₁, none, rfl, Nat.zero_le _, rfl, h0, rfl⟩ s (R.perm ?_)
    · rintro m _ ⟨i, ys, τ, tv, rfl, hi, rfl, hJ, hl⟩
      unfold CTurn
      refine NX_rng hh (fun hlt => ?_) (fun hle => ?_)
      · have hlt' : i < n := by (first | lia | omega)
        have e1 : a + (i : Int) * c + c = a + ((i + 1 : Nat) : Int) * c := by rw [Int.natCast_add, Int.add_mul]; simp; (first | lia | omega)
        have e2 : (n : Int) - i - 1 = (n : Int) - ((i + 1 : Nat) : Int) := by (first | lia | omega)
        ((first | (refine rwG e1 ?_; try (with_reducible rfl)) | rw [e1]); (first | (refine rwG e2 ?_; try (with_reducible rfl)) | rw [e2]))
        refine LG_Name (AS_Name (ST_cell (c := tc) hk (hx tc C) (by simp [compEnvC, List.lookup]) ch1 ?_))
        refine W_perm (σ' := (tc, .cell (some (I (a + (i : Nat) * c)))) :: (C, .ns []) :: (τ ++ [(D, .seq "list" ys), (it, RI (a + ((i + 1 : Nat) : Int) * c) ((n : Int) - ((i + 1 : Nat) : Int)) c)])) ?_ ?_
        · have h1 : ((it, RI (a + ((i + 1 : Nat) : Int) * c) ((n : Int) - ((i + 1 : Nat) : Int)) c) :: (tc, AO.cell (some (I (a + (i : Nat) * c)))) :: (C, AO.ns []) :: (τ ++ [(D, AO.seq "list" ys)])).Perm (((tc, AO.cell (some (I (a + (i : Nat) * c)))) :: (C, AO.ns []) :: (τ ++ [(D, AO.seq "list" ys)])) ++ [(it, RI (a + ((i + 1 : Nat) : Int) * c) ((n : Int) - ((i + 1 : Nat) : Int)) c)]) := List.perm_append_comm (l₁ := [(it, RI (a + ((i + 1 : Nat) : Int) * c) ((n : Int) - ((i + 1 : Nat) : Int)) c)])
          refine h1.trans ?_
          simp
        refine (he C tc _ i hlt' ys τ hJ hl).mono fun y σ₂ ⟨τ', hp, hJ'⟩ => ?_
        refine CW_im hp.im (CW_append (l := D) (xs := ys) (v := y) (.there (.there (Chg_app .here τ'))) (by (first | lia | omega)) ?_)
        refine ⟨n + 1 - (i + 1), (it, RI (a + ((i + 1 : Nat) : Int) * c) ((n : Int) - ((i + 1 : Nat) : Int)) c) :: (tc, .cell (some (I (a + (i : Nat) * c)))) :: (C, .ns []) :: (τ' ++ [(D, .seq "list" (ys ++ [y]))]), Im.perm ?_, dec1 hlt', i + 1, ys ++ [y], τ', _, rfl, hlt', rfl, hJ', by simp [hl]⟩
        have h1 : ((it, RI (a + ((i + 1 : Nat) : Int) * c) ((n : Int) - ((i + 1 : Nat) : Int)) c) :: (tc, AO.cell (some (I (a + (i : Nat) * c)))) :: (C, AO.ns []) :: (τ' ++ [(D, AO.seq "list" (ys ++ [y]))])).Perm (((tc, AO.cell (some (I (a + (i : Nat) * c)))) :: (C, AO.ns []) :: (τ' ++ [(D, AO.seq "list" (ys ++ [y]))])) ++ [(it, RI (a + ((i + 1 : Nat) : Int) * c) ((n : Int) - ((i + 1 : Nat) : Int)) c)]) := List.perm_append_comm (l₁ := [(it, RI (a + ((i + 1 : Nat) : Int) * c) ((n : Int) - ((i + 1 : Nat) : Int)) c)])
        refine (h1.trans ?_).symm
        simp
      · have e : i = n := by (first | lia | omega)
        subst e
        exact ⟨_, fun _ R => R, ys, τ, tv, hJ, hl, rfl⟩
    · have h1 : (((tc, AO.cell none) :: (C, AO.ns []) :: (D, AO.seq "list" []) :: (it, RI a (n : Nat) c) :: σ₁) : Hp).Perm ((it, RI (a + ((0 : Nat) : Int) * c) ((n : Int) - ((0 : Nat) : Int)) c) :: (tc, AO.cell none) :: (C, AO.ns []) :: (D, AO.seq "list" []) :: σ₁) := by
        have e1 : a + ((0 : Nat) : Int) * c = a := by simp
        have e2 : (n : Int) - ((0 : Nat) : Int) = n := by simp
        ((first | (refine rwG e1 ?_; try (with_reducible rfl)) | rw [e1]); (first | (refine rwG e2 ?_; try (with_reducible rfl)) | rw [e2]))
        exact ((((List.Perm.swap _ _ _).cons _).cons _).trans ((List.Perm.swap _ _ _).cons _)).trans (List.Perm.swap _ _ _)
      refine h1.trans (.cons _ (.cons _ (.cons _ ?_)))
      exact List.perm_append_comm (l₁ := [(D, AO.seq "list" [])])
  exact codeAny_compStart_list (lp s R) (PI_self_obj R me3 (lp s R))
end
noncomputable abbrev tri (x y z : Int) (t u v : Tok) (n : Nat) : Obj := { cls := .type "tuple", data := .seq #[.int x t, .int y u, .int z v] n }
noncomputable def lt3 (a b : Int × Int × Int) : Bool := if a.1 == b.1 then (if a.2.1 == b.2.1 then decide (a.2.2 < b.2.2) else decide (a.2.1 < b.2.1)) else decide (a.1 < b.1)
section
variable {prog : Program} {w : World} {A : Around} {E : Value → Shared → Prop} {s : Shared}
theorem richLt_int {a b : Int} {t u : Tok} {Q : Value → Shared → Prop} (h : Q (.bool (decide (a < b))) s) : wpAny (model prog w) A (richCompare .Lt (.int a t) (.int b u)) Q E s :=
  CmpOf.ints_lt (prog := prog) (w := w) (A := A) (P := fun i v => ∃ t, v = .int (if i = 0 then a else b) t) (fun i => if i = 0 then a else b) (fun i v h => h) 0 1 _ _ s Q E ⟨t, rfl⟩ ⟨u, rfl⟩ h
theorem tuple_lt {a b : Addr} {x y z x' y' z' : Int} {t u v t' u' v' : Tok} {n n' : Nat} {Q : Value → Shared → Prop} (ha : s.heap.get? a = some (tri x y z t u v n)) (hb : s.heap.get? b = some (tri x' y' z' t' u' v' n')) (hu : A.units < cLine)
    (h : Q (.bool (lt3 (x, y, z) (x', y', z'))) s) : wpAny (model prog w) A (richCompare .Lt (.ref a) (.ref b)) Q E s := by
  have hTa : s.TypeIs (.ref a) "tuple" := ⟨_, ha, rfl⟩
  have hTb : s.TypeIs (.ref b) "tuple" := ⟨_, hb, rfl⟩
  refine wpAny_richCompare_same_room hTa hTb PySem.F.slot_tuple_lt (wpAny_call_entry PySem.F.slot_tuple_lt hTa PySem.F.entry_tuple_lt ?_ (PySem.F.args_tuple_lt_2 _ _)) hu
  unfold Builtin.«tuple.__lt__»
  show wpAny _ _ (slotArgs "__lt__" 1 ⟨[.ref a, .ref b], []⟩ >>= _) _ _ s
  refine wpAny_bind (m := slotArgs "__lt__" 1 _) (wpAny_pure ?_)
  dsimp only
  refine wpAny_bind (wpAny_isInstance (T := "tuple") (b := true) hTb (by rw [isSubtype_type]; kernel_rfl) ?_)
  (first | refine ifN (by decide) ?_ | rw [if_neg (by decide)])
  unfold Builtin.Tuple.tupleItemsOf
  refine wpAny_bind (wpAny_bind (wpAny_seqItems ha rfl (wpAny_pure ?_)))
  refine wpAny_bind (wpAny_bind (wpAny_seqItems hb rfl (wpAny_pure ?_)))
  have hz : ((#[Value.int x t, .int y u, .int z v] : Array Value).toList.zip (#[Value.int x' t', .int y' u', .int z' v'] : Array Value).toList) = [(.int x t, .int x' t'), (.int y u, .int y' u'), (.int z v, .int z' v')] := rfl
  (first | (refine rwG hz ?_; try (with_reducible rfl)) | rw [hz])
  simp only [List.forIn_cons, List.forIn_nil]
  have fin : ∀ (p q : Int) (r : Bool), r = decide (p < q) → lt3 (x, y, z) (x', y', z') = r → ∀ (tk tk' : Tok), wpAny (model prog w) A.in1 (richCompare .Lt (.int p tk) (.int q tk')) (fun v s' => v = .bool (lt3 (x, y, z) (x', y', z')) ∧ s' = s) E s := fun p q r hr hl tk tk' => richLt_int ⟨by ((first | (refine rwG hl ?_; try (with_reducible rfl)) | rw [hl]); (first | (refine rwG hr ?_; try (with_reducible rfl)) | rw [hr])), rfl⟩
  refine wpAny_bind (wpAny_bind (wpAny_bind (wpAny_eqBool_int ?_)))
  by_cases h1 : (x == x') = true
  · ((first | (refine rwG h1 ?_; try (with_reducible rfl)) | rw [h1]); (first | refine ifN (by decide) ?_ | rw [if_neg (by decide)]))
    refine wpAny_pure ?_
    refine wpAny_bind (wpAny_bind (wpAny_eqBool_int ?_))
    by_cases h2 : (y == y') = true
    · ((first | (refine rwG h2 ?_; try (with_reducible rfl)) | rw [h2]); (first | refine ifN (by decide) ?_ | rw [if_neg (by decide)]))
      refine wpAny_pure ?_
      refine wpAny_bind (wpAny_bind (wpAny_eqBool_int ?_))
      by_cases h3 : (z == z') = true
      · ((first | (refine rwG h3 ?_; try (with_reducible rfl)) | rw [h3]); (first | refine ifN (by decide) ?_ | rw [if_neg (by decide)]))
        refine wpAny_pure (wpAny_pure (wpAny_pure ⟨_, rfl, (fun x => nomatch x), ?_⟩))
        have e : lt3 (x, y, z) (x', y', z') = false := by
          simp only [lt3, h1, h2, if_true]
          have := beq_iff_eq.mp h3
          simp [this]
        rw [e] at h
        exact h
      · have h3 : (z == z') = false := by simpa using h3
        ((first | (refine rwG h3 ?_; try (with_reducible rfl)) | rw [h3]); (first | refine ifP (by decide) ?_ | rw [if_pos (by decide)]))
        refine wpAny_bind (wpAny_rule (wpAny_bind (wpAny_mono (fin z z' _ rfl (by simp [lt3, h1, h2]) v v') (fun w s' ⟨e1, e2⟩ => ?_) fun _ _ e => e)))
        subst e1 e2
        exact wpAny_pure (wpAny_pure (wpAny_pure ⟨_, rfl, (fun x => nomatch x), h⟩))
    · have h2 : (y == y') = false := by simpa using h2
      ((first | (refine rwG h2 ?_; try (with_reducible rfl)) | rw [h2]); (first | refine ifP (by decide) ?_ | rw [if_pos (by decide)]))
      refine wpAny_bind (wpAny_rule (wpAny_bind (wpAny_mono (fin y y' _ rfl (by simp [lt3, h1, h2]) u u') (fun w s' ⟨e1, e2⟩ => ?_) fun _ _ e => e)))
      subst e1 e2
      exact wpAny_pure (wpAny_pure (wpAny_pure ⟨_, rfl, (fun x => nomatch x), h⟩))
  · have h1 : (x == x') = false := by simpa using h1
    ((first | (refine rwG h1 ?_; try (with_reducible rfl)) | rw [h1]); (first | refine ifP (by decide) ?_ | rw [if_pos (by decide)]))
    refine wpAny_bind (wpAny_rule (wpAny_bind (wpAny_mono (fin x x' _ rfl (by simp [lt3, h1]) t t') (fun w s' ⟨e1, e2⟩ => ?_) fun _ _ e => e)))
    subst e1 e2
    exact wpAny_pure (wpAny_pure (wpAny_pure ⟨_, rfl, (fun x => nomatch x), h⟩))
end
section
variable {prog : Program} {w : World} {A : Around} {R : Result → Shared → Prop} {I : Addr} {fp wr : List Addr} {G : Array GenState → Array GenState → Prop} {n : Nat} {P : Nat → Value → Prop} {St : Nat → Shared → Prop}
noncomputable def CmpS (prog : Program) (w : World) (A : Around) (P : Nat → Value → Prop) (St : Nat → Shared → Prop) (bt : Nat → Nat → Bool) : Prop :=
  ∀ i j vi vj k s (Q : Value → Shared → Prop) (E : Value → Shared → Prop), St k s → P i vi → P j vj → Q (.bool (bt i j)) s → wpAny (model prog w) A (richCompare .Lt vi vj) Q E s
theorem min_loop (W : WalksS prog w A.in1 I fp wr G n P St) (bt : Nat → Nat → Bool) (hcmp : CmpS prog w A.in1 P St bt) (a : Addr) (hSf : a ∉ fp) :
    ∀ (k j : Nat) (s : Shared) (vb : Value) (c : Nat), n - (j + 1) = k → j + 1 ≤ n → St (j + 1) s → P (argBest bt j) vb →
    s.heap.get? a = some { cls := .type "list", dict := none, data := .seq #[vb, vb] c, slots := #[] } →
    (∀ v s', P (argBest bt (n - 1)) v → Moved (a :: wr) G s s' → R (.ok (.ret v)) s') → codeAny (model prog w) A (.builtin "min.loop" ⟨[.ref I, .none, .ref a], []⟩) R s := by
  have hSw : a ∉ wr := fun h => hSf (W.sub _ h)
  have hsub : ∀ b ∈ wr, b ∈ a :: wr := fun b hb => List.mem_cons_of_mem _ hb
  have hname : (toString "min" ++ toString ".loop" : String) = "min.loop" := by decide
  have notS : ∀ {b : Addr}, b ∉ a :: wr → a ≠ b := fun hb h => hb (by (first | (refine rwG h ?_; try (with_reducible rfl)) | rw [h]); exact List.mem_cons_self)
  intro k
  induction k with
  | zero =>
    intro j s vb c hk hj hst hPb hS hR
    have hin : j + 1 = n := by omega
    refine codeAny_builtin PySem.F.entry_min_loop ?_
    rw [Around.under_plainId PySem.F.plain_min_loop _]
    show wpAny _ A.in1 (seqItems? (.ref a) >>= _) _ _ s
    refine wpAny_bind (wpAny_seqItems hS rfl ?_)
    show wpAny _ A.in1 (tryCatch (pyNext (.ref I)) _ >>= _) _ _ s
    refine wpAny_bind (wpAny_tryCatch (W.done s _ _ (hin ▸ hst) fun s' hm => ?_))
    have hS' := hm.heap a _ hSw hS
    show wpAny _ A.in1 (updateSeq a (fun _ => #[]) >>= _) _ _ _
    refine wpAny_bind ?_
    refine wpAny_updateSeq hS' rfl (wpAny_bind (wpAny_letGo (wpAny_pure ?_)))
    exact hR vb _ (by (first | (refine rwG hin.symm ?_; try (with_reducible rfl)) | rw [← hin]); exact hPb) ((hm.mono hsub).then_heap (tk := s'.toks) (Nat.le_refl _) fun b o hb e => (Heap.get?_update_other _ _ (notS hb)).trans e)
  | succ k ih =>
    intro j s vb c hk hj hst hPb hS hR
    have hlt : j + 1 < n := by omega
    refine codeAny_builtin PySem.F.entry_min_loop ?_
    rw [Around.under_plainId PySem.F.plain_min_loop _]
    show wpAny _ A.in1 (seqItems? (.ref a) >>= _) _ _ s
    refine wpAny_bind (wpAny_seqItems hS rfl ?_)
    show wpAny _ A.in1 (tryCatch (pyNext (.ref I)) _ >>= _) _ _ s
    refine wpAny_bind (wpAny_tryCatch (W.item (j + 1) s _ _ hlt hst fun v s' hP hst' hm => ?_))
    have hS' := hm.heap a _ hSw hS
    show wpAny _ A.in1 (tryCatch (holding [v, v] (richCompare .Lt v vb >>= _)) _ >>= _) _ _ _
    refine wpAny_bind (wpAny_tryCatch (wpAny_holding (wpAny_bind (hcmp (j + 1) (argBest bt j) v vb _ _ _ _ hst' hP hPb ?_))))
    refine wpAny_bind (wpAny_holding (wpAny_truthy_bool ?_))
    refine wpAny_bind (wpAny_letGo (wpAny_pure ?_))
    cases hb : bt (j + 1) (argBest bt j) with
    | true =>
      simp only [if_true]
      refine wpAny_bind ?_
      refine wpAny_updateSeq hS' rfl (wpAny_bind (wpAny_letGo ?_))
      (first | (refine rwG hname ?_; try (with_reducible rfl)) | rw [hname])
      refine wpAny_pure ⟨plainId_quiet PySem.F.plain_min_loop _, ih (j + 1) _ v _ (by omega) hlt (W.frame _ s' _ s'.toks hst' (Nat.le_refl _) fun b hbf o e => ?_) (by simp only [argBest, hb, if_true]; exact hP) (Heap.get?_update_self _ hS' rfl)
        fun v' s'' hP' hm'' => ?_⟩
      · exact (Heap.get?_update_other _ _ (fun h : a = b => hSf (by (first | (refine rwG h ?_; try (with_reducible rfl)) | rw [h]); exact hbf))).trans e
      · exact hR v' s'' hP' (Moved.trans W.gtrans ((hm.mono hsub).then_heap (by first | exact Nat.le_refl _ | exact Nat.le_succ _ | omega) fun b o hb e => (Heap.get?_update_other _ _ (notS hb)).trans e) hm'')
    | false =>
      simp only [Bool.false_eq_true, if_false]
      refine wpAny_bind (wpAny_letGo ?_)
      (first | (refine rwG hname ?_; try (with_reducible rfl)) | rw [hname])
      refine wpAny_pure ⟨plainId_quiet PySem.F.plain_min_loop _, ih (j + 1) _ vb c (by omega) hlt hst' (by simp only [argBest, hb, Bool.false_eq_true, if_false]; exact hPb) hS' fun v' s'' hP' hm'' => ?_⟩
      exact hR v' s'' hP' (Moved.trans W.gtrans (hm.mono hsub) hm'')
theorem min_first (W : WalksS prog w A.in1 I fp wr G n P St) (bt : Nat → Nat → Bool) (hcmp : CmpS prog w A.in1 P St bt) (a : Addr) (hSf : a ∉ fp) (hn : 0 < n) {s : Shared} {c : Nat} (hst : St 0 s)
    (hS : s.heap.get? a = some { cls := .type "list", dict := none, data := .seq #[] c, slots := #[] })
    (hR : ∀ v s', P (argBest bt (n - 1)) v → Moved (a :: wr) G s s' → R (.ok (.ret v)) s') : codeAny (model prog w) A (.builtin "min.loop" ⟨[.ref I, .none, .ref a], []⟩) R s := by
  have hSw : a ∉ wr := fun h => hSf (W.sub _ h)
  have hsub : ∀ b ∈ wr, b ∈ a :: wr := fun b hb => List.mem_cons_of_mem _ hb
  have hname : (toString "min" ++ toString ".loop" : String) = "min.loop" := by decide
  have notS : ∀ {b : Addr}, b ∉ a :: wr → a ≠ b := fun hb h => hb (by (first | (refine rwG h ?_; try (with_reducible rfl)) | rw [h]); exact List.mem_cons_self)
  refine codeAny_builtin PySem.F.entry_min_loop ?_
  rw [Around.under_plainId PySem.F.plain_min_loop _]
  show wpAny _ A.in1 (seqItems? (.ref a) >>= _) _ _ s
  refine wpAny_bind (wpAny_seqItems hS rfl ?_)
  show wpAny _ A.in1 (tryCatch (pyNext (.ref I)) _ >>= _) _ _ s
  refine wpAny_bind (wpAny_tryCatch (W.item 0 s _ _ hn hst fun v s' hP hst' hm => ?_))
  have hS' := hm.heap a _ hSw hS
  show wpAny _ A.in1 (updateSeq a (fun _ => #[v, v]) >>= _) _ _ _
  refine wpAny_bind ?_
  refine wpAny_updateSeq hS' rfl ?_
  (first | (refine rwG hname ?_; try (with_reducible rfl)) | rw [hname])
  refine wpAny_pure ⟨plainId_quiet PySem.F.plain_min_loop _, min_loop W bt hcmp a hSf _ 0 _ v _ rfl hn (W.frame _ s' _ s'.toks hst' (Nat.le_refl _) fun b hbf o e => ?_) hP (Heap.get?_update_self _ hS' rfl) fun v' s'' hP' hm'' => ?_⟩
  · exact (Heap.get?_update_other _ _ (fun h : a = b => hSf (by (first | (refine rwG h ?_; try (with_reducible rfl)) | rw [h]); exact hbf))).trans e
  · exact hR v' s'' hP' (Moved.trans W.gtrans ((hm.mono hsub).then_heap (by first | exact Nat.le_refl _ | exact Nat.le_succ _ | omega) fun b o hb e => (Heap.get?_update_other _ _ (notS hb)).trans e) hm'')
inductive MinK (prog : Program) (w : World) (A : Around) (Q : Value → Shared → Prop) (it : Value) (s₂ : Shared) : Prop
  | mk (I : Addr) (fp wr : List Addr) (G : Array GenState → Array GenState → Prop) (n : Nat) (P : Nat → Value → Prop) (St : Nat → Shared → Prop) (bt : Nat → Nat → Bool) (e : it = .ref I) (W : WalksS prog w A.in1 I fp wr G n P St) (hst : St 0 s₂) (hfp : ∀ b ∈ fp, b < s₂.heap.objs.size) (hn : 0 < n) (hcmp : CmpS prog w A.in1 P St bt)
      (hQ : ∀ v s', P (argBest bt (n - 1)) v → Moved wr G s₂ s' → Q v s')
theorem min_walk {E : Value → Shared → Prop} {s : Shared} {x : Value} {Q : Value → Shared → Prop}
    (h : wpAny (model prog w) A.in1 (pyIter x) (MinK prog w A Q) E s) :
    wpAny (model prog w) A (call (.builtin "min") [x]) Q E s := by
  have hname : (toString "min" ++ toString ".loop" : String) = "min.loop" := by decide
  refine call_function_tree PySem.F.kind_min PySem.F.plain_min PySem.F.entry_min (PySem.F.args_min1 _) ?_
  show wpAny _ A.in1 (Builtin.Builtins.bindParams "min" ["key", "default"] 0 ⟨[], []⟩ >>= _) _ _ s
  refine wpAny_bind (wpAny_of_eq (show Builtin.Builtins.bindParams "min" ["key", "default"] 0 ⟨[], []⟩ = pure [none, none] from rfl) ?_)
  refine wpAny_bind (wpAny_pure ?_)
  refine wpAny_bind (wpAny_mono h (fun it s₂ h₂ => ?_) fun _ _ e => e)
  obtain ⟨I, fp, wr, G, n, P, St, bt, rfl, W, hst, hfp, hn, hcmp, hQ⟩ := h₂
  refine wpAny_bind (wpAny_newObj_type ?_)
  have hSf : s₂.heap.objs.size ∉ fp := fun hm => Nat.lt_irrefl _ (hfp _ hm)
  (first | (refine rwG hname ?_; try (with_reducible rfl)) | rw [hname])
  refine wpAny_pure ⟨plainId_quiet PySem.F.plain_min_loop _, min_first W bt hcmp s₂.heap.objs.size hSf hn (W.frame 0 s₂ _ s₂.toks hst (Nat.le_refl _) fun b _ o e => Heap.get?_push_of_some _ e) (Heap.get?_push_size _ rfl) fun v s' hP hm => ?_⟩
  exact hQ v s' hP (Moved.drop_new (tk := s₂.toks) hm (Nat.le_refl _))
end
section
variable {prog : Program} {w : World} {A : Around}
theorem Walks_with {I : Addr} {fp wr : List Addr} {n : Nat} {P : Nat → Value → Prop} {St : Nat → Heap → Prop} (W : Walks prog w A I fp wr n P St) (ts : List (Addr × Obj)) (hw : ∀ q ∈ ts, q.1 ∉ wr) :
    Walks prog w A I (fp ++ ts.map (·.1)) wr n P (fun i h => St i h ∧ ∀ q ∈ ts, h.get? q.1 = some q.2) where
  sub := fun b hb => List.mem_append_left _ (W.sub b hb)
  frame := fun i h h' st hk => ⟨W.frame i h h' st.1 fun b hb => hk b (List.mem_append_left _ hb), fun q hq => hk q.1 (List.mem_append_right _ (List.mem_map_of_mem hq)) _ (st.2 q hq)⟩
  item := fun i s Q E hi st hQ => W.item i s Q E hi st.1 fun v h' tk hP hst hk => hQ v h' tk hP ⟨hst, fun q hq => hk _ _ (hw q hq) (st.2 q hq)⟩ hk
  done := fun s Q E st hQ => W.done s Q E st.1 hQ
  self := fun i s Q E st q => W.self i s Q E st.1 q
end
section
variable {X : Cx} {A : Around} {σ : Hp} {E : Value → Shared → Prop}
theorem tri_of {o : Obj} {x y z : Int} {items : Array Value} {n : Nat} (e : o = { cls := .type "tuple", data := .seq items n }) (h : items.toList.map er = [I x, I y, I z]) : ∃ t u v, o = tri x y z t u v n := by
  obtain ⟨a, b, c, rfl, h1, h2, h3⟩ := three h
  obtain ⟨t, rfl⟩ := er_int h1
  obtain ⟨u, rfl⟩ := er_int h2
  obtain ⟨v, rfl⟩ := er_int h3
  exact ⟨t, u, v, e⟩
theorem CW_min3 {l t0 t1 t2 : Addr} {vs : Nat → Int × Int × Int} {Q : Value → Hp → Prop} {n : Nat} (rm : Rm (n + 1) A) (hl : (l, AO.seq "list" [.ref t0, .ref t1, .ref t2]) ∈ σ)
    (h0 : (t0, AO.seq "tuple" [I (vs 0).1, I (vs 0).2.1, I (vs 0).2.2]) ∈ σ) (h1 : (t1, AO.seq "tuple" [I (vs 1).1, I (vs 1).2.1, I (vs 1).2.2]) ∈ σ) (h2 : (t2, AO.seq "tuple" [I (vs 2).1, I (vs 2).2.1, I (vs 2).2.2]) ∈ σ)
    (q : Q (.ref ([t0, t1, t2].getD (argBest (fun i j => lt3 (vs i) (vs j)) 2) 0)) σ) : CW X A E (.builtin "min") [.ref l] σ Q := fun vs' e s R => by
  obtain ⟨v, rfl, e1⟩ := no_arg e
  obtain rfl := er_ref e1
  obtain ⟨items, hli, he⟩ := R.isList hl
  have hit : items = #[.ref t0, .ref t1, .ref t2] := by
    obtain ⟨a, b, c, rfl, a1, a2, a3⟩ := three he
    rw [er_ref a1, er_ref a2, er_ref a3]
  subst hit
  obtain ⟨_, o0, _, ho0, i0, n0, hd0, he0⟩ := R.get h0
  obtain ⟨_, o1, _, ho1, i1, n1, hd1, he1⟩ := R.get h1
  obtain ⟨_, o2, _, ho2, i2, n2, hd2, he2⟩ := R.get h2
  obtain ⟨a0, b0, c0, e0⟩ := tri_of hd0 he0
  obtain ⟨a1, b1, c1, e1⟩ := tri_of hd1 he1
  obtain ⟨a2, b2, c2, e2⟩ := tri_of hd2 he2
  rw [e0] at ho0
  rw [e1] at ho1
  rw [e2] at ho2
  refine min_walk (wpAny_pyIter_list hli ?_)
  have hlt : ∀ {a : Addr} {o : Obj}, s.heap.get? a = some o → a ≠ s.heap.objs.size := fun ho z => Nat.lt_irrefl _ (z ▸ Heap.lt_size ho)
  have hh : A.in1.handled = none := rm.handled
  obtain ⟨ol, hol, _⟩ := id hli
  have W := (Walks_with (Walks.list (prog := X.prog) (w := X.w) (A := A.in1) hh s.heap.objs.size l (hlt hol) #[.ref t0, .ref t1, .ref t2]) [(t0, tri (vs 0).1 (vs 0).2.1 (vs 0).2.2 a0 b0 c0 n0), (t1, tri (vs 1).1 (vs 1).2.1 (vs 1).2.2 a1 b1 c1 n1), (t2, tri (vs 2).1 (vs 2).2.1 (vs 2).2.2 a2 b2 c2 n2)] (by
    intro q hq
    simp only [List.mem_cons, List.not_mem_nil, or_false] at hq ⊢
    rcases hq with rfl | rfl | rfl
    · exact hlt ho0
    · exact hlt ho1
    · exact hlt ho2)).toS
  have hu : A.in1.units < cLine := rm.in1.line
  have key : ∀ {s : Shared} {Q' : Value → Shared → Prop} {E' : Value → Shared → Prop} (i j : Nat) (vi vj : Value), (∀ q ∈ [(t0, tri (vs 0).1 (vs 0).2.1 (vs 0).2.2 a0 b0 c0 n0), (t1, tri (vs 1).1 (vs 1).2.1 (vs 1).2.2 a1 b1 c1 n1), (t2, tri (vs 2).1 (vs 2).2.1 (vs 2).2.2 a2 b2 c2 n2)], s.heap.get? q.1 = some q.2) → (#[Value.ref t0, .ref t1, .ref t2] : Array Value)[i]? = some vi → (#[Value.ref t0, .ref t1, .ref t2] : Array Value)[j]? = some vj → Q' (.bool (lt3 (vs i) (vs j))) s → wpAny (model X.prog X.w) A.in1 (richCompare .Lt vi vj) Q' E' s := by
    intro s Q' E' i j vi vj hs hi hj hq
    have g : ∀ k vk, (#[Value.ref t0, .ref t1, .ref t2] : Array Value)[k]? = some vk → ∃ a t u v n, vk = .ref a ∧ s.heap.get? a = some (tri (vs k).1 (vs k).2.1 (vs k).2.2 t u v n) := by
      intro k vk hk
      match k, hk with
      | 0, hk => exact ⟨t0, a0, b0, c0, n0, by simpa using hk.symm, hs _ (.head _)⟩
      | 1, hk => exact ⟨t1, a1, b1, c1, n1, by simpa using hk.symm, hs _ me1⟩
      | 2, hk => exact ⟨t2, a2, b2, c2, n2, by simpa using hk.symm, hs _ me2⟩
      | k + 3, hk => simp at hk
    obtain ⟨p, t, u, v, n, rfl, hp⟩ := g i vi hi
    obtain ⟨p', t', u', v', n', rfl, hp'⟩ := g j vj hj
    exact tuple_lt hp hp' hu hq
  have up : ∀ {a : Addr} {o : Obj}, s.heap.get? a = some o → (s.heap.push { cls := .type "list_iterator", data := .fields #[.ref l, .int 0 0] }).get? a = some o := fun e => Heap.get?_push_of_some _ e
  refine ⟨_, _, _, _, _, _, _, fun i j => lt3 (vs i) (vs j), rfl, W, ⟨⟨⟨_, Heap.get?_push_size _ rfl, rfl, rfl⟩, hli.push _⟩, fun q hq => ?_⟩, fun b hb => ?_, by simp, fun i j vi vj k s' Q' E' st hi hj hq => key i j vi vj st.2 hi hj hq, fun v s' hP hm => ?_⟩
  · simp only [List.mem_cons, List.not_mem_nil, or_false] at hq
    rcases hq with rfl | rfl | rfl
    · exact up ho0
    · exact up ho1
    · exact up ho2
  · show b < (s.heap.push _).objs.size
    rw [Heap.size_push]
    simp only [List.map_cons, List.map_nil, List.cons_append, List.nil_append, List.mem_cons, List.not_mem_nil, or_false] at hb
    rcases hb with rfl | rfl | rfl | rfl | rfl
    · exact Nat.lt_succ_self _
    · exact Nat.lt_succ_of_lt (Heap.lt_size hol)
    · exact Nat.lt_succ_of_lt (Heap.lt_size ho0)
    · exact Nat.lt_succ_of_lt (Heap.lt_size ho1)
    · exact Nat.lt_succ_of_lt (Heap.lt_size ho2)
  · rw [Moved.eq_with hm]
    refine ⟨σ, R.grow (fun b o e => hm.heap b o (fun hmem => ?_) (up e)), ?_⟩
    · rw [List.mem_singleton] at hmem
      exact hlt e hmem
    · have hb : argBest (fun i j => lt3 (vs i) (vs j)) 2 ≤ 2 := argBest_le _ _
      have hv : v = .ref ([t0, t1, t2].getD (argBest (fun i j => lt3 (vs i) (vs j)) 2) 0) := by
        have hP : (#[Value.ref t0, .ref t1, .ref t2] : Array Value)[argBest (fun i j => lt3 (vs i) (vs j)) 2]? = some v := hP
        generalize argBest (fun i j => lt3 (vs i) (vs j)) 2 = k at hb hP
        match k, hb, hP with
        | 0, _, hP => simpa using hP.symm
        | 1, _, hP => simpa using hP.symm
        | 2, _, hP => simpa using hP.symm
      (first | (refine rwG hv ?_; try (with_reducible rfl)) | rw [hv])
      exact q
end
noncomputable def noSt : Stmt := .Pass ⟨0, 0, 0, 0⟩
noncomputable def nthSt : List Stmt → Nat → Stmt
  | [], _ => noSt
  | s :: _, 0 => s
  | _ :: r, n + 1 => nthSt r n
noncomputable def topSt (i : Nat) : Stmt := nthSt PySem.Challenge.pw_sc0034_01.main.body i
noncomputable def bodyOf : Stmt → List Stmt
  | .FunctionDef _ _ b _ _ _ _ _ _ _ => b
  | .ClassDef _ _ _ b _ _ _ _ _ _ _ => b
  | _ => []
noncomputable def scOf : Stmt → Scope
  | .FunctionDef _ _ _ _ _ _ sc _ _ _ => sc
  | _ => { kind := .function, names := [], isGenerator := false, isCoroutine := false, more := [] }
noncomputable def asOf : Stmt → List Arg
  | .FunctionDef _ ps _ _ _ _ _ _ _ _ => ps.args
  | _ => []
noncomputable def nmOf : Stmt → Str
  | .FunctionDef n _ _ _ _ _ _ _ _ _ => n
  | _ => Str.empty
noncomputable def posOf : Stmt → Pos
  | .FunctionDef _ _ _ _ _ _ _ _ _ p => p
  | .Assign _ v _ => v.pos
  | _ => ⟨0, 0, 0, 0⟩
noncomputable def methSt (i : Nat) : Stmt := nthSt (bodyOf (topSt 1)) i
structure Df (X : Cx) (i : Nat) (f : Addr) : Prop where
  glob : GlobIs X (nmOf (topSt i)) (.ref f)
  bf : BF X f (nmOf (topSt i)) (asOf (topSt i)) (bodyOf (topSt i)) (scOf (topSt i))
structure Md (X : Cx) (C : Addr) (i : Nat) (f : Addr) : Prop where
  pm : PM X C (nmOf (methSt i)) f
  bf : BF X f ("_netrclex." ++ nmOf (methSt i)) (asOf (methSt i)) (bodyOf (methSt i)) (scOf (methSt i))
noncomputable def adC : Addr := 52
noncomputable def adVar : Addr := 63
noncomputable def adSub : Addr := 70
noncomputable def adLev : Addr := 77
noncomputable def adStream : Addr := 84
noncomputable def adOct : Addr := 91
noncomputable def adWrit : Addr := 96
noncomputable def adLine : Addr := 103
noncomputable def adSent : Addr := 108
noncomputable def adSpoilt : Addr := 115
noncomputable def adCome : Addr := 120
noncomputable def adPrice : Addr := 127
noncomputable def adNear : Addr := 132
noncomputable def adOff : Addr := 137
noncomputable def adTold : Addr := 144
noncomputable def adInit : Addr := 28
noncomputable def adRead : Addr := 35
noncomputable def adGet : Addr := 42
noncomputable def adPush : Addr := 49
noncomputable def tabC : Tab := ⟨119, 117, fun _ _ => "_law_come.<locals>.<lambda>"⟩
noncomputable def tabS : Tab := ⟨83, 79, fun l _ => if l = (posOf (nthSt (bodyOf (topSt 11)) 0)).line then "_law_stream.<locals>._law_read" else "_law_stream.<locals>.<lambda>"⟩
structure Facts (X : Cx) : Prop where
  dVar : Df X 3 adVar
  dSub : Df X 8 adSub
  dLev : Df X 9 adLev
  dStream : Df X 11 adStream
  dOct : Df X 12 adOct
  dWrit : Df X 13 adWrit
  dLine : Df X 14 adLine
  dSent : Df X 15 adSent
  dSpoilt : Df X 16 adSpoilt
  dCome : Df X 17 adCome
  dPrice : Df X 18 adPrice
  dNear : Df X 19 adNear
  dOff : Df X 20 adOff
  dTold : Df X 21 adTold
  cls : GlobIs X "_netrclex" (.ref adC)
  pc : PC X adC
  kpC : keepIn X.K (.ref adC) = true
  mks : makesIn X.K adC = true
  own : ∀ n ∈ ([("lineno" : Str), "instream", "whitespace", "pushback"] : List Str), findIn X.K (.ref adC) n = some none
  mdInit : Md X adC 0 adInit
  mdRead : Md X adC 1 adRead
  mdGet : Md X adC 2 adGet
  mdPush : Md X adC 3 adPush
  init : findIn X.K (.ref adC) "__init__" = some (some (.ref adInit))
  kS : TabOf X tabS
  kC : TabOf X tabC
  cS : ∀ o fd, X.h₀.get? adStream = some o → o.data = .func fd → fd.code = .ref tabS.c
  cC : ∀ o fd, X.h₀.get? adCome = some o → o.data = .func fd → fd.code = .ref tabC.c
  nS : tabS.f (posOf (nthSt (bodyOf (topSt 11)) 0)).line (posOf (nthSt (bodyOf (topSt 11)) 0)).col = "_law_stream.<locals>._law_read"
  nL : tabS.f (posOf (nthSt (bodyOf (topSt 11)) 1)).line (posOf (nthSt (bodyOf (topSt 11)) 1)).col = "_law_stream.<locals>.<lambda>"
  nC : tabC.f 143 30 = "_law_come.<locals>.<lambda>"
  move : GlobIs X "_MOVE_COST" (I 2)
  case_ : GlobIs X "_CASE_COST" (I 1)
  most : GlobIs X "_MAX_STRING_SIZE" (I 40)
  bLen : BltnIs X "len" (.builtin "len")
  bMin : BltnIs X "min" (.builtin "min")
  bMax : BltnIs X "max" (.builtin "max")
  bChr : BltnIs X "chr" (.builtin "chr")
  bOrd : BltnIs X "ord" (.builtin "ord")
  bAbs : BltnIs X "abs" (.builtin "abs")
  bSum : BltnIs X "sum" (.builtin "sum")
  bSorted : BltnIs X "sorted" (.builtin "sorted")
  bIter : BltnIs X "iter" (.builtin "iter")
  bNext : BltnIs X "next" (.builtin "next")
  bList : BltnIs X "list" (.type "list")
  bSet : BltnIs X "set" (.type "set")
  bRange : BltnIs X "range" (.type "range")
  bEnum : BltnIs X "enumerate" (.type "enumerate")
  bStop : BltnIs X "StopIteration" (.type "StopIteration")
section
variable {X : Cx} {A : Around} {σ : Hp} {E : Value → Shared → Prop} {env : Env}
theorem BD_nil {K : Hp → Prop} (h : K σ) : BD X A env E [] σ K := h
theorem BD_cons {n : Str} {v : Value} {r : List (Str × Value)} {K : Hp → Prop} (h : ST X A env E n v σ (fun σ' => BD X A env E r σ' K)) : BD X A env E ((n, v) :: r) σ K := h
theorem ite_of {c : Bool} {P Q : Prop} (h1 : c = true → P) (h2 : c = false → Q) : if c then P else Q := by cases c <;> simp_all
theorem CW_use {f : Value} {vs : List Value} {P Q : Value → Hp → Prop} (h : CC X A E f vs σ P) (k : ∀ v σ', P v σ' → Q v σ') : CW X A E f vs σ Q := (h.mono k fun _ _ e => e).cw
theorem PT_none {Q : Value → Hp → Prop} (q : Q .none σ) : PT X A env E none σ Q := q
theorem PT_some {e : Expr} {Q : Value → Hp → Prop} (h : EV X A env E e σ Q) : PT X A env E (some e) σ Q := h
theorem UNA_neg {a : Int} {Q : Value → Hp → Prop} (q : Q (I (-a)) σ) : UNA X A E .USub (I a) σ Q := fun a' ea s R => by
  obtain ⟨t, rfl⟩ := er_int ea; (with_reducible refine PyProof.Rows.neg_int ?_); exact ⟨σ, R.toks, q⟩
theorem Chg.mem {a : Addr} {x x' : AO} : ∀ {σ σ' : Hp}, Chg a x x' σ σ' → (a, x) ∈ σ
  | _, _, .here => .head _
  | _, _, .there h => .tail _ h.mem
theorem EV_txt {x : Str} (l : List Nat) (h : x = tx l) {k pos} {Q : Value → Hp → Prop} (q : Q (T l) σ) : EV X A env E (.Constant (.str x) k pos) σ Q := EV_str (h ▸ q)
theorem AS_pick {t : Expr} {v : Value} {σ' : Hp} {Q : Hp → Prop} (p : Pick σ' σ) (h : AS X A env E t v σ' Q) : AS X A env E t v σ Q := fun v' e => W_pick p (h v' e)
theorem CK_cell {n : Str} {r : List (Str × NameKind)} {cs : List (Str × Addr)} {K : List (Str × Addr) → Hp → Prop} (h : ∀ c, CK r ((n, c) :: cs) ((c, .cell none) :: σ) K) : CK ((n, .cell) :: r) cs σ K := h
theorem CK_skip {n : Str} {k : NameKind} {r : List (Str × NameKind)} {cs : List (Str × Addr)} {K : List (Str × Addr) → Hp → Prop} (hk : (k == .cell) = false) (h : CK r cs σ K) : CK ((n, k) :: r) cs σ K := by
  unfold CK; ((first | (refine rwG hk ?_; try (with_reducible rfl)) | rw [hk]); (first | refine ifN Bool.false_ne_true ?_ | rw [if_neg Bool.false_ne_true])); exact h
theorem CC_ret {f : Value} {vs : List Value} {v : Value} {τ : Hp} {Q : Value → Hp → Prop} (h : CC X A F0 f vs σ (fun v' σ' => v' = v ∧ σ' = τ)) (q : Q v τ) : CW X A E f vs σ Q := CW_use h.any fun v' σ' ⟨e1, e2⟩ => by subst e1 e2; exact q
end
open Lean in
local macro_rules | `(tactic| tm_at $k:str) => do
  let r (s : String) (g : Option (Term × Term)) : MacroM (TSyntax `tactic) := do
    let mut a ← (s.splitOn " ").toArray.mapM fun x => do
      let i := mkIdent (.str `Mine x)
      if x.length < 5 then `(tacticSeq| exact $i) else
      if x == "EX_Assign" || x == "TE_Cmp" then `(tacticSeq| refine $i (by kernel_rfl) ?_) else `(tacticSeq| refine $i ?_)
    if let some (f, t) := g then
      let t1 := Syntax.mkApp f #[t]
      let t2 := Syntax.mkApp f #[t1]
      let t3 := Syntax.mkApp f #[t2]
      let t4 := Syntax.mkApp f #[t3]
      a := a ++ (← [t1, t2, t3, t4, Syntax.mkApp f #[t4]].toArray.mapM fun t => `(tacticSeq| exact $t))
    `(tactic| with_reducible first $[| $a]*)
  match k.getString with
  | "Mm" => do r "me0 me1 me2 me3 me4 me5 me6 me7 me8 me9 me10 me11 me12 me13" (some (mkIdent `Mine.me_t, mkIdent `Mine.me0))
  | "Mc" => do r "ch0 ch1 ch2 ch3 ch4 ch5 ch6 ch7 ch8 ch9 ch10 ch11 ch12 ch13" (some (mkIdent `Mine.Chg.there, mkIdent `Mine.ch0))
  | "Mp" => `(tactic| (repeat (first | with_reducible exact Put.here | with_reducible exact Put.nil | with_reducible apply Put.there (by decide +kernel))))
  | "Mgo" => do
    let a ← r "EX_If EX_Return EX_Assign EX_Aug EV_int EV_none EV_bool EV_BinOp EV_Unary EV_IfExp EV_Sub EV_Slice TE_Cmp TE_not TE_And TE_Or BIN_add BIN_sub IOP_add IOP_sub CMP_eq CMP_ne CMP_lt CMP_le CMP_gt CMP_ge CMP_eqs TRU_bool TRU_int" none
    let b ← r "ES_nil BD_nil BD_cons XS_nil PT_none PT_some UNA_neg EX_Continue" none
    `(tactic| (repeat (first | $a:tactic | ((with_reducible refine' EV_loc ?_ ?_ ?_ ?_); rotate_left 2; (kernel_rfl); (tm_at "Mm"); (tm_at "Mm")) | ((with_reducible refine' ST_loc ?_ ?_ ?_ ?_); rotate_left 3; (kernel_rfl); (tm_at "Mc"); (tm_at "Mp")) | $b:tactic | ((with_reducible refine' ES_con ?_ ?_); (rfl)) | (with_reducible dsimp only) | (dsimp only [List.cons_append, List.nil_append]))))
  | _ => Macro.throwUnsupported
section
variable {X : Cx} {A : Around} {σ : Hp} {E : Value → Shared → Prop} {env : Env}
noncomputable def subCost (a b : Nat) : Nat := if a = b then 0 else if low a = low b then 1 else 2
theorem c_sub (F : Facts X) {a b : Nat} (ha : a < 128) (hb : b < 128) {n : Nat} (rm : Rm (n + 2) A) : CC X A F0 (.ref adSub) [T [a], T [b]] σ (fun v σ' => v = I (subCost a b) ∧ σ' = σ) := by
  refine CC_def rm F.dSub.bf.fn rfl rfl (by decide +kernel) rfl fun cd L => ?_; refine CK_plain (by decide +kernel) ?_
  refine BD_cons ?_; refine ST_loc (by kernel_rfl) .here .nil ?_; refine BD_cons ?_; refine ST_loc (by kernel_rfl) .here (by tm_at "Mp") ?_; refine BD_nil ?_
  refine XS_cons ?_
  tm_at "Mgo"
  refine ite_of (fun h => ?_) (fun h => ?_)
  · refine XS_cons ?_
    tm_at "Mgo"
    refine ⟨σ, .drop .refl, ?_, rfl⟩
    have : a = b := by simpa using h
    simp [subCost, this, retv]
  · have h1 : a ≠ b := by simpa using h
    tm_at "Mgo"
    refine XS_cons ?_
    tm_at "Mgo"
    refine EV_Meth (by rfl) (by rfl) ?_
    tm_at "Mgo"
    refine GM_str PySem.F.slot_str_lower PySem.F.type_str_lower ?_
    refine ⟨rfl, ?_⟩
    tm_at "Mgo"
    refine ⟨KP_builtin, CW_lower ha ?_⟩
    refine EV_Meth (by rfl) (by rfl) ?_
    tm_at "Mgo"
    refine GM_str PySem.F.slot_str_lower PySem.F.type_str_lower ?_
    refine ⟨rfl, ?_⟩
    tm_at "Mgo"
    refine ⟨KP_builtin, CW_lower hb ?_⟩
    tm_at "Mgo"
    refine ite_of (fun h => ?_) (fun h => ?_)
    · refine XS_cons ?_
      tm_at "Mgo"
      refine EV_global F.case_ (by rfl) (by kernel_rfl) (by kernel_rfl) (by rfl) ?_
      tm_at "Mgo"
      refine ⟨σ, .drop .refl, ?_, rfl⟩
      have : low a = low b := by simpa using h
      simp [subCost, this, h1, retv]
    · have h2 : low a ≠ low b := by simpa using h
      tm_at "Mgo"
      refine XS_cons ?_
      tm_at "Mgo"
      refine EV_global F.move (by rfl) (by kernel_rfl) (by kernel_rfl) (by rfl) ?_
      tm_at "Mgo"
      refine ⟨σ, .drop .refl, ?_, rfl⟩
      simp [subCost, h2, h1, retv]
end
section
variable {X : Cx} {A : Around} {σ : Hp} {E : Value → Shared → Prop} {env : Env}
theorem BIN_modN (a b : Nat) (hb : 0 < b) {Q : Value → Hp → Prop} (q : Q (I ((a % b : Nat) : Int)) σ) : BIN X A E .Mod (I (a : Int)) (I (b : Int)) σ Q := BIN_mod (by (first | lia | omega)) (by rw [Int.fmod_eq_emod_of_nonneg _ (by (first | lia | omega))]; exact q)
theorem BIN_divN (a b : Nat) (hb : 0 < b) (hb2 : b < 1073741824) {Q : Value → Hp → Prop} (q : Q (I ((a / b : Nat) : Int)) σ) : BIN X A E .FloorDiv (I (a : Int)) (I (b : Int)) σ Q := BIN_div (by (first | lia | omega)) (PyProof.noPylong_small (by (first | lia | omega))) (by rw [Int.fdiv_eq_ediv_of_nonneg _ (by (first | lia | omega))]; exact q)
noncomputable def hiN : Nat → Nat → List Nat
  | 0, _ => []
  | f + 1, n => if 63 < n then (64 + n / 64 % 64) :: hiN f (n / 64) else []
theorem d64 {n f : Nat} (c : 63 < n) (h : n ≤ f + 1) : n / 64 ≤ f := Nat.le_of_lt_succ (Nat.lt_of_lt_of_le (Nat.div_lt_self (Nat.lt_of_le_of_lt (Nat.zero_le _) c) (by decide)) h)
theorem hiN_more (f : Nat) : ∀ n g, n ≤ f → n ≤ g → hiN f n = hiN g n := by
  have h0 : ∀ g, hiN g 0 = [] := fun g => by cases g <;> rfl
  induction f with
  | zero => intro n g h _; rw [Nat.le_zero.mp h, h0, h0]
  | succ f ih =>
    intro n g h hg
    cases g with
    | zero => rw [Nat.le_zero.mp hg, h0, h0]
    | succ g =>
      show (if 63 < n then _ else _) = if 63 < n then _ else _
      by_cases c : 63 < n
      · rw [if_pos c, if_pos c, ih _ g (d64 c h) (d64 c hg)]
      · ((first | refine ifN c ?_ | rw [if_neg c]); (first | refine ifN c ?_ | rw [if_neg c]))
noncomputable def hiF (n : Nat) : List Nat := hiN n n
theorem hiF_eq (n : Nat) : hiF n = if 63 < n then (64 + n / 64 % 64) :: hiF (n / 64) else [] := by
  cases n with
  | zero => rfl
  | succ n =>
    show (if 63 < n + 1 then _ else _) = if 63 < n + 1 then _ else _
    by_cases c : 63 < n + 1
    · rw [if_pos c, if_pos c, hiN_more n _ ((n + 1) / 64) (d64 c (Nat.le_refl _)) (Nat.le_refl _)]; rfl
    · ((first | refine ifN c ?_ | rw [if_neg c]); (first | refine ifN c ?_ | rw [if_neg c]))
theorem hiF_le (n : Nat) : (hiF n).length ≤ n := by
  induction n using Nat.strongRecOn with
  | ind n ih =>
    (first | (refine rwG hiF_eq ?_; try (with_reducible rfl)) | rw [hiF_eq])
    split
    · have := ih (n / 64) (by (first | lia | omega)); simp; (first | lia | omega)
    · simp
noncomputable def octs (n : Nat) : List Nat := (n % 64 :: hiF n).reverse
noncomputable abbrev nvs (l : List Nat) : List Value := l.map fun c : Nat => I (c : Int)
inductive OctI (k : Nat) (a L : Addr) (σ : Hp) (m : Nat) (σ' : Hp) : Prop
  | mk (acc : List Nat) (e : σ' = (a, .seq "list" (nvs acc)) :: (L, AO.ns [(("number" : Str), I (m : Int)), (("octets" : Str), Value.ref a)]) :: σ) (hm : m ≤ k) (h : acc ++ hiF m = k % 64 :: hiF k)
theorem c_oct (F : Facts X) {k : Nat} (hk : k < 2 ^ 20) {n : Nat} (rm : Rm (n + 2) A) : CC X A F0 (.ref adOct) [I k] σ (fun v σ' => ∃ a, v = .ref a ∧ σ' = (a, .seq "list" (nvs (octs k))) :: σ) := by
  have hsz := sizeLine_eq
  refine CC_def rm F.dOct.bf.fn rfl rfl (by decide +kernel) rfl fun cd L => ?_; refine CK_plain (by decide +kernel) ?_
  refine BD_cons ?_; refine ST_loc (by kernel_rfl) .here .nil ?_; refine BD_nil ?_
  refine XS_cons ?_
  tm_at "Mgo"
  refine EV_List ?_
  tm_at "Mgo"
  refine BIN_modN k 64 (by decide) ?_
  tm_at "Mgo"
  refine ⟨by simp; (first | lia | omega), fun a => ?_⟩
  tm_at "Mgo"
  refine XS_cons ?_
  refine EX_While (OctI k a (fenv (scOf (topSt 12)) L [] (nmOf (topSt 12)) adOct cd).locals σ) k ⟨[k % 64], rfl, Nat.le_refl _, rfl⟩ ?_
  rintro m _ ⟨acc, rfl, hm, hacc⟩
  have hlen : acc.length + (hiF m).length = 1 + (hiF k).length := by rw [← List.length_append, hacc]; simp; (first | lia | omega)
  have hle := hiF_le k
  tm_at "Mgo"
  refine ite_of (fun h => ?_) (fun h => ?_)
  · have h63 : 63 < m := by simp at h; (first | lia | omega)
    have hun : hiF m = (64 + m / 64 % 64) :: hiF (m / 64) := by ((first | (refine rwG hiF_eq ?_; try (with_reducible rfl)) | rw [hiF_eq]); (first | refine ifP h63 ?_ | rw [if_pos h63]))
    refine XS_cons ?_
    tm_at "Mgo"
    refine BIN_divN m 64 (by decide) (by decide) ?_
    tm_at "Mgo"
    refine XS_cons ?_
    refine EX_Expr (by rfl) (by kernel_rfl) ?_; refine EV_Meth (by rfl) (by rfl) ?_; tm_at "Mgo"; refine GM_list (by tm_at "Mm") PySem.F.slot_list_append PySem.F.type_list_append ?_; refine ⟨rfl, ?_⟩; tm_at "Mgo"
    refine BIN_modN (m / 64) 64 (by decide) ?_
    tm_at "Mgo"
    refine ⟨KP_builtin, CW_append (by tm_at "Mc") (by simp; (first | lia | omega)) ?_⟩; refine ⟨rfl, ?_⟩
    tm_at "Mgo"
    refine ⟨m / 64, _, .refl, by (first | lia | omega), acc ++ [64 + m / 64 % 64], ?_, by (first | lia | omega), ?_⟩
    · simp
    · rw [List.append_assoc, ← hacc, hun]; rfl
  · have h63 : ¬ 63 < m := by simp at h; (first | lia | omega)
    have hnil : hiF m = [] := by ((first | (refine rwG hiF_eq ?_; try (with_reducible rfl)) | rw [hiF_eq]); (first | refine ifN h63 ?_ | rw [if_neg h63]))
    rw [hnil, List.append_nil] at hacc
    subst hacc
    refine ⟨_, .refl, ?_⟩
    tm_at "Mgo"
    refine XS_cons ?_
    tm_at "Mgo"
    intro b
    refine SUB_list (by tm_at "Mm") (GI_list_rev (by tm_at "Mm") (by tm_at "Mm") (by simp; (first | lia | omega)) fun c => ?_)
    refine ⟨_, .take .here (.drop (.drop (.drop .refl))), c, rfl, ?_⟩
    simp [octs, nvs]
end
section
variable {X : Cx} {A : Around} {σ : Hp} {E : Value → Shared → Prop} {env : Env}
noncomputable abbrev lexD (ln : Nat) (st pb : Value) : List (Str × Value) := [(("lineno" : Str), I (ln : Int)), (("instream" : Str), st), (("whitespace" : Str), T [10, 9, 13, 32]), (("pushback" : Str), pb)]
theorem c_push (F : Facts X) {x dx pb : Addr} {ln : Nat} {st v : Value} {q : List Value} {σ' : Hp} (hx : (x, inst adC dx) ∈ σ) (hd : (dx, AO.ns (lexD ln st (.ref pb))) ∈ σ) (hc : Chg pb (.seq "list" q) (.seq "list" (q ++ [v])) σ σ') (hq : q.length ≤ sizeLine)
    {n : Nat} (rm : Rm (n + 1) A) : CC X A F0 (.ref adPush) [.ref x, v] σ (fun r τ => r = .none ∧ τ = σ') := by
  refine CC_def rm F.mdPush.bf.fn rfl rfl (by decide +kernel) rfl fun cd L => ?_; refine CK_plain (by decide +kernel) ?_
  refine BD_cons ?_; refine ST_loc (by kernel_rfl) .here .nil ?_; refine BD_cons ?_; refine ST_loc (by kernel_rfl) .here (by tm_at "Mp") ?_; refine BD_nil ?_
  refine XS_cons ?_
  refine EX_Expr (by rfl) (by kernel_rfl) ?_
  refine EV_Meth (by rfl) (by rfl) ?_
  refine EV_Attr (by rfl) ?_
  tm_at "Mgo"
  refine GA_own F.pc (F.own _ (by simp)) (.tail _ hx) (.tail _ hd) (by tm_at "Mm") rfl ?_
  refine GM_list (.tail _ hc.mem) PySem.F.slot_list_append PySem.F.type_list_append ?_
  refine ⟨rfl, ?_⟩
  tm_at "Mgo"
  refine ⟨KP_builtin, CW_append (.there hc) hq ?_⟩
  refine ⟨rfl, ?_⟩
  tm_at "Mgo"
  exact ⟨_, .drop .refl, rfl, rfl⟩
theorem Chg.same {a : Addr} {x : AO} : ∀ {σ σ' : Hp}, Chg a x x σ σ' → σ' = σ
  | _, _, .here => rfl
  | _, _, .there h => by rw [h.same]
noncomputable abbrev rdSt : Stmt := nthSt (bodyOf (topSt 11)) 0
structure StIn (σ : Hp) (st sd rd lc ll : Addr) : Prop where
  fn : ∃ q ps b sc cl, (st, AO.fn q ps b sc cl (some sd)) ∈ σ
  dict : (sd, AO.ns [(("read" : Str), .ref rd)]) ∈ σ
  rd : (rd, AO.fn "_law_stream.<locals>._law_read" (plainPs (asOf rdSt)) (.stmts (bodyOf rdSt)) (scOf rdSt) [(("left" : Str), lc)] none) ∈ σ
  cell : (lc, AO.cell (some (.ref ll))) ∈ σ
theorem StIn.there {q : Addr × AO} {st sd rd lc ll : Addr} (S : StIn σ st sd rd lc ll) : StIn (q :: σ) st sd rd lc ll := ⟨let ⟨a, b, c, d, e, h⟩ := S.fn; ⟨a, b, c, d, e, .tail _ h⟩, .tail _ S.dict, .tail _ S.rd, .tail _ S.cell⟩
theorem ALL_nil {Q : Bool → Hp → Prop} (q : Q true σ) : ALL X A env E [] σ Q := q
theorem ALL_cons {e : Expr} {r : List Expr} {Q : Bool → Hp → Prop} (h : TE X A env E e σ (fun b σ₁ => if b then ALL X A env E r σ₁ Q else Q false σ₁)) : ALL X A env E (e :: r) σ Q := h
theorem ANY_nil {Q : Bool → Hp → Prop} (q : Q false σ) : ANY X A env E [] σ Q := q
theorem ANY_cons {e : Expr} {r : List Expr} {Q : Bool → Hp → Prop} (h : TE X A env E e σ (fun b σ₁ => if b then Q true σ₁ else ANY X A env E r σ₁ Q)) : ANY X A env E (e :: r) σ Q := h
noncomputable abbrev chs (l : List Nat) : List Value := l.map fun c => T [c]
theorem chs_eq (l : List Nat) : chs l = (l.map fun c => [c]).map T := by simp [chs]
theorem lowT_chs {l : List Nat} (h : ∀ c ∈ l, c < 128) : lowT (l.map fun c => [c]) := fun x hx c hc => by
  obtain ⟨d, hd, rfl⟩ := List.mem_map.mp hx
  simp only [List.mem_singleton] at hc
  exact hc ▸ h d hd
theorem c_rd {st sd rd lc ll : Addr} (S : StIn σ st sd rd lc ll) {c : Nat} {r : List Nat} {σ' : Hp} (hs : Chg ll (.seq "list" (chs (c :: r))) (.seq "list" (chs r)) σ σ') (hz : r.length < sizeLine) (hc : c < 128) (hr : ∀ c ∈ r, c < 128) {n : Nat} (rm : Rm (n + 2) A) :
    CC X A F0 (.ref rd) [I 1] σ (fun v τ => v = T [c] ∧ τ = σ') := by
  refine CC_def rm (FN_ao S.rd) rfl rfl (by decide +kernel) rfl fun cd L => ?_
  refine CK_plain (by decide +kernel) ?_
  refine BD_cons ?_; refine ST_loc (by kernel_rfl) .here .nil ?_; refine BD_nil ?_
  refine XS_cons ?_
  tm_at "Mgo"
  refine ALL_cons ?_
  tm_at "Mgo"
  refine ite_of (fun _ => ?_) (fun h => by simp at h)
  refine ALL_cons ?_
  tm_at "Mgo"
  refine EV_free rfl (by kernel_rfl) (by kernel_rfl) (by kernel_rfl) rfl (.tail _ S.cell) ?_
  refine EV_List ?_
  tm_at "Mgo"
  refine ⟨by decide, fun b => ?_⟩
  refine CMP_neT (xs := (c :: r).map fun c => [c]) (ys := []) (rm.deeper _) (.tail _ (.tail _ (chs_eq (c :: r) ▸ hs.mem))) (.head _) (lowT_chs fun d hd => ?_) (fun x hx => by cases hx) ?_
  · rcases List.mem_cons.mp hd with rfl | hd
    · exact hc
    · exact hr d hd
  tm_at "Mgo"
  refine ite_of (fun _ => ?_) (fun h => by simp at h)
  refine ALL_nil ?_
  refine ite_of (fun _ => ?_) (fun h => by simp at h)
  refine EV_Meth (by rfl) (by rfl) ?_
  refine EV_free rfl (by kernel_rfl) (by kernel_rfl) (by kernel_rfl) rfl (.tail _ (.tail _ S.cell)) ?_
  refine GM_list (.tail _ (.tail _ hs.mem)) PySem.F.slot_list_pop PySem.F.type_list_pop ?_
  refine ⟨rfl, ?_⟩
  tm_at "Mgo"
  refine ⟨KP_builtin, CW_pop0 (v := T [c]) (.there (.there hs)) (by simpa using hz) ?_⟩
  exact ⟨_, .drop (.drop .refl), rfl, rfl⟩
theorem c_rd0 {st sd rd lc ll : Addr} (S : StIn σ st sd rd lc ll) (hs : (ll, AO.seq "list" []) ∈ σ) {n : Nat} (rm : Rm (n + 2) A) :
    CC X A F0 (.ref rd) [I 1] σ (fun v τ => v = T [] ∧ τ = σ) := by
  refine CC_def rm (FN_ao S.rd) rfl rfl (by decide +kernel) rfl fun cd L => ?_
  refine CK_plain (by decide +kernel) ?_
  refine BD_cons ?_; refine ST_loc (by kernel_rfl) .here .nil ?_; refine BD_nil ?_
  refine XS_cons ?_
  tm_at "Mgo"
  refine ALL_cons ?_
  tm_at "Mgo"
  refine ite_of (fun _ => ?_) (fun h => by simp at h)
  refine ALL_cons ?_
  tm_at "Mgo"
  refine EV_free rfl (by kernel_rfl) (by kernel_rfl) (by kernel_rfl) rfl (.tail _ S.cell) ?_
  refine EV_List ?_
  tm_at "Mgo"
  refine ⟨by decide, fun b => ?_⟩
  refine CMP_neT (xs := []) (ys := []) (rm.deeper _) (.tail _ (.tail _ hs)) (.head _) (fun x hx => by cases hx) (fun x hx => by cases hx) ?_
  tm_at "Mgo"
  refine ite_of (fun h => by simp at h) (fun _ => ?_)
  refine ite_of (fun h => by simp at h) (fun _ => ?_)
  refine EV_txt [] (by kernel_rfl) ?_
  exact ⟨_, .drop (.drop .refl), rfl, rfl⟩
theorem c_read (F : Facts X) {x dx st sd rd lc ll : Addr} {ln : Nat} {pb : Value} (S : StIn σ st sd rd lc ll) (hx : (x, inst adC dx) ∈ σ) {c : Nat} {r : List Nat} {σ₁ σ' : Hp} (hd : (dx, AO.ns (lexD ln (.ref st) pb)) ∈ σ) (hs : Chg ll (.seq "list" (chs (c :: r))) (.seq "list" (chs r)) σ σ₁)
    (hl : Chg dx (.ns (lexD ln (.ref st) pb)) (.ns (lexD (if c = 10 then ln + 1 else ln) (.ref st) pb)) σ₁ σ') (hx' : (x, inst adC dx) ∈ σ₁) (hz : r.length < sizeLine) (hc : c < 128) (hr : ∀ c ∈ r, c < 128) {n : Nat} (rm : Rm (n + 3) A) :
    CC X A F0 (.ref adRead) [.ref x] σ (fun v τ => v = T [c] ∧ τ = σ') := by
  refine CC_def rm F.mdRead.bf.fn rfl rfl (by decide +kernel) rfl fun cd L => ?_; refine CK_plain (by decide +kernel) ?_
  refine BD_cons ?_; refine ST_loc (by kernel_rfl) .here .nil ?_; refine BD_nil ?_
  refine XS_cons ?_
  tm_at "Mgo"
  refine EV_Meth (by rfl) (by rfl) ?_
  refine EV_Attr (by rfl) ?_
  tm_at "Mgo"
  refine GA_own F.pc (F.own _ (by simp)) (.tail _ hx) (.tail _ hd) (by tm_at "Mm") rfl ?_
  obtain ⟨q, ps, b, sc, cl, hfn⟩ := S.fn
  refine GM_fnattr (.tail _ hfn) (.tail _ S.dict) ?_
  refine ⟨rfl, ?_⟩
  tm_at "Mgo"
  refine ⟨KP_fn (.tail _ S.rd), CC_ret (c_rd S.there (.there hs) hz hc hr (rm.deeper _)) ?_⟩
  tm_at "Mgo"
  refine XS_cons ?_
  tm_at "Mgo"
  refine EV_txt [10] (by kernel_rfl) ?_
  tm_at "Mgo"
  refine ite_of (fun h => ?_) (fun h => ?_)
  · have e : c = 10 := by simpa using h
    refine XS_cons ?_
    refine EX_AugAttr ?_
    tm_at "Mgo"
    refine GA_own F.pc (F.own _ (by simp)) (.tail _ hx') (.tail _ hl.mem) (by tm_at "Mm") rfl ?_
    tm_at "Mgo"
    refine SA_own F.pc (F.own _ (by simp)) (.tail _ hx') (.there hl) ?_ (by simp) ?_
    · (first | refine ifP e ?_ | rw [if_pos e])
      exact .here
    tm_at "Mgo"
    refine XS_cons ?_
    tm_at "Mgo"
    exact ⟨_, .drop .refl, rfl, rfl⟩
  · have e : c ≠ 10 := by simpa using h
    rw [if_neg e] at hl
    have es : σ' = σ₁ := hl.same
    tm_at "Mgo"
    refine XS_cons ?_
    tm_at "Mgo"
    exact ⟨_, .drop .refl, rfl, es.symm⟩
theorem c_read0 (F : Facts X) {x dx st sd rd lc ll : Addr} {ln : Nat} {pb : Value} (S : StIn σ st sd rd lc ll) (hx : (x, inst adC dx) ∈ σ) (hd : (dx, AO.ns (lexD ln (.ref st) pb)) ∈ σ) (hs : (ll, AO.seq "list" []) ∈ σ) {n : Nat} (rm : Rm (n + 3) A) :
    CC X A F0 (.ref adRead) [.ref x] σ (fun v τ => v = T [] ∧ τ = σ) := by
  refine CC_def rm F.mdRead.bf.fn rfl rfl (by decide +kernel) rfl fun cd L => ?_; refine CK_plain (by decide +kernel) ?_
  refine BD_cons ?_; refine ST_loc (by kernel_rfl) .here .nil ?_; refine BD_nil ?_
  refine XS_cons ?_
  tm_at "Mgo"
  refine EV_Meth (by rfl) (by rfl) ?_
  refine EV_Attr (by rfl) ?_
  tm_at "Mgo"
  refine GA_own F.pc (F.own _ (by simp)) (.tail _ hx) (.tail _ hd) (by tm_at "Mm") rfl ?_
  obtain ⟨q, ps, b, sc, cl, hfn⟩ := S.fn
  refine GM_fnattr (.tail _ hfn) (.tail _ S.dict) ?_
  refine ⟨rfl, ?_⟩
  tm_at "Mgo"
  refine ⟨KP_fn (.tail _ S.rd), CC_ret (c_rd0 S.there (.tail _ hs) (rm.deeper _)) ?_⟩
  tm_at "Mgo"
  refine XS_cons ?_
  tm_at "Mgo"
  refine EV_txt [10] (by kernel_rfl) ?_
  tm_at "Mgo"
  refine ite_of (fun h => by simp at h) (fun h => ?_)
  tm_at "Mgo"
  refine XS_cons ?_
  tm_at "Mgo"
  exact ⟨_, .drop .refl, rfl, rfl⟩
end
noncomputable def isW (c : Nat) : Bool := c == 10 || c == 9 || c == 13 || c == 32
noncomputable def quo : List Nat → List Nat → Option (List Nat × List Nat)
  | _, [] => none
  | acc, c :: r => if c = 34 then some (acc, r) else if c = 92 then (match r with | d :: r' => quo (acc ++ [d]) r' | [] => none) else quo (acc ++ [c]) r
noncomputable def bare' : List Nat → List Nat → Option (List Nat × List Nat)
  | acc, [] => some (acc, [])
  | acc, c :: r => if isW c then some (acc, r) else if c = 92 then (match r with | d :: r' => bare' (acc ++ [d]) r' | [] => none) else bare' (acc ++ [c]) r
noncomputable def tok : List Nat → Option (List Nat × List Nat)
  | [] => none
  | c :: r => if isW c then tok r else if c = 34 then quo [] r else if c = 92 then (match r with | d :: r' => bare' [d] r' | [] => none) else bare' [c] r
noncomputable def c10 (l : List Nat) : Nat := (l.filter (· == 10)).length
theorem c10_cons (c : Nat) (r : List Nat) : c10 (c :: r) = (if c = 10 then 1 else 0) + c10 r := by
  unfold c10
  by_cases h : c = 10
  · simp [h]; (first | lia | omega)
  · simp [h]
section
variable {X : Cx} {A : Around} {σ : Hp} {E : Value → Shared → Prop} {env : Env}
noncomputable abbrev LX (C x dx st pb ll : Addr) (ln : Nat) (l : List Nat) (τ : Hp) : Hp := (x, inst C dx) :: (dx, AO.ns (lexD ln (.ref st) (.ref pb))) :: (pb, AO.seq "list" []) :: (ll, AO.seq "list" (chs l)) :: τ
theorem c_readX (F : Facts X) {front : Hp} {x dx st sd rd lc ll pb : Addr} {ln c : Nat} {r : List Nat} {τ : Hp} (S : StIn τ st sd rd lc ll) (hz : r.length < sizeLine) (hc : c < 128) (hr : ∀ c ∈ r, c < 128) {n : Nat} (rm : Rm (n + 3) A) :
    CC X A F0 (.ref adRead) [.ref x] (front ++ LX adC x dx st pb ll ln (c :: r) τ) (fun v τ' => v = T [c] ∧ τ' = front ++ LX adC x dx st pb ll (if c = 10 then ln + 1 else ln) r τ) := by
  have S' : StIn (front ++ LX adC x dx st pb ll ln (c :: r) τ) st sd rd lc ll := by
    obtain ⟨⟨a, b, c, d, e, h1⟩, h2, h3, h4⟩ := S
    exact ⟨⟨a, b, c, d, e, List.mem_append_right _ (.tail _ (.tail _ (.tail _ (.tail _ h1))))⟩, List.mem_append_right _ (.tail _ (.tail _ (.tail _ (.tail _ h2)))), List.mem_append_right _ (.tail _ (.tail _ (.tail _ (.tail _ h3)))), List.mem_append_right _ (.tail _ (.tail _ (.tail _ (.tail _ h4))))⟩
  exact c_read F (σ₁ := front ++ LX adC x dx st pb ll ln r τ) S' (List.mem_append_right _ (.head _)) (List.mem_append_right _ me1) (Chg_app ch3 _) (Chg_app ch1 _) (List.mem_append_right _ (.head _)) hz hc hr rm
theorem c_readX0 (F : Facts X) {front : Hp} {x dx st sd rd lc ll pb : Addr} {ln : Nat} {τ : Hp} (S : StIn τ st sd rd lc ll) {n : Nat} (rm : Rm (n + 3) A) :
    CC X A F0 (.ref adRead) [.ref x] (front ++ LX adC x dx st pb ll ln [] τ) (fun v τ' => v = T [] ∧ τ' = front ++ LX adC x dx st pb ll ln [] τ) := by
  have S' : StIn (front ++ LX adC x dx st pb ll ln [] τ) st sd rd lc ll := by
    obtain ⟨⟨a, b, c, d, e, h1⟩, h2, h3, h4⟩ := S
    exact ⟨⟨a, b, c, d, e, List.mem_append_right _ (.tail _ (.tail _ (.tail _ (.tail _ h1))))⟩, List.mem_append_right _ (.tail _ (.tail _ (.tail _ (.tail _ h2)))), List.mem_append_right _ (.tail _ (.tail _ (.tail _ (.tail _ h3)))), List.mem_append_right _ (.tail _ (.tail _ (.tail _ (.tail _ h4))))⟩
  exact c_read0 F S' (List.mem_append_right _ (.head _)) (List.mem_append_right _ me1) (List.mem_append_right _ me3) rm
theorem c_getpb (F : Facts X) {x dx pb : Addr} {ln : Nat} {st v : Value} {q : List Value} {σ' : Hp} (hx : (x, inst adC dx) ∈ σ) (hd : (dx, AO.ns (lexD ln st (.ref pb))) ∈ σ) (hc : Chg pb (.seq "list" (v :: q)) (.seq "list" q) σ σ') (hq : q.length < sizeLine)
    {n : Nat} (rm : Rm (n + 1) A) : CC X A F0 (.ref adGet) [.ref x] σ (fun r τ => r = v ∧ τ = σ') := by
  refine CC_def rm F.mdGet.bf.fn rfl rfl (by decide +kernel) rfl fun cd L => ?_; refine CK_plain (by decide +kernel) ?_
  refine BD_cons ?_; refine ST_loc (by kernel_rfl) .here .nil ?_; refine BD_nil ?_
  refine XS_cons ?_
  refine EX_If (TE_plain (by rfl) ?_)
  refine EV_Attr (by rfl) ?_
  tm_at "Mgo"
  refine GA_own F.pc (F.own _ (by simp)) (.tail _ hx) (.tail _ hd) (by tm_at "Mm") rfl ?_
  refine TRU_list (.tail _ hc.mem) (by simp; (first | lia | omega)) ?_
  refine ite_of (fun _ => ?_) (fun h => by simp at h)
  refine XS_cons ?_
  tm_at "Mgo"
  refine EV_Meth (by rfl) (by rfl) ?_
  refine EV_Attr (by rfl) ?_
  tm_at "Mgo"
  refine GA_own F.pc (F.own _ (by simp)) (.tail _ hx) (.tail _ hd) (by tm_at "Mm") rfl ?_
  refine GM_list (.tail _ hc.mem) PySem.F.slot_list_pop PySem.F.type_list_pop ?_
  refine ⟨rfl, ?_⟩
  tm_at "Mgo"
  refine ⟨KP_builtin, CW_pop0 (.there hc) hq ?_⟩
  exact ⟨_, .drop .refl, rfl, rfl⟩
end
noncomputable def forBody : Stmt → List Stmt
  | .For _ _ b _ _ => b
  | _ => []
noncomputable def ifBody : Stmt → List Stmt
  | .If _ b _ _ => b
  | _ => []
noncomputable def ifElse : Stmt → List Stmt
  | .If _ _ b _ => b
  | _ => []
noncomputable def gFor : Stmt := nthSt (bodyOf (methSt 2)) 3
noncomputable def gQuo : Stmt := nthSt (ifBody (nthSt (forBody gFor) 1)) 0
noncomputable def gBare : Stmt := nthSt (ifElse (nthSt (forBody gFor) 1)) 2
section
variable {X : Cx} {A : Around} {σ : Hp} {E : Value → Shared → Prop}
noncomputable abbrev gEnv (F : Facts X) (L : Addr) (cd : Value) : Env := fenv (scOf (methSt 2)) L [] ("_netrclex." ++ nmOf (methSt 2)) adGet cd
noncomputable abbrev GS (F : Facts X) (it m x dx st pb ll : Addr) (fr : Addr × AO) (ln : Nat) (l : List Nat) (τ : Hp) : Hp := (it, CI (.ref m) (T [])) :: (m, .obj (methodObj (.ref adRead) (.ref x))) :: fr :: LX adC x dx st pb ll ln l τ
noncomputable abbrev GS0 (F : Facts X) (it m x dx st pb ll : Addr) (fr : Addr × AO) (ln : Nat) (τ : Hp) : Hp := (it, CI0) :: (m, .obj (methodObj (.ref adRead) (.ref x))) :: fr :: LX adC x dx st pb ll ln [] τ
theorem NX_some (F : Facts X) {it m x dx st sd rd lc ll pb : Addr} {fr : Addr × AO} {ln c : Nat} {r : List Nat} {τ : Hp} (S : StIn τ st sd rd lc ll) (hz : r.length < sizeLine) (hc : c < 128) (hr : ∀ c ∈ r, c < 128) {n : Nat} (rm : Rm (n + 4) A) {Q : Option Value → Hp → Prop}
    (q : Q (some (T [c])) (GS F it m x dx st pb ll fr (if c = 10 then ln + 1 else ln) r τ)) : NX X A E it (GS F it m x dx st pb ll fr ln (c :: r) τ) Q := by
  refine NX_CI rm.handled (Callee_method F.mdRead.bf me1) (CC_method me1 ?_)
  refine (c_readX F (front := [(it, CI (.ref m) (T [])), (m, .obj (methodObj (.ref adRead) (.ref x))), fr]) S hz hc hr rm.in1).mono (fun v σ' ⟨e1, e2⟩ => ?_) fun _ _ e => e
  subst e1 e2
  exact ⟨_, _, .refl, Callee_method F.mdRead.bf me1, EQB_str, fun _ => q, fun h => by simp at h⟩
theorem NX_none (F : Facts X) {it m x dx st sd rd lc ll pb : Addr} {fr : Addr × AO} {ln : Nat} {τ : Hp} (S : StIn τ st sd rd lc ll) {n : Nat} (rm : Rm (n + 4) A) {Q : Option Value → Hp → Prop}
    (q : Q none (GS0 F it m x dx st pb ll fr ln τ)) : NX X A E it (GS F it m x dx st pb ll fr ln [] τ) Q := by
  refine NX_CI rm.handled (Callee_method F.mdRead.bf me1) (CC_method me1 ?_)
  refine (c_readX0 F (front := [(it, CI (.ref m) (T [])), (m, .obj (methodObj (.ref adRead) (.ref x))), fr]) S rm.in1).mono (fun v σ' ⟨e1, e2⟩ => ?_) fun _ _ e => e
  subst e1 e2
  exact ⟨_, _, .refl, Callee_method F.mdRead.bf me1, EQB_str, fun h => by simp at h, fun _ => q⟩
noncomputable abbrev gFr (L x it : Addr) (acc : List Nat) (c : List Nat) : Addr × AO := (L, .ns [(("self" : Str), .ref x), (("token" : Str), T acc), (("fiter" : Str), .ref it), (("ch" : Str), T c)])
theorem quo_more {acc : List Nat} {c : Nat} {r : List Nat} {t rest : List Nat} (h : quo acc (c :: r) = some (t, rest)) : (c = 34 ∧ t = acc ∧ rest = r) ∨ (c ≠ 34 ∧ c = 92 ∧ ∃ d r', r = d :: r' ∧ quo (acc ++ [d]) r' = some (t, rest)) ∨ (c ≠ 34 ∧ c ≠ 92 ∧ quo (acc ++ [c]) r = some (t, rest)) := by
  unfold quo at h
  split at h
  · simp at h; exact .inl ⟨by assumption, h.1.symm, h.2.symm⟩
  · split at h
    · cases r with
      | nil => simp at h
      | cons d r' => exact .inr (.inl ⟨by assumption, by assumption, d, r', rfl, h⟩)
    · exact .inr (.inr ⟨by assumption, by assumption, h⟩)
inductive RetTok (x dx st pb ll : Addr) (t rest : List Nat) (K : Nat) (τ : Hp) (f : Flow) (σ' : Hp) : Prop
  | mk (e : f = .ret (T t)) (ln' : Nat) (h : ln' + c10 rest = K) (hp : Pick (LX adC x dx st pb ll ln' rest τ) σ')
inductive EndTok (F : Facts X) (it m x dx st pb ll L : Addr) (t rest : List Nat) (K : Nat) (τ : Hp) (f : Flow) (σ' : Hp) : Prop
  | mk (e : f = .next) (er : rest = []) (c1 : List Nat) (e' : σ' = GS0 F it m x dx st pb ll (gFr L x it t c1) K τ)
inductive TokI (F : Facts X) (it m x dx st pb ll L : Addr) (q : List Nat → List Nat → Option (List Nat × List Nat)) (t rest : List Nat) (K : Nat) (τ : Hp) (n : Nat) (σ' : Hp) : Prop
  | mk (acc l c0 : List Nat) (ln : Nat) (e : σ' = GS F it m x dx st pb ll (gFr L x it acc c0) ln l τ) (hq : q acc l = some (t, rest)) (hb : ∀ c ∈ l, c < 128) (hz : acc.length + l.length < 1000000) (hK : ln + c10 l = K) (en : n = l.length)
theorem for_quo (F : Facts X) {L it m x dx st sd rd lc ll pb : Addr} {cd : Value} {τ : Hp} (S : StIn τ st sd rd lc ll) {t rest : List Nat} {n K : Nat} (rm : Rm (n + 5) A) {ln : Nat} {acc l c0 : List Nat} (hq : quo acc l = some (t, rest)) (hb : ∀ c ∈ l, c < 128) (hz : acc.length + l.length < 1000000) (hK : ln + c10 l = K) :
    EX X A (gEnv F L cd) F0 gQuo (GS F it m x dx st pb ll (gFr L x it acc c0) ln l τ) (RetTok x dx st pb ll t rest K τ) := by
  have hsz := sizeLine_eq
  refine EX_For (fun _ => by rfl) ?_
  tm_at "Mgo"
  refine PI_fldE (.head _) ⟨it, rfl, TokI F it m x dx st pb ll L quo t rest K τ, l.length, ⟨acc, l, c0, ln, rfl, hq, hb, hz, hK, rfl⟩, ?_⟩
  rintro _ _ ⟨acc, l, c0, ln, rfl, hq, hb, hz, hK, rfl⟩
  unfold Turn
  cases l with
  | nil => simp [quo] at hq
  | cons c r =>
    have hc : c < 128 := hb c (.head _)
    have hr : ∀ c ∈ r, c < 128 := fun d hd => hb d (.tail _ hd)
    simp only [List.length_cons] at hz
    refine NX_some F S (by (first | lia | omega)) hc hr rm ?_
    refine LG_Name (AS_Name ?_)
    (with_reducible refine' ST_loc ?_ ?_ ?_ ?_); rotate_left 3; (kernel_rfl); (tm_at "Mc"); (tm_at "Mp")
    refine XS_cons ?_
    tm_at "Mgo"
    refine EV_txt [34] (by kernel_rfl) ?_
    tm_at "Mgo"
    have hcn : (if c = 10 then ln + 1 else ln) + c10 r = K := by rw [← hK, c10_cons]; split <;> (first | lia | omega)
    refine ite_of (fun h => ?_) (fun h => ?_)
    · have e : c = 34 := by simpa using h
      rcases quo_more hq with ⟨_, rfl, rfl⟩ | ⟨h1, _⟩ | ⟨h1, _⟩
      · refine XS_cons ?_
        tm_at "Mgo"
        exact ⟨_, fun _ R => R, rfl, _, hcn, .drop (.drop (.drop .refl))⟩
      · exact absurd e h1
      · exact absurd e h1
    · have e : c ≠ 34 := by simpa using h
      refine XS_cons ?_
      tm_at "Mgo"
      refine EV_txt [92] (by kernel_rfl) ?_
      tm_at "Mgo"
      refine ite_of (fun h => ?_) (fun h => ?_)
      · have e2 : c = 92 := by simpa using h
        rcases quo_more hq with ⟨h1, _⟩ | ⟨_, _, d, r', rfl, hq'⟩ | ⟨_, h1, _⟩
        · exact absurd h1 e
        · have hz2 : acc.length + (r'.length + 1 + 1) < 1000000 := by simpa using hz
          refine XS_cons ?_
          tm_at "Mgo"
          refine EV_Meth (by rfl) (by rfl) ?_
          tm_at "Mgo"
          refine GM_fn F.pc F.mdRead.pm me3 me4 (by kernel_rfl) ?_
          refine ⟨rfl, ?_⟩
          tm_at "Mgo"
          refine ⟨KP_base F.mdRead.pm.kp, CC_ret (c_readX F (n := n + 2) (front := [_, _, _]) S (by (first | lia | omega)) (hr d (.head _)) (fun b hb => hr b (.tail _ hb)) rm) ?_⟩
          tm_at "Mgo"
          refine XS_cons ?_
          refine EX_Aug ?_
          refine loadName_L rfl (by kernel_rfl) (by tm_at "Mm") (by tm_at "Mm") ?_
          tm_at "Mgo"
          refine IOP_adds (by simp; (first | lia | omega)) ?_
          tm_at "Mgo"
          refine ⟨r'.length, _, fun _ R => R, by simp only [List.length_cons]; (first | lia | omega), acc ++ [d], r', [d], _, rfl, hq', fun b hb => hr b (.tail _ hb), by simp; (first | lia | omega), ?_, rfl⟩
          rw [← hcn, c10_cons d r']
          split <;> (first | lia | omega)
        · exact absurd e2 h1
      · have e2 : c ≠ 92 := by simpa using h
        rcases quo_more hq with ⟨h1, _⟩ | ⟨_, h1, _⟩ | ⟨_, _, hq'⟩
        · exact absurd h1 e
        · exact absurd h1 e2
        · tm_at "Mgo"
          refine XS_cons ?_
          refine EX_Aug ?_
          refine loadName_L rfl (by kernel_rfl) (by tm_at "Mm") (by tm_at "Mm") ?_
          tm_at "Mgo"
          refine IOP_adds (by simp; (first | lia | omega)) ?_
          tm_at "Mgo"
          exact ⟨r.length, _, fun _ R => R, by simp, acc ++ [c], r, [c], _, rfl, hq', hr, by simp; (first | lia | omega), hcn, rfl⟩
end
theorem isW_in (c : Nat) : decide (c ∈ [10, 9, 13, 32]) = isW c := by
  simp [isW]; cases h1 : c == 10 <;> cases h2 : c == 9 <;> cases h3 : c == 13 <;> cases h4 : c == 32 <;> simp_all
set_option tactic.hygienic true in
theorem bare_more {acc : List Nat} {c : Nat} {r : List Nat} {t rest : List Nat} (h : bare' acc (c :: r) = some (t, rest)) : (isW c = true ∧ t = acc ∧ rest = r) ∨ (isW c = false ∧ c = 92 ∧ ∃ d r', r = d :: r' ∧ bare' (acc ++ [d]) r' = some (t, rest)) ∨ (isW c = false ∧ c ≠ 92 ∧ bare' (acc ++ [c]) r = some (t, rest)) := by
  unfold bare' at h
  split at h
  · simp at h; exact .inl ⟨by assumption, h.1.symm, h.2.symm⟩
  · rename_i hw
    have hw : isW c = false := by simpa using hw
    split at h
    · cases r with
      | nil => simp at h
      | cons d r' => exact .inr (.inl ⟨hw, by assumption, d, r', rfl, h⟩)
    · exact .inr (.inr ⟨hw, by assumption, h⟩)
section
variable {X : Cx} {A : Around} {σ : Hp} {E : Value → Shared → Prop}
set_option tactic.hygienic true in
theorem for_bare (F : Facts X) {L it m x dx st sd rd lc ll pb : Addr} {cd : Value} {τ : Hp} (S : StIn τ st sd rd lc ll) {t rest : List Nat} {n K : Nat} (rm : Rm (n + 5) A) {ln : Nat} {acc l c0 : List Nat} (hq : bare' acc l = some (t, rest)) (hb : ∀ c ∈ l, c < 128) (hz : acc.length + l.length < 1000000) (hK : ln + c10 l = K) :
    EX X A (gEnv F L cd) F0 gBare (GS F it m x dx st pb ll (gFr L x it acc c0) ln l τ) (fun f σ' => RetTok x dx st pb ll t rest K τ f σ' ∨ EndTok F it m x dx st pb ll L t rest K τ f σ') := by
  have hsz := sizeLine_eq
  refine EX_For (fun _ => by rfl) ?_
  tm_at "Mgo"
  refine PI_fldE (.head _) ⟨it, rfl, TokI F it m x dx st pb ll L bare' t rest K τ, l.length, ⟨acc, l, c0, ln, rfl, hq, hb, hz, hK, rfl⟩, ?_⟩
  rintro _ _ ⟨acc, l, c0, ln, rfl, hq, hb, hz, hK, rfl⟩
  unfold Turn
  cases l with
  | nil =>
    simp [bare'] at hq
    obtain ⟨rfl, rfl⟩ := hq
    refine NX_none F S rm ⟨_, fun _ R => R, .inr ⟨rfl, rfl, c0, ?_⟩⟩
    have : ln = K := by simpa [c10] using hK
    (first | (refine rwG this ?_; try (with_reducible rfl)) | rw [this])
  | cons c r =>
    have hc : c < 128 := hb c (.head _)
    have hr : ∀ c ∈ r, c < 128 := fun d hd => hb d (.tail _ hd)
    simp only [List.length_cons] at hz
    refine NX_some F S (by (first | lia | omega)) hc hr rm ?_
    refine LG_Name (AS_Name ?_)
    (with_reducible refine' ST_loc ?_ ?_ ?_ ?_); rotate_left 3; (kernel_rfl); (tm_at "Mc"); (tm_at "Mp")
    refine XS_cons ?_
    tm_at "Mgo"
    refine EV_Attr (by rfl) ?_
    tm_at "Mgo"
    refine GA_own F.pc (F.own _ (by simp)) me3 me4 (by tm_at "Mm") rfl ?_
    refine CMP_in1 ?_
    tm_at "Mgo"
    (first | (refine rwG isW_in ?_; try (with_reducible rfl)) | rw [isW_in])
    have hcn : (if c = 10 then ln + 1 else ln) + c10 r = K := by rw [← hK, c10_cons]; split <;> (first | lia | omega)
    refine ite_of (fun h => ?_) (fun h => ?_)
    · rcases bare_more hq with ⟨_, rfl, rfl⟩ | ⟨h1, _⟩ | ⟨h1, _⟩
      · refine XS_cons ?_
        tm_at "Mgo"
        exact ⟨_, fun _ R => R, .inl ⟨rfl, _, hcn, .drop (.drop (.drop .refl))⟩⟩
      · rw [h] at h1; cases h1
      · rw [h] at h1; cases h1
    · refine XS_cons ?_
      tm_at "Mgo"
      refine EV_txt [92] (by kernel_rfl) ?_
      tm_at "Mgo"
      refine ite_of (fun h => ?_) (fun h => ?_)
      · have e2 : c = 92 := by simpa using h
        rcases bare_more hq with ⟨h1, _⟩ | ⟨_, _, d, r', rfl, hq'⟩ | ⟨_, h1, _⟩
        · rename_i h0 _
          rw [h1] at h0; cases h0
        · have hz2 : acc.length + (r'.length + 1 + 1) < 1000000 := by simpa using hz
          refine XS_cons ?_
          tm_at "Mgo"
          refine EV_Meth (by rfl) (by rfl) ?_
          tm_at "Mgo"
          refine GM_fn F.pc F.mdRead.pm me3 me4 (by kernel_rfl) ?_
          refine ⟨rfl, ?_⟩
          tm_at "Mgo"
          refine ⟨KP_base F.mdRead.pm.kp, CC_ret (c_readX F (n := n + 2) (front := [_, _, _]) S (by (first | lia | omega)) (hr d (.head _)) (fun b hb => hr b (.tail _ hb)) rm) ?_⟩
          tm_at "Mgo"
          refine XS_cons ?_
          refine EX_Aug ?_
          refine loadName_L rfl (by kernel_rfl) (by tm_at "Mm") (by tm_at "Mm") ?_
          tm_at "Mgo"
          refine IOP_adds (by simp; (first | lia | omega)) ?_
          tm_at "Mgo"
          refine ⟨r'.length, _, fun _ R => R, by simp only [List.length_cons]; (first | lia | omega), acc ++ [d], r', [d], _, rfl, hq', fun b hb => hr b (.tail _ hb), by simp; (first | lia | omega), ?_, rfl⟩
          rw [← hcn, c10_cons d r']
          split <;> (first | lia | omega)
        · exact absurd e2 h1
      · have e2 : c ≠ 92 := by simpa using h
        rcases bare_more hq with ⟨h1, _⟩ | ⟨_, h1, _⟩ | ⟨_, _, hq'⟩
        · rename_i h0 _
          rw [h1] at h0; cases h0
        · exact absurd h1 e2
        · tm_at "Mgo"
          refine XS_cons ?_
          refine EX_Aug ?_
          refine loadName_L rfl (by kernel_rfl) (by tm_at "Mm") (by tm_at "Mm") ?_
          tm_at "Mgo"
          refine IOP_adds (by simp; (first | lia | omega)) ?_
          tm_at "Mgo"
          exact ⟨r.length, _, fun _ R => R, by simp, acc ++ [c], r, [c], _, rfl, hq', hr, by simp; (first | lia | omega), hcn, rfl⟩
end
set_option tactic.hygienic true in
theorem tok_more {c : Nat} {r : List Nat} {t rest : List Nat} (h : tok (c :: r) = some (t, rest)) : (isW c = true ∧ tok r = some (t, rest)) ∨ (isW c = false ∧ c = 34 ∧ quo [] r = some (t, rest)) ∨ (isW c = false ∧ c ≠ 34 ∧ c = 92 ∧ ∃ d r', r = d :: r' ∧ bare' [d] r' = some (t, rest)) ∨ (isW c = false ∧ c ≠ 34 ∧ c ≠ 92 ∧ bare' [c] r = some (t, rest)) := by
  unfold tok at h
  split at h
  · exact .inl ⟨by assumption, h⟩
  · rename_i hw
    have hw : isW c = false := by simpa using hw
    split at h
    · exact .inr (.inl ⟨hw, by assumption, h⟩)
    · split at h
      · cases r with
        | nil => simp at h
        | cons d r' => exact .inr (.inr (.inl ⟨hw, by assumption, by assumption, d, r', rfl, h⟩))
      · exact .inr (.inr (.inr ⟨hw, by assumption, by assumption, h⟩))
section
variable {X : Cx} {A : Around} {σ : Hp} {E : Value → Shared → Prop}
noncomputable abbrev gEs (x it : Addr) : List (Str × Value) := [(("self" : Str), .ref x), (("token" : Str), T []), (("fiter" : Str), .ref it)]
inductive TokO (F : Facts X) (it m x dx st pb ll L : Addr) (t rest : List Nat) (K : Nat) (τ : Hp) (n : Nat) (σ' : Hp) : Prop
  | mk (es : List (Str × Value)) (l : List Nat) (ln : Nat) (e : σ' = GS F it m x dx st pb ll (L, .ns es) ln l τ) (he : es = gEs x it ∨ ∃ c0, es = gEs x it ++ [(("ch" : Str), T c0)]) (hq : tok l = some (t, rest)) (hb : ∀ c ∈ l, c < 128) (hz : l.length < 999000) (hK : ln + c10 l = K) (en : n = l.length + 1)
inductive TokE (F : Facts X) (it m x dx st pb ll L : Addr) (t rest : List Nat) (K : Nat) (τ : Hp) (n : Nat) (σ' : Hp) : Prop
  | mk (en : n = 0) (er : rest = []) (c1 : List Nat) (e' : σ' = GS0 F it m x dx st pb ll (gFr L x it t c1) K τ)
theorem for_out (F : Facts X) {L it m x dx st sd rd lc ll pb : Addr} {cd : Value} {τ : Hp} (S : StIn τ st sd rd lc ll) {t rest : List Nat} {n K : Nat} (rm : Rm (n + 5) A) {ln : Nat} {l : List Nat} (hq : tok l = some (t, rest)) (hb : ∀ c ∈ l, c < 128) (hz : l.length < 999000) (hK : ln + c10 l = K) :
    EX X A (gEnv F L cd) F0 gFor (GS F it m x dx st pb ll (L, .ns (gEs x it)) ln l τ) (fun f σ' => RetTok x dx st pb ll t rest K τ f σ' ∨ EndTok F it m x dx st pb ll L t rest K τ f σ') := by
  have hsz := sizeLine_eq
  refine EX_For (fun _ => by rfl) ?_
  tm_at "Mgo"
  refine PI_fldE (.head _) ⟨it, rfl, fun n σ' => TokO F it m x dx st pb ll L t rest K τ n σ' ∨ TokE F it m x dx st pb ll L t rest K τ n σ', l.length + 1, .inl ⟨_, l, ln, rfl, .inl rfl, hq, hb, hz, hK, rfl⟩, ?_⟩
  rintro _ _ (⟨es, l, ln, rfl, hes, hq, hb, hz, hK, rfl⟩ | ⟨rfl, hrest, c1, rfl⟩)
  · unfold Turn
    cases l with
    | nil => simp [tok] at hq
    | cons c r =>
      have hc : c < 128 := hb c (.head _)
      have hr : ∀ c ∈ r, c < 128 := fun d hd => hb d (.tail _ hd)
      simp only [List.length_cons] at hz
      refine NX_some F S (by (first | lia | omega)) hc hr rm ?_
      refine LG_Name (AS_Name ?_)
      have hput : Put ("ch" : Str) (T [c]) es (gEs x it ++ [(("ch" : Str), T [c])]) := by
        rcases hes with rfl | ⟨c0, rfl⟩
        · exact .there (by decide +kernel) (.there (by decide +kernel) (.there (by decide +kernel) .nil))
        · exact .there (by decide +kernel) (.there (by decide +kernel) (.there (by decide +kernel) .here))
      refine ST_loc (by kernel_rfl) ch2 hput ?_
      refine XS_cons ?_
      tm_at "Mgo"
      refine EV_Attr (by rfl) ?_
      tm_at "Mgo"
      refine GA_own F.pc (F.own _ (by simp)) me3 me4 (by tm_at "Mm") rfl ?_
      refine CMP_in1 ?_
      tm_at "Mgo"
      (first | (refine rwG isW_in ?_; try (with_reducible rfl)) | rw [isW_in])
      have hcn : (if c = 10 then ln + 1 else ln) + c10 r = K := by rw [← hK, c10_cons]; split <;> (first | lia | omega)
      refine ite_of (fun h => ?_) (fun h => ?_)
      · rcases tok_more hq with ⟨_, hq'⟩ | ⟨h1, _⟩ | ⟨h1, _⟩ | ⟨h1, _⟩
        · refine XS_cons ?_
          tm_at "Mgo"
          exact ⟨r.length + 1, _, fun _ R => R, by simp, .inl ⟨_, r, _, rfl, .inr ⟨_, rfl⟩, hq', hr, by (first | lia | omega), hcn, rfl⟩⟩
        all_goals (rw [h] at h1; cases h1)
      · have hw : isW c = false := h
        tm_at "Mgo"
        refine XS_cons ?_
        tm_at "Mgo"
        refine EV_txt [34] (by kernel_rfl) ?_
        tm_at "Mgo"
        refine ite_of (fun h => ?_) (fun h => ?_)
        · have e : c = 34 := by simpa using h
          rcases tok_more hq with ⟨h1, _⟩ | ⟨_, _, hq'⟩ | ⟨_, h1, _⟩ | ⟨_, h1, _⟩
          · rw [hw] at h1; cases h1
          · refine XS_cons ?_
            refine (for_quo F (c0 := [c]) S rm hq' hr (by simp; (first | lia | omega)) hcn).mono fun f σ' ⟨ef, ln', h1, h2⟩ => ?_
            subst ef
            exact ⟨_, fun _ R => R, .inl ⟨rfl, ln', h1, h2⟩⟩
          · exact absurd e h1
          · exact absurd e h1
        · have e : c ≠ 34 := by simpa using h
          have fin : ∀ {c0 : List Nat} {ln' : Nat} {acc r' : List Nat}, bare' acc r' = some (t, rest) → (∀ c ∈ r', c < 128) → acc.length + r'.length < 1000000 → ln' + c10 r' = K →
              EX X A (gEnv F L cd) F0 gBare (GS F it m x dx st pb ll (gFr L x it acc c0) ln' r' τ) (fun f σ' => RetTok x dx st pb ll t rest K τ f σ' ∨ EndTok F it m x dx st pb ll L t rest K τ f σ') :=
            fun h1 h2 h3 h4 => for_bare F S rm h1 h2 h3 h4
          refine XS_cons ?_
          tm_at "Mgo"
          refine EV_txt [92] (by kernel_rfl) ?_
          tm_at "Mgo"
          refine ite_of (fun h => ?_) (fun h => ?_)
          · have e2 : c = 92 := by simpa using h
            rcases tok_more hq with ⟨h1, _⟩ | ⟨_, h1, _⟩ | ⟨_, _, _, d, r', rfl, hq'⟩ | ⟨_, _, h1, _⟩
            · rw [hw] at h1; cases h1
            · exact absurd h1 e
            · have hz2 : r'.length + 1 + 1 < 999000 := by simpa using hz
              refine XS_cons ?_
              tm_at "Mgo"
              refine EV_Meth (by rfl) (by rfl) ?_
              tm_at "Mgo"
              refine GM_fn F.pc F.mdRead.pm me3 me4 (by kernel_rfl) ?_
              refine ⟨rfl, ?_⟩
              tm_at "Mgo"
              refine ⟨KP_base F.mdRead.pm.kp, CC_ret (c_readX F (n := n + 2) (front := [_, _, _]) S (by (first | lia | omega)) (hr d (.head _)) (fun b hb => hr b (.tail _ hb)) rm) ?_⟩
              tm_at "Mgo"
              refine XS_cons ?_
              refine EX_Aug ?_
              refine loadName_L rfl (by kernel_rfl) (by tm_at "Mm") (by tm_at "Mm") ?_
              tm_at "Mgo"
              refine IOP_adds (by simp; (first | lia | omega)) ?_
              tm_at "Mgo"
              refine XS_cons ?_
              refine (fin (c0 := [d]) hq' (fun b hb => hr b (.tail _ hb)) (by simp; (first | lia | omega)) (by rw [← hcn, c10_cons d r']; split <;> (first | lia | omega))).mono fun f σ' hf => ?_
              rcases hf with ⟨ef, ln', h1, h2⟩ | ⟨ef, h1, c1, h2⟩
              · subst ef
                exact ⟨_, fun _ R => R, .inl ⟨rfl, ln', h1, h2⟩⟩
              · subst ef h2
                tm_at "Mgo"
                exact ⟨0, _, fun _ R => R, by (first | lia | omega), .inr ⟨rfl, h1, c1, rfl⟩⟩
            · exact absurd e2 h1
          · have e2 : c ≠ 92 := by simpa using h
            rcases tok_more hq with ⟨h1, _⟩ | ⟨_, h1, _⟩ | ⟨_, _, h1, _⟩ | ⟨_, _, _, hq'⟩
            · rw [hw] at h1; cases h1
            · exact absurd h1 e
            · exact absurd h1 e2
            · tm_at "Mgo"
              refine XS_cons ?_
              refine EX_Aug ?_
              refine loadName_L rfl (by kernel_rfl) (by tm_at "Mm") (by tm_at "Mm") ?_
              tm_at "Mgo"
              refine IOP_adds (by simp; (first | lia | omega)) ?_
              tm_at "Mgo"
              refine XS_cons ?_
              refine (fin (c0 := [c]) hq' hr (by simp; (first | lia | omega)) hcn).mono fun f σ' hf => ?_
              rcases hf with ⟨ef, ln', h1, h2⟩ | ⟨ef, h1, c1, h2⟩
              · subst ef
                exact ⟨_, fun _ R => R, .inl ⟨rfl, ln', h1, h2⟩⟩
              · subst ef h2
                tm_at "Mgo"
                exact ⟨0, _, fun _ R => R, by (first | lia | omega), .inr ⟨rfl, h1, c1, rfl⟩⟩
  · unfold Turn
    exact NX_CI0 rm.handled ⟨_, fun _ R => R, .inr ⟨rfl, hrest, c1, rfl⟩⟩
theorem c_tok (F : Facts X) {x dx st sd rd lc ll pb : Addr} {τ : Hp} (S : StIn τ st sd rd lc ll) {t rest : List Nat} {n K : Nat} (rm : Rm (n + 6) A) {ln : Nat} {l : List Nat} (hq : tok l = some (t, rest)) (hb : ∀ c ∈ l, c < 128) (hz : l.length < 999000) (hK : ln + c10 l = K) :
    CC X A F0 (.ref adGet) [.ref x] (LX adC x dx st pb ll ln l τ) (fun v σ' => v = T t ∧ ∃ ln', ln' + c10 rest = K ∧ σ' = LX adC x dx st pb ll ln' rest τ) := by
  refine CC_def rm F.mdGet.bf.fn rfl rfl (by decide +kernel) rfl fun cd L => ?_; refine CK_plain (by decide +kernel) ?_
  refine BD_cons ?_; refine ST_loc (by kernel_rfl) .here .nil ?_; refine BD_nil ?_
  refine XS_cons ?_
  refine EX_If (TE_plain (by rfl) ?_)
  refine EV_Attr (by rfl) ?_
  tm_at "Mgo"
  refine GA_own F.pc (F.own _ (by simp)) me1 me2 (by tm_at "Mm") rfl ?_
  refine TRU_list me3 (by simp) ?_
  refine ite_of (fun h => by simp at h) (fun _ => ?_)
  tm_at "Mgo"
  refine XS_cons ?_
  tm_at "Mgo"
  refine EV_txt [] (by kernel_rfl) ?_
  tm_at "Mgo"
  refine XS_cons ?_
  tm_at "Mgo"
  refine EV_CallN (by rfl) ?_; refine EV_builtin F.bIter (by rfl) (by kernel_rfl) (by kernel_rfl) (by rfl) (by rfl) ?_; refine ⟨rfl, ?_⟩
  tm_at "Mgo"
  refine EV_Attr (by rfl) ?_
  tm_at "Mgo"
  refine GA_bound F.pc F.mdRead.pm me1 me2 (by kernel_rfl) fun m => ?_
  tm_at "Mgo"
  refine EV_txt [] (by kernel_rfl) ?_
  tm_at "Mgo"
  refine ⟨KP_builtin, CW_iter2 (Callee_method F.mdRead.bf (.head _)) fun it => ?_⟩
  tm_at "Mgo"
  refine XS_cons ?_
  refine (for_out F S (rm.deeper _) hq hb hz hK).mono fun f σ' hf => ?_
  rcases hf with ⟨ef, ln', h1, h2⟩ | ⟨ef, h1, c1, h2⟩
  · subst ef
    exact ⟨_, h2, rfl, ln', h1, rfl⟩
  · subst ef h2 h1
    tm_at "Mgo"
    refine XS_cons ?_
    tm_at "Mgo"
    exact ⟨_, .drop (.drop (.drop .refl)), rfl, K, by simp [c10], rfl⟩
end
section
variable {X : Cx} {A : Around} {σ : Hp} {E : Value → Shared → Prop}
theorem c_stream (F : Facts X) {ll : Addr} {n : Nat} (rm : Rm (n + 2) A) : CC X A F0 (.ref adStream) [.ref ll] σ (fun v σ' => ∃ st sd rd lc q ps b sc cl, v = .ref st ∧
    σ' = (sd, AO.ns [(("read" : Str), .ref rd)]) :: (st, AO.fn q ps b sc cl (some sd)) :: (rd, AO.fn "_law_stream.<locals>._law_read" (plainPs (asOf rdSt)) (.stmts (bodyOf rdSt)) (scOf rdSt) [(("left" : Str), lc)] none) :: (lc, AO.cell (some (.ref ll))) :: σ) := by
  refine CC_defC rm (F.dStream.bf.fnc (C := fun cd => cd = .ref tabS.c) F.cS) rfl rfl (by decide +kernel) rfl fun cd hcd L => ?_
  subst hcd
  refine CK_cell fun lc => ?_
  refine CK_plain (by decide +kernel) ?_
  refine BD_cons ?_
  refine ST_cell rfl (by kernel_rfl) rfl .here ?_
  refine BD_nil ?_
  refine XS_cons ?_
  refine EX_Def F.kS (q := "_law_stream.<locals>._law_read") rfl (by kernel_rfl) rfl rfl rfl F.nS fun rd => ?_
  refine ST_loc (by kernel_rfl) ch2 .nil ?_
  tm_at "Mgo"
  refine XS_cons ?_
  tm_at "Mgo"
  refine EV_Lambda F.kS (q := "_law_stream.<locals>.<lambda>") rfl (by kernel_rfl) rfl rfl rfl F.nL fun st => ?_
  tm_at "Mgo"
  refine XS_cons ?_
  refine EX_AssignAttr (by kernel_rfl) ?_
  tm_at "Mgo"
  refine SA_fn fun sd => ?_
  refine XS_cons ?_
  tm_at "Mgo"
  exact ⟨_, .take .here (.take .here (.take .here (.take .here (.drop .refl)))), st, sd, rd, lc, _, _, _, _, _, rfl, rfl⟩
theorem c_init (F : Facts X) {x dx : Addr} {st : Value} (hst : bare st = true) {n : Nat} (rm : Rm (n + 2) A) : CC X A F0 (.ref adInit) [.ref x, st] ((x, inst adC dx) :: (dx, .ns []) :: σ) (fun v σ' => v = .none ∧ ∃ pb, σ' = (x, inst adC dx) :: (dx, AO.ns (lexD 1 st (.ref pb))) :: (pb, .seq "list" []) :: σ) := by
  refine CC_def rm F.mdInit.bf.fn rfl rfl (by decide +kernel) rfl fun cd L => ?_; refine CK_plain (by decide +kernel) ?_
  refine BD_cons ?_; refine ST_loc (by kernel_rfl) .here .nil ?_; refine BD_cons ?_; refine ST_loc (by kernel_rfl) .here (by tm_at "Mp") ?_; refine BD_nil ?_
  refine XS_cons ?_
  refine EX_AssignAttr (by kernel_rfl) ?_
  tm_at "Mgo"
  refine SA_own F.pc (F.own _ (by simp)) me1 ch2 .nil (by simp) ?_
  refine XS_cons ?_
  refine EX_AssignAttr (by kernel_rfl) ?_
  tm_at "Mgo"
  refine SA_own F.pc (F.own _ (by simp)) me1 ch2 (by tm_at "Mp") (by simp) ?_
  refine XS_cons ?_
  refine EX_AssignAttr (by kernel_rfl) ?_
  refine EV_txt [10, 9, 13, 32] (by kernel_rfl) ?_
  tm_at "Mgo"
  refine SA_own F.pc (F.own _ (by simp)) me1 ch2 (by tm_at "Mp") (by simp) ?_
  refine XS_cons ?_
  refine EX_AssignAttr (by kernel_rfl) ?_
  refine EV_List ?_
  tm_at "Mgo"
  refine ⟨by simp, fun pb => ?_⟩
  tm_at "Mgo"
  refine SA_own F.pc (F.own _ (by simp)) me2 ch3 (by tm_at "Mp") (by simp) ?_
  tm_at "Mgo"
  exact ⟨_, .take ex2 (.take ex2 (.take .here (.drop .refl))), rfl, pb, rfl⟩
theorem c_lex (F : Facts X) {st : Value} (hst : bare st = true) {n : Nat} (rm : Rm (n + 4) A) : CC X A F0 (.ref adC) [st] σ (fun v σ' => ∃ x dx pb, v = .ref x ∧ σ' = (x, inst adC dx) :: (dx, AO.ns (lexD 1 st (.ref pb))) :: (pb, .seq "list" []) :: σ) :=
  CC_class F.mks F.init F.mdInit.pm.ty rm fun A' x dx rm' => (c_init F hst (n := n + 1) rm').mono (fun v σ' ⟨e, pb, e2⟩ => ⟨e, x, dx, pb, rfl, e2⟩) fun _ _ e => e
end
section
variable {X : Cx} {A : Around} {σ : Hp} {E : Value → Shared → Prop}
noncomputable abbrev LQ (C x dx pb : Addr) (st : Value) (q : List Value) (τ : Hp) : Hp := (x, inst C dx) :: (dx, AO.ns (lexD 1 st (.ref pb))) :: (pb, .seq "list" q) :: τ
theorem small_n {d : Nat} (h : d < 2 ^ 40) : Builtin.Range.small 0 (d : Int) 1 = true := small_one (by (first | lia | omega)) (by (first | lia | omega)) (by (first | lia | omega)) (by (first | lia | omega))
theorem size_n (d : Nat) : Builtin.Range.rangeSize 0 (d : Int) 1 = ((d : Nat) : Int) := by rw [rangeSize_one]; split <;> (first | lia | omega)
inductive LineI (C : Addr) (d : Nat) (x dx pb st L : Addr) (σ : Hp) (i : Nat) (τ : Hp) : Prop
  | mk (es : List (Str × Value)) (he : es = [(("waiting" : Str), I (d : Int)), (("lexer" : Str), Value.ref x)] ∨ ∃ k, es = [(("waiting" : Str), I (d : Int)), (("lexer" : Str), Value.ref x), (("k" : Str), k)]) (hp : Pick ((L, AO.ns es) :: LQ C x dx pb (.ref st) (List.replicate i (T [64])) σ) τ)
theorem c_line (F : Facts X) {d : Nat} (hd : d < 1000) {n : Nat} (rm : Rm (n + 6) A) : CC X A F0 (.ref adLine) [I d] σ (fun v σ' => ∃ x dx pb st, v = .ref x ∧ σ' = LQ adC x dx pb st (List.replicate d (T [64])) σ) := by
  have hsz := sizeLine_eq
  refine CC_def rm F.dLine.bf.fn rfl rfl (by decide +kernel) rfl fun cd L => ?_; refine CK_plain (by decide +kernel) ?_
  refine BD_cons ?_; refine ST_loc (by kernel_rfl) .here .nil ?_; refine BD_nil ?_
  refine XS_cons ?_
  tm_at "Mgo"
  refine EV_CallN (by rfl) ?_; refine EV_global F.cls (by rfl) (by kernel_rfl) (by kernel_rfl) (by rfl) ?_; refine ⟨rfl, ?_⟩
  refine ES_con (by rfl) ?_
  refine EV_CallN (by rfl) ?_; refine EV_global F.dStream.glob (by rfl) (by kernel_rfl) (by kernel_rfl) (by rfl) ?_; refine ⟨rfl, ?_⟩
  refine ES_con (by rfl) ?_
  refine EV_List ?_
  refine ES_con (by rfl) ?_
  refine EV_txt [126] (by kernel_rfl) ?_
  tm_at "Mgo"
  refine ⟨by simp; (first | lia | omega), fun ll => ?_⟩
  tm_at "Mgo"
  refine ⟨KP_base F.dStream.bf.kp, CW_use (c_stream F (n := n + 3) (rm.deeper _)).any ?_⟩
  rintro v σ' ⟨st, sd, rd, lc, q, ps, b, sc, cl, rfl, rfl⟩
  tm_at "Mgo"
  refine ⟨KP_base F.kpC, CW_use (c_lex F rfl (n := n + 1) (rm.deeper _)).any ?_⟩
  rintro v σ' ⟨x, dx, pb, rfl, rfl⟩
  tm_at "Mgo"
  refine XS_cons ?_
  refine W_pick (σ' := ((fenv (scOf (topSt 14)) L [] (nmOf (topSt 14)) adLine cd).locals, AO.ns [(("waiting" : Str), I (d : Int)), (("lexer" : Str), .ref x)]) :: LQ adC x dx pb (.ref st) [] σ) (.take ex8 (.take .here (.take .here (.take .here (.drop (.drop (.drop (.drop (.drop .refl))))))))) ?_
  refine EX_ForRange rm.handled (fun _ => by rfl) (LineI adC d x dx pb st (fenv (scOf (topSt 14)) L [] (nmOf (topSt 14)) adLine cd).locals σ) ?_ (fun _ _ _ _ q => LG_Name q)
  refine EV_CallN (by rfl) ?_; refine EV_builtin F.bRange (by rfl) (by kernel_rfl) (by kernel_rfl) (by rfl) (by rfl) ?_; refine ⟨rfl, ?_⟩
  tm_at "Mgo"
  refine ⟨KP_type, CW_range1 fun r => ?_⟩
  refine ⟨r, 0, d, 1, d, rfl, .head _, small_n (by (first | lia | omega)), size_n d, ⟨_, .inl rfl, .drop .refl⟩, ?_, ?_⟩
  · rintro τ ⟨es, hes, hp⟩
    tm_at "Mgo"
    refine XS_cons ?_
    refine W_pick hp ?_
    rcases hes with rfl | ⟨k, rfl⟩
    · tm_at "Mgo"
      exact ⟨_, .drop .refl, x, dx, pb, _, rfl, rfl⟩
    · tm_at "Mgo"
      exact ⟨_, .drop .refl, x, dx, pb, _, rfl, rfl⟩
  · rintro i hi τ it ⟨es, hes, hp⟩
    refine AS_pick (.take .here hp) (AS_Name ?_)
    have hput : ∀ v, Put ("k" : Str) v es [(("waiting" : Str), I (d : Int)), (("lexer" : Str), Value.ref x), (("k" : Str), v)] := by
      intro v
      rcases hes with rfl | ⟨c0, rfl⟩
      · exact .there (by decide +kernel) (.there (by decide +kernel) .nil)
      · exact .there (by decide +kernel) (.there (by decide +kernel) .here)
    refine ST_loc (by kernel_rfl) ch1 (hput _) ?_
    refine XS_cons ?_
    refine EX_Expr (by rfl) (by kernel_rfl) ?_
    refine EV_Meth (by rfl) (by rfl) ?_
    tm_at "Mgo"
    refine GM_fn F.pc F.mdPush.pm me2 me3 (by kernel_rfl) ?_
    refine ⟨rfl, ?_⟩
    refine ES_con (by rfl) ?_
    refine EV_txt [64] (by kernel_rfl) ?_
    tm_at "Mgo"
    refine ⟨KP_base F.mdPush.pm.kp, CC_ret (c_push F (σ' := _) me2 me3 ch4 (by simp; (first | lia | omega)) (n := n + 4) (rm.deeper _)) ?_⟩
    refine ⟨rfl, ?_⟩
    tm_at "Mgo"
    refine ⟨_, .refl, _, .inr ⟨I (0 + (i : Int) * 1), rfl⟩, ?_⟩
    rw [List.replicate_succ']
    exact .refl
end
structure Ln where
  x : Addr
  dx : Addr
  pb : Addr
  st : Value
inductive Ln3 {β : Type} (ps : List (Ln × β)) (x y z : β) : Prop
  | mk (l0 l1 l2 : Ln) (e : ps = [(l0, x), (l1, y), (l2, z)])
theorem ln3 {β : Type} {ps : List (Ln × β)} {x y z : β} (h : ps.length = 3) (e : ps.map (·.2) = [x, y, z]) : Ln3 ps x y z := by
  obtain ⟨⟨l0, _⟩, ⟨l1, _⟩, ⟨l2, _⟩, rfl⟩ := len3 h
  cases e
  exact ⟨l0, l1, l2, rfl⟩
noncomputable abbrev LN (C : Addr) (l : Ln) (q : List Nat) (τ : Hp) : Hp := LQ C l.x l.dx l.pb l.st (chs q) τ
noncomputable def blk (C : Addr) (base : Hp) : List (Ln × List Nat) → Hp
  | [] => base
  | p :: r => LN C p.1 p.2 (blk C base r)
section
variable {X : Cx} {A : Around} {σ : Hp} {E : Value → Shared → Prop}
theorem chs_rep (d : Nat) : List.replicate d (T [64]) = chs (List.replicate d 64) := by simp [chs]
noncomputable abbrev sEnv (F : Facts X) (L : Addr) (cd : Value) : Env := fenv (scOf (topSt 15)) L [] (nmOf (topSt 15)) adSent cd
theorem sent_turn (F : Facts X) {L : Addr} {cd : Value} {es : List (Str × Value)} {σ₁ σ₂ σ₃ : Hp} {x dx pb a : Addr} {st : Value} {q out : List Nat} {s h : Nat} {q' : List Nat} (hl : (("line" : Str), Value.ref x) ∈ es) (hs : (("sign" : Str), T [s]) ∈ es) (ho : (("slots" : Str), Value.ref a) ∈ es)
    (hx : (x, inst adC dx) ∈ σ) (hd : (dx, AO.ns (lexD 1 st (.ref pb))) ∈ σ) (c1 : Chg pb (.seq "list" (chs q)) (.seq "list" (chs (q ++ [s]))) σ σ₁) (hx1 : (x, inst adC dx) ∈ σ₁) (hd1 : (dx, AO.ns (lexD 1 st (.ref pb))) ∈ σ₁) (e : q ++ [s] = h :: q')
    (c2 : Chg pb (.seq "list" (chs (q ++ [s]))) (.seq "list" (chs q')) σ₁ σ₂) (c3 : Chg a (.seq "list" (chs out)) (.seq "list" (chs (out ++ [h]))) σ₂ σ₃) (zq : q.length < 1000) (zo : out.length < 100000) {n : Nat} (rm : Rm (n + 1) A) (ha1 : (a, AO.seq "list" (chs out)) ∈ σ₁) :
    XS X A (sEnv F L cd) F0 (forBody (nthSt (forBody (nthSt (bodyOf (topSt 15)) 2)) 0)) ((L, .ns es) :: σ) (fun f σ' => f = .next ∧ σ' = (L, .ns es) :: σ₃) := by
  have hsz := sizeLine_eq
  have e1 : chs (q ++ [s]) = chs q ++ [T [s]] := by simp [chs]
  have e2 : chs (out ++ [h]) = chs out ++ [T [h]] := by simp [chs]
  have e3 : chs (q ++ [s]) = T [h] :: chs q' := by (first | (refine rwG e ?_; try (with_reducible rfl)) | rw [e]); simp [chs]
  have zq' : q'.length < 1001 := by have := congrArg List.length e; simp at this; (first | lia | omega)
  refine XS_cons ?_
  refine EX_Expr (by rfl) (by kernel_rfl) ?_
  refine EV_Meth (by rfl) (by rfl) ?_
  refine EV_loc (by kernel_rfl) (.head _) hl ?_
  refine GM_fn F.pc F.mdPush.pm (.tail _ hx) (.tail _ hd) (by kernel_rfl) ?_
  refine ⟨rfl, ?_⟩
  refine ES_con (by rfl) ?_
  refine EV_loc (by kernel_rfl) (.head _) hs ?_
  refine ES_nil ?_
  rw [e1] at c1
  refine ⟨KP_base F.mdPush.pm.kp, CC_ret (c_push F (.tail _ hx) (.tail _ hd) (.there c1) (by simp; (first | lia | omega)) rm) ?_⟩
  refine ⟨rfl, ?_⟩
  refine XS_cons ?_
  refine EX_Expr (by rfl) (by kernel_rfl) ?_
  refine EV_Meth (by rfl) (by rfl) ?_
  refine EV_loc (by kernel_rfl) (.head _) ho ?_
  refine GM_list (.tail _ ha1) PySem.F.slot_list_append PySem.F.type_list_append ?_
  refine ⟨rfl, ?_⟩
  refine ES_con (by rfl) ?_
  refine EV_Meth (by rfl) (by rfl) ?_
  refine EV_loc (by kernel_rfl) (.head _) hl ?_
  refine GM_fn F.pc F.mdGet.pm (.tail _ hx1) (.tail _ hd1) (by kernel_rfl) ?_
  refine ⟨rfl, ?_⟩
  refine ES_nil ?_
  rw [e3] at c2
  refine ⟨KP_base F.mdGet.pm.kp, CC_ret (c_getpb F (v := T [h]) (.tail _ hx1) (.tail _ hd1) (.there c2) (by simp; (first | lia | omega)) rm) ?_⟩
  refine ES_nil ?_
  rw [e2] at c3
  refine ⟨KP_builtin, CW_append (.there c3) (by simp; (first | lia | omega)) ?_⟩
  refine ⟨rfl, ?_⟩
  refine XS_nil ?_
  exact ⟨rfl, rfl⟩
end
theorem blk_mem (C : Addr) (base : Hp) {x : Addr × AO} (h : x ∈ base) : ∀ (r : List (Ln × List Nat)), x ∈ blk C base r
  | [] => h
  | _ :: r => .tail _ (.tail _ (.tail _ (blk_mem C base h r)))
noncomputable def hd1 (q : List Nat) (s : Nat) : Nat := (q ++ [s]).headD 0
noncomputable def tl1 (q : List Nat) (s : Nat) : List Nat := (q ++ [s]).tail
theorem hdtl (q : List Nat) (s : Nat) : q ++ [s] = hd1 q s :: tl1 q s := by cases q <;> simp [hd1, tl1]
theorem tl1_len (q : List Nat) (s : Nat) : (tl1 q s).length = q.length := by simp [tl1]
noncomputable def sendL : List Nat → List Nat → List Nat → List Nat → List Nat
  | [], _, _, _ => []
  | s :: r, q0, q1, q2 => hd1 q0 s :: hd1 q1 s :: hd1 q2 s :: sendL r (tl1 q0 s) (tl1 q1 s) (tl1 q2 s)
section
variable {X : Cx} {A : Around} {σ : Hp} {E : Value → Shared → Prop}
noncomputable abbrev sFr (L as ad : Addr) (ln sl : Addr) : Addr × AO := (L, .ns [(("signs" : Str), .ref as), (("delays" : Str), .ref ad), (("lines" : Str), .ref ln), (("slots" : Str), .ref sl)])
noncomputable abbrev es4 (as ad D a : Addr) : List (Str × Value) := [(("signs" : Str), .ref as), (("delays" : Str), .ref ad), (("lines" : Str), .ref D), (("slots" : Str), .ref a)]
noncomputable abbrev es5 (as ad D a : Addr) (v : Value) : List (Str × Value) := [(("signs" : Str), .ref as), (("delays" : Str), .ref ad), (("lines" : Str), .ref D), (("slots" : Str), .ref a), (("sign" : Str), v)]
noncomputable abbrev es6 (as ad D a : Addr) (v w : Value) : List (Str × Value) := [(("signs" : Str), .ref as), (("delays" : Str), .ref ad), (("lines" : Str), .ref D), (("slots" : Str), .ref a), (("sign" : Str), v), (("line" : Str), w)]
noncomputable abbrev sSt (C L a D : Addr) (l0 l1 l2 : Ln) (es : List (Str × Value)) (out q0 q1 q2 : List Nat) (σ : Hp) : Hp := (L, .ns es) :: (a, .seq "list" (chs out)) :: (D, .seq "list" [.ref l0.x, .ref l1.x, .ref l2.x]) :: LN C l0 q0 (LN C l1 q1 (LN C l2 q2 σ))
theorem mem_sSt {C L a D : Addr} {l0 l1 l2 : Ln} {es : List (Str × Value)} {out q0 q1 q2 : List Nat} {σ : Hp} {x} (h : x ∈ σ) : x ∈ sSt C L a D l0 l1 l2 es out q0 q1 q2 σ := .tail _ (.tail _ (.tail _ (.tail _ (.tail _ (.tail _ (.tail _ (.tail _ (.tail _ (.tail _ (.tail _ (.tail _ h)))))))))))
inductive SentI (C L as ad D a : Addr) (l0 l1 l2 : Ln) (s : Nat) (out q0 q1 q2 : List Nat) (σ : Hp) (l : Addr) (xs : List Value) (j : Nat) (τ : Hp) : Prop
  | mk (es : List (Str × Value)) (he : es = es5 as ad D a (T [s]) ∨ ∃ w, es = es6 as ad D a (T [s]) w) (h' : 1 ≤ j → es ≠ es5 as ad D a (T [s])) (e1 : l = D) (e2 : xs = [.ref l0.x, .ref l1.x, .ref l2.x])
      (e3 : τ = sSt C L a D l0 l1 l2 es (out ++ [hd1 q0 s, hd1 q1 s, hd1 q2 s].take j) (if 0 < j then tl1 q0 s else q0) (if 1 < j then tl1 q1 s else q1) (if 2 < j then tl1 q2 s else q2) σ)
theorem sent_inner (F : Facts X) {L as ad D a : Addr} {cd : Value} {l0 l1 l2 : Ln} {s : Nat} {es : List (Str × Value)} {out q0 q1 q2 : List Nat} (he : es = es5 as ad D a (T [s]) ∨ ∃ w, es = es6 as ad D a (T [s]) w) (z0 : q0.length < 1000) (z1 : q1.length < 1000) (z2 : q2.length < 1000) (zo : out.length < 90000) {n : Nat} (rm : Rm (n + 1) A)
    {Q : Flow → Hp → Prop} (hQ : ∀ w, Q .next (sSt adC L a D l0 l1 l2 (es6 as ad D a (T [s]) w) (out ++ [hd1 q0 s, hd1 q1 s, hd1 q2 s]) (tl1 q0 s) (tl1 q1 s) (tl1 q2 s) σ)) :
    EX X A (sEnv F L cd) F0 (nthSt (forBody (nthSt (bodyOf (topSt 15)) 2)) 0) (sSt adC L a D l0 l1 l2 es out q0 q1 q2 σ) Q := by
  have hsz := sizeLine_eq
  refine EX_ForList rm.handled (fun _ => by rfl) (SentI adC L as ad D a l0 l1 l2 s out q0 q1 q2 σ) ?_
  have hlines : (("lines" : Str), Value.ref D) ∈ es := by
    rcases he with rfl | ⟨w, rfl⟩
    · exact me2
    · exact me2
  refine EV_loc (by kernel_rfl) (.head _) hlines ?_
  refine ⟨D, _, rfl, ?_, ⟨es, he, fun h => by (first | lia | omega), rfl, rfl, by simp⟩, ?_, ?_⟩
  · rintro j τ ⟨_, _, _, _, _, rfl⟩
    exact me2
  · rintro τ ⟨es, h, h', _, _, rfl⟩
    rcases h with rfl | ⟨w, rfl⟩
    · exact absurd rfl (h' (by simp))
    · exact hQ w
  · rintro j hj τ it ⟨es, he, h', _, _, rfl⟩
    refine LG_Name (AS_Name ?_)
    have hput : ∀ v, Put ("line" : Str) v es (es6 as ad D a (T [s]) v) := by
      intro v
      rcases he with rfl | ⟨c0, rfl⟩
      · tm_at "Mp"
      · tm_at "Mp"
    refine ST_loc (by kernel_rfl) ch1 (hput _) ?_
    refine W_pick (.take ex1 .refl) ?_
    refine lt3' ?_ ?_ ?_ j hj
    ·
      refine W.mono (sent_turn F (q := q0) (s := s) (out := out ++ List.take 0 [hd1 q0 s, hd1 q1 s, hd1 q2 s]) (x := l0.x) (dx := l0.dx) (pb := l0.pb) (st := l0.st) (es := es6 as ad D a (T [s]) (.ref l0.x)) me5 me4 me3 me3 me4 ch5 me3 me4 (hdtl q0 s) ch5 ch1 (by (first | lia | omega)) (by simp; (first | lia | omega)) rm me1) ?_
      rintro f σ' ⟨rfl, rfl⟩
      exact ⟨_, .take ex1 .refl, es6 as ad D a (T [s]) (.ref l0.x), .inr ⟨_, rfl⟩, fun _ h => absurd (congrArg List.length h) (by simp), rfl, rfl, by simp⟩
    ·
      refine W.mono (sent_turn F (q := q1) (s := s) (out := out ++ List.take 1 [hd1 q0 s, hd1 q1 s, hd1 q2 s]) (x := l1.x) (dx := l1.dx) (pb := l1.pb) (st := l1.st) (es := es6 as ad D a (T [s]) (.ref l1.x)) me5 me4 me3 me6 me7 ch8 me6 me7 (hdtl q1 s) ch8 ch1 (by (first | lia | omega)) (by simp; (first | lia | omega)) rm me1) ?_
      rintro f σ' ⟨rfl, rfl⟩
      exact ⟨_, .take ex1 .refl, es6 as ad D a (T [s]) (.ref l1.x), .inr ⟨_, rfl⟩, fun _ h => absurd (congrArg List.length h) (by simp), rfl, rfl, by simp⟩
    ·
      refine W.mono (sent_turn F (q := q2) (s := s) (out := out ++ List.take 2 [hd1 q0 s, hd1 q1 s, hd1 q2 s]) (x := l2.x) (dx := l2.dx) (pb := l2.pb) (st := l2.st) (es := es6 as ad D a (T [s]) (.ref l2.x)) me5 me4 me3 me9 me10 ch11 me9 me10 (hdtl q2 s) ch11 ch1 (by (first | lia | omega)) (by simp; (first | lia | omega)) rm me1) ?_
      rintro f σ' ⟨rfl, rfl⟩
      exact ⟨_, .take ex1 .refl, es6 as ad D a (T [s]) (.ref l2.x), .inr ⟨_, rfl⟩, fun _ h => absurd (congrArg List.length h) (by simp), rfl, rfl, by simp⟩
inductive SentC (C : Addr) (base : Hp) (d0 d1 d2 : Nat) (i : Nat) (ys : List Value) (τ : Hp) : Prop
  | mk (ps : List (Ln × List Nat)) (e1 : ps.length = i) (e2 : ps.map (·.2) = [List.replicate d0 64, List.replicate d1 64, List.replicate d2 64].take i) (e3 : ys = ps.map (fun p => .ref p.1.x)) (e4 : τ = blk C base ps.reverse)
inductive SentO (C L as ad D a : Addr) (l0 l1 l2 : Ln) (signs : List Nat) (d0 d1 d2 : Nat) (σ : Hp) (l : Addr) (xs : List Value) (j : Nat) (τ : Hp) : Prop
  | mk (es : List (Str × Value)) (out q0 q1 q2 : List Nat) (he : es = es4 as ad D a ∨ ∃ v w, es = es6 as ad D a v w) (e1 : l = as) (e2 : xs = chs signs) (e3 : out.length = 3 * j) (l0' : q0.length = d0) (l1' : q1.length = d1) (l2' : q2.length = d2)
      (e : sendL signs (List.replicate d0 64) (List.replicate d1 64) (List.replicate d2 64) = out ++ sendL (signs.drop j) q0 q1 q2) (e4 : τ = sSt C L a D l0 l1 l2 es out q0 q1 q2 σ)
theorem c_sent (F : Facts X) {as ad : Addr} {signs : List Nat} {d0 d1 d2 : Nat} (hs : (as, AO.seq "list" (chs signs)) ∈ σ) (hd : (ad, AO.seq "list" [I d0, I d1, I d2]) ∈ σ) (b0 : d0 < 10) (b1 : d1 < 10) (b2 : d2 < 10) (hz : signs.length < 1000) {n : Nat} (rm : Rm (n + 8) A) :
    CC X A F0 (.ref adSent) [.ref as, .ref ad] σ (fun v σ' => ∃ a, v = .ref a ∧ σ' = (a, .seq "list" (chs (sendL signs (List.replicate d0 64) (List.replicate d1 64) (List.replicate d2 64)))) :: σ) := by
  have hsz := sizeLine_eq
  refine CC_def rm F.dSent.bf.fn rfl rfl (by decide +kernel) rfl fun cd L => ?_; refine CK_plain (by decide +kernel) ?_
  refine BD_cons ?_; refine ST_loc (by kernel_rfl) .here .nil ?_; refine BD_cons ?_; refine ST_loc (by kernel_rfl) .here (by tm_at "Mp") ?_; refine BD_nil ?_
  refine XS_cons ?_
  refine EX_AssignCompJ [] (by kernel_rfl) ⟨rfl, rfl, by decide +kernel, by decide +kernel⟩ (fun _ => by rfl) ?_
  tm_at "Mgo"
  refine srcJ_list (l := ad) (xs := [I d0, I d1, I d2]) rm.handled rfl (by kernel_rfl) (SentC adC (((fenv (scOf (topSt 15)) L [] (nmOf (topSt 15)) adSent cd).locals, AO.ns [(("signs" : Str), .ref as), (("delays" : Str), .ref ad)]) :: σ) d0 d1 d2) ?_ (by simp; (first | lia | omega)) ⟨[], rfl, rfl, rfl, rfl⟩ ?_ ?_
  · rintro i ys τ ⟨ps, _, _, _, rfl⟩
    exact blk_mem _ _ (List.mem_cons_of_mem _ hd) _
  · intro C R i hi ys τ hJ hl
    obtain ⟨ps, e1, e2, e3, rfl⟩ := hJ
    have hv : ∃ k : Nat, [I (d0 : Int), I (d1 : Int), I (d2 : Int)][i] = I (k : Int) ∧ k < 10 ∧ [List.replicate d0 64, List.replicate d1 64, List.replicate d2 64].take (i + 1) = [List.replicate d0 64, List.replicate d1 64, List.replicate d2 64].take i ++ [List.replicate k 64] := by
      refine lt3' ?_ ?_ ?_ i hi
      · exact ⟨d0, rfl, b0, rfl⟩
      · exact ⟨d1, rfl, b1, rfl⟩
      · exact ⟨d2, rfl, b2, rfl⟩
    obtain ⟨k, hk, k10, hk2⟩ := hv
    (first | (refine rwG hk ?_; try (with_reducible rfl)) | rw [hk])
    refine EV_CallN (by rfl) ?_; refine EV_global F.dLine.glob (by rfl) (by kernel_rfl) (by kernel_rfl) (by rfl) ?_; refine ⟨rfl, ?_⟩
    refine ES_con (by rfl) ?_
    refine EV_loc (by kernel_rfl) (.head _) (.head _) ?_
    refine ES_nil ?_
    refine ⟨KP_base F.dLine.bf.kp, CW_use (c_line F (d := k) (by (first | lia | omega)) (n := n + 1) (rm.deeper _)).any ?_⟩
    rintro v σ' ⟨x, dx, pb, st, rfl, rfl⟩
    refine ⟨LQ adC x dx pb st (List.replicate k (T [64])) (blk adC (((fenv (scOf (topSt 15)) L [] (nmOf (topSt 15)) adSent cd).locals, AO.ns [(("signs" : Str), .ref as), (("delays" : Str), .ref ad)]) :: σ) ps.reverse), ?_, ps ++ [(⟨x, dx, pb, st⟩, List.replicate k 64)], by simp [e1], by simp [e2, hk2], by simp [e3], ?_⟩
    · exact .take ex3 .refl
    · rw [chs_rep]; simp [blk]
  · rintro D ys τ ⟨ps, e1, e2, e3, rfl⟩ hl R
    obtain ⟨l0, l1, l2, rfl⟩ := ln3 (x := List.replicate d0 64) (y := List.replicate d1 64) (z := List.replicate d2 64) e1 e2
    subst e3
    refine ST_loc (by kernel_rfl) ch10 (by tm_at "Mp") ?_
    refine ⟨(L, .ns [(("signs" : Str), .ref as), (("delays" : Str), .ref ad), (("lines" : Str), .ref D)]) :: (D, .seq "list" [.ref l0.x, .ref l1.x, .ref l2.x]) :: LN adC l0 (List.replicate d0 64) (LN adC l1 (List.replicate d1 64) (LN adC l2 (List.replicate d2 64) σ)), ?_, ?_⟩
    · refine .take ex10 (.take .here ?_)
      refine .take ex6 (.take ex6 (.take ex6 ?_))
      refine .take ex3 (.take ex3 (.take ex3 ?_))
      exact .refl
    refine XS_cons ?_
    refine EX_Assign (by kernel_rfl) ?_
    refine EV_List ?_
    refine ES_nil ?_
    refine ⟨by simp, fun a => ?_⟩
    refine ST_loc (by kernel_rfl) ch1 (by tm_at "Mp") ?_
    refine W_pick (σ' := sSt adC L a D l0 l1 l2 (es4 as ad D a) [] (List.replicate d0 64) (List.replicate d1 64) (List.replicate d2 64) σ) (.take ex1 .refl) ?_
    refine XS_cons ?_
    refine EX_ForList rm.handled (fun _ => by rfl) (SentO adC L as ad D a l0 l1 l2 signs d0 d1 d2 σ) ?_
    refine EV_loc (by kernel_rfl) (.head _) (.head _) ?_
    refine ⟨as, _, rfl, ?_, ⟨_, [], _, _, _, .inl rfl, rfl, rfl, rfl, by simp, by simp, by simp, by simp, rfl⟩, ?_, ?_⟩
    · rintro j τ ⟨es, out, q0, q1, q2, _, _, _, _, _, _, _, _, rfl⟩
      exact mem_sSt hs
    · rintro τ ⟨es, out, q0, q1, q2, he, _, _, hlen, _, _, _, e, rfl⟩
      have e' : sendL signs (List.replicate d0 64) (List.replicate d1 64) (List.replicate d2 64) = out := by (first | (refine rwG e ?_; try (with_reducible rfl)) | rw [e]); simp [chs, sendL]
      (first | (refine rwG e' ?_; try (with_reducible rfl)) | rw [e'])
      have ho : (("slots" : Str), Value.ref a) ∈ es := by
        rcases he with rfl | ⟨v, w, rfl⟩
        · exact me3
        · exact me3
      refine XS_cons ?_
      refine EX_Return ?_
      refine EV_loc (by kernel_rfl) (.head _) ho ?_
      exact ⟨_, .drop (.take .here (.drop (.drop (.drop (.drop (.drop (.drop (.drop (.drop (.drop (.drop (.refl)))))))))))), a, rfl, rfl⟩
    · rintro j hj τ it ⟨es, out, q0, q1, q2, he, _, _, hlen, l0', l1', l2', e, rfl⟩
      have hj' : j < signs.length := by simpa [chs] using hj
      have hv : (chs signs)[j] = T [signs[j]] := by simp [chs]
      refine LG_Name (AS_Name ?_)
      have hput : ∀ v, ∃ es', Put ("sign" : Str) v es es' ∧ (es' = es5 as ad D a v ∨ ∃ w, es' = es6 as ad D a v w) := by
        intro v
        rcases he with rfl | ⟨v0, w0, rfl⟩
        · exact ⟨es5 as ad D a v, by tm_at "Mp", .inl rfl⟩
        · exact ⟨es6 as ad D a v w0, by tm_at "Mp", .inr ⟨_, rfl⟩⟩
      obtain ⟨es', hp, he'⟩ := hput (T [signs[j]])
      (first | (refine rwG hv ?_; try (with_reducible rfl)) | rw [hv])
      refine ST_loc (by kernel_rfl) ch1 hp ?_
      refine XS_cons ?_
      refine W_pick (σ' := sSt adC L a D l0 l1 l2 es' out q0 q1 q2 ((it, LI as (j + 1)) :: σ)) ?_ ?_
      · refine .take ex1 (.take ex1 (.take ex1 (.take ex1 (.take ex1 (.take ex1 (.take ex1 (.take ex1 (.take ex1 (.take ex1 (.take ex1 (.take ex1 .refl)))))))))))
      refine sent_inner F (L := L) (cd := cd) (l0 := l0) (l1 := l1) (l2 := l2) (σ := (it, LI as (j + 1)) :: σ) (out := out) (q0 := q0) (q1 := q1) (q2 := q2) he' (by (first | lia | omega)) (by (first | lia | omega)) (by (first | lia | omega)) (by (first | lia | omega)) (rm.deeper _) fun w => ?_
      tm_at "Mgo"
      refine ⟨sSt adC L a D l0 l1 l2 (es6 as ad D a (T [signs[j]]) w) (out ++ [hd1 q0 signs[j], hd1 q1 signs[j], hd1 q2 signs[j]]) (tl1 q0 signs[j]) (tl1 q1 signs[j]) (tl1 q2 signs[j]) σ, ?_, _, _, _, _, _, .inr ⟨_, _, rfl⟩, rfl, rfl, by simp; (first | lia | omega), by rw [tl1_len, l0'], by rw [tl1_len, l1'], by rw [tl1_len, l2'], ?_, rfl⟩
      · exact .take ex12 .refl
      · rw [e, List.drop_eq_getElem_cons hj', sendL]; simp
end
noncomputable def spW (g s : Nat) : Nat → List Nat
  | 0 => []
  | 1 => [g]
  | 2 => [g, s]
  | 3 => [s, g]
  | _ => [s]
noncomputable def spKind (start size deed k : Nat) : Nat := if start ≤ k ∧ k < start + size then deed / 128 / 4 ^ (k - start) % 4 else 4
noncomputable def spoil (start size deed : Nat) (ss : List Nat) (k : Nat) : List Nat := spW (deed % 128) (ss.getD k 0) (spKind start size deed k)
noncomputable def spoilL (ss : List Nat) (start size deed : Nat) : List (List Nat) := (List.range ss.length).map (spoil start size deed ss)
noncomputable abbrev tws (ws : List (List Nat)) : List Value := ws.map fun w => T w
section
variable {X : Cx} {A : Around} {σ : Hp} {E : Value → Shared → Prop}
noncomputable abbrev eS (as : Addr) (start size deed : Nat) : List (Str × Value) := [(("slots" : Str), .ref as), (("start" : Str), I (start : Int)), (("size" : Str), I (size : Int)), (("deed" : Str), I (deed : Int))]
noncomputable abbrev eS2 (as a : Addr) (start size deed g : Nat) : List (Str × Value) := [(("slots" : Str), .ref as), (("start" : Str), I (start : Int)), (("size" : Str), I (size : Int)), (("deed" : Str), I (deed : Int)), (("sign" : Str), T [g]), (("wire" : Str), .ref a)]
noncomputable abbrev eS4 (as a : Addr) (start size deed g : Nat) (k s : Value) : List (Str × Value) := [(("slots" : Str), .ref as), (("start" : Str), I (start : Int)), (("size" : Str), I (size : Int)), (("deed" : Str), I (deed : Int)), (("sign" : Str), T [g]), (("wire" : Str), .ref a), (("k" : Str), k), (("slot" : Str), s)]
noncomputable abbrev eS5 (as a : Addr) (start size deed g : Nat) (k s kd : Value) : List (Str × Value) := [(("slots" : Str), .ref as), (("start" : Str), I (start : Int)), (("size" : Str), I (size : Int)), (("deed" : Str), I (deed : Int)), (("sign" : Str), T [g]), (("wire" : Str), .ref a), (("k" : Str), k), (("slot" : Str), s), (("kind" : Str), kd)]
theorem AE_two {env : Env} {a b : Expr} {v w : Value} {Q : Hp → Prop} (h : AS X A env E a v σ (fun σ' => AS X A env E b w σ' Q)) : AE X A env E [a, b] [v, w] σ Q := h
inductive SpoI (as a : Addr) (start size deed : Nat) (ss : List Nat) (L : Addr) (σ : Hp) (l : Addr) (xs : List Value) (i : Nat) (τ : Hp) : Prop
  | mk (es : List (Str × Value)) (hes : es = eS2 as a start size deed (deed % 128) ∨ ∃ k s kd, es = eS5 as a start size deed (deed % 128) k s kd) (e1 : l = as) (e2 : xs = chs ss) (e3 : τ = (L, AO.ns es) :: (a, .seq "list" ((List.range i).map fun k => T (spoil start size deed ss k))) :: σ)
theorem c_spoilt (F : Facts X) {as : Addr} {ss : List Nat} {start size deed : Nat} (hs : (as, AO.seq "list" (chs ss)) ∈ σ) (hz : ss.length < 100000) (hsz' : size < 15) {n : Nat} (rm : Rm (n + 2) A) :
    CC X A F0 (.ref adSpoilt) [.ref as, I start, I size, I deed] σ (fun v σ' => ∃ a, v = .ref a ∧ σ' = (a, .seq "list" (tws (spoilL ss start size deed))) :: σ) := by
  have hsz := sizeLine_eq
  refine CC_def rm F.dSpoilt.bf.fn rfl rfl (by decide +kernel) rfl fun cd L => ?_; refine CK_plain (by decide +kernel) ?_
  refine BD_cons ?_; refine ST_loc (by kernel_rfl) .here .nil ?_; refine BD_cons ?_; refine ST_loc (by kernel_rfl) .here (by tm_at "Mp") ?_; refine BD_cons ?_; refine ST_loc (by kernel_rfl) .here (by tm_at "Mp") ?_; refine BD_cons ?_; refine ST_loc (by kernel_rfl) .here (by tm_at "Mp") ?_; refine BD_nil ?_
  refine XS_cons ?_
  tm_at "Mgo"
  refine EV_CallN (by rfl) ?_; refine EV_builtin F.bChr (by rfl) (by kernel_rfl) (by kernel_rfl) (by rfl) (by rfl) ?_; refine ⟨rfl, ?_⟩
  tm_at "Mgo"
  refine BIN_modN deed 128 (by decide) ?_
  tm_at "Mgo"
  refine ⟨KP_builtin, CW_chr (by (first | lia | omega)) (by (first | lia | omega)) ?_⟩
  rw [Int.toNat_natCast]
  tm_at "Mgo"
  refine XS_cons ?_
  tm_at "Mgo"
  refine EV_List ?_
  tm_at "Mgo"
  refine ⟨by simp, fun a => ?_⟩
  tm_at "Mgo"
  refine W_pick (σ' := ((fenv (scOf (topSt 16)) L [] (nmOf (topSt 16)) adSpoilt cd).locals, AO.ns (eS2 as a start size deed (deed % 128))) :: (a, .seq "list" []) :: σ) (.take ex1 .refl) ?_
  refine XS_cons ?_
  refine EX_ForEnum rm.handled rfl rfl (fun _ => by rfl) (SpoI as a start size deed ss (fenv (scOf (topSt 16)) L [] (nmOf (topSt 16)) adSpoilt cd).locals σ) ?_
  refine EV_CallN (by rfl) ?_; refine EV_builtin F.bEnum (by rfl) (by kernel_rfl) (by kernel_rfl) (by rfl) (by rfl) ?_; refine ⟨rfl, ?_⟩
  tm_at "Mgo"
  refine ⟨KP_type, CW_enum (.tail _ (.tail _ hs)) fun e it => ?_⟩
  refine ⟨e, it, as, _, _, rfl, rfl, ?_, ⟨_, .inl rfl, rfl, rfl, rfl⟩, ?_, ?_⟩
  · rintro i τ ⟨es, _, _, _, rfl⟩
    exact .tail _ (.tail _ hs)
  · rintro τ ⟨es, hes, _, _, rfl⟩
    have ho : (("wire" : Str), Value.ref a) ∈ es := by
      rcases hes with rfl | ⟨k, s, kd, rfl⟩
      · exact me5
      · exact me5
    refine XS_cons ?_
    refine EX_Return ?_
    refine EV_loc (by kernel_rfl) (.head _) ho ?_
    refine ⟨_, .drop (.take .here .refl), a, rfl, ?_⟩
    simp [spoilL, tws, chs]; rfl
  · rintro i hi τ ⟨es, hes, _, _, rfl⟩
    have hi' : i < ss.length := by simpa [chs] using hi
    have hv : (chs ss)[i] = T [ss.getD i 0] := by simp [chs, hi']
    have hput : ∀ k s, ∃ es₁ es₂, Put ("k" : Str) k es es₁ ∧ Put ("slot" : Str) s es₁ es₂ ∧ (es₂ = eS4 as a start size deed (deed % 128) k s ∨ ∃ kd, es₂ = eS5 as a start size deed (deed % 128) k s kd) := by
      intro k s
      rcases hes with rfl | ⟨k0, s0, kd0, rfl⟩
      · exact ⟨_, _, by tm_at "Mp", by tm_at "Mp", .inl rfl⟩
      · exact ⟨_, _, by tm_at "Mp", by tm_at "Mp", .inr ⟨kd0, rfl⟩⟩
    obtain ⟨es₁, es₂, p1, p2, hes₂⟩ := hput (I (i : Int)) (T [ss.getD i 0])
    have hm : ∀ x, x ∈ eS4 as a start size deed (deed % 128) (I (i : Int)) (T [ss.getD i 0]) → x ∈ es₂ := by
      rintro x hx
      rcases hes₂ with rfl | ⟨kd, rfl⟩
      · exact hx
      · exact List.mem_append_left [(("kind" : Str), kd)] hx
    have hput3 : ∀ kd, Put ("kind" : Str) kd es₂ (eS5 as a start size deed (deed % 128) (I (i : Int)) (T [ss.getD i 0]) kd) := by
      intro kd
      rcases hes₂ with rfl | ⟨kd0, rfl⟩
      · exact by tm_at "Mp"
      · exact by tm_at "Mp"
    (first | (refine rwG hv ?_; try (with_reducible rfl)) | rw [hv])
    refine AE_two (AS_Name (ST_loc (by kernel_rfl) ch2 p1 (AS_Name (ST_loc (by kernel_rfl) ch2 p2 ?_))))
    refine XS_cons ?_
    refine EX_Assign (by kernel_rfl) ?_
    refine W.mono (Q := fun v τ => v = I ((spKind start size deed i : Nat) : Int) ∧ τ = (e, AO.enum it ((i + 1 : Nat) : Int) none) :: (it, LI as (i + 1)) :: ((fenv (scOf (topSt 16)) L [] (nmOf (topSt 16)) adSpoilt cd).locals, AO.ns es₂) :: (a, .seq "list" ((List.range i).map fun k => T (spoil start size deed ss k))) :: σ) ?_ ?_
    · refine EV_IfExp ?_
      refine TE_Cmp2 (by kernel_rfl) ?_
      refine EV_loc (by kernel_rfl) (by tm_at "Mm") (hm _ (by tm_at "Mm")) ?_
      refine EV_loc (by kernel_rfl) (by tm_at "Mm") (hm _ (by tm_at "Mm")) ?_
      refine CMP_le (TRU_bool ?_)
      by_cases h1 : start ≤ i
      · (first | refine ifP (by simpa using h1) ?_ | rw [if_pos (by simpa using h1)])
        refine EV_BinOp ?_
        refine EV_loc (by kernel_rfl) (by tm_at "Mm") (hm _ (by tm_at "Mm")) ?_
        refine EV_loc (by kernel_rfl) (by tm_at "Mm") (hm _ (by tm_at "Mm")) ?_
        refine BIN_add ?_
        refine CMP_lt (TRU_bool ?_)
        by_cases h2 : i < start + size
        · (first | refine ifP (by simp; (first | lia | omega)) ?_ | rw [if_pos (by simp; (first | lia | omega))])
          refine EV_BinOp (EV_BinOp (EV_BinOp ?_))
          refine EV_loc (by kernel_rfl) (by tm_at "Mm") (hm _ (by tm_at "Mm")) ?_
          tm_at "Mgo"
          refine BIN_divN deed 128 (by decide) (by decide) ?_
          tm_at "Mgo"
          refine EV_loc (by kernel_rfl) (by tm_at "Mm") (hm _ (by tm_at "Mm")) ?_
          refine EV_loc (by kernel_rfl) (by tm_at "Mm") (hm _ (by tm_at "Mm")) ?_
          refine BIN_sub ?_
          have hp : (i : Int) - (start : Int) = ((i - start : Nat) : Int) := by (first | lia | omega)
          have hlt : i - start < 15 := by (first | lia | omega)
          (first | (refine rwG hp ?_; try (with_reducible rfl)) | rw [hp])
          refine BIN_pow (by (first | lia | omega)) (by (first | lia | omega)) (by decide) ?_
          rw [Int.toNat_natCast]
          have hc : ((4 : Int) ^ (i - start)) = ((4 ^ (i - start) : Nat) : Int) := by simp
          have h4 : 4 ^ (i - start) < 1073741824 := Nat.lt_of_le_of_lt (Nat.pow_le_pow_right (by decide) (show i - start ≤ 14 by (first | lia | omega))) (by decide)
          (first | (refine rwG hc ?_; try (with_reducible rfl)) | rw [hc])
          refine BIN_divN (deed / 128) (4 ^ (i - start)) (Nat.pow_pos (by decide)) h4 ?_
          tm_at "Mgo"
          refine BIN_modN (deed / 128 / 4 ^ (i - start)) 4 (by decide) ?_
          exact ⟨by simp only [spKind]; (first | refine ifP ⟨h1, h2⟩ ?_ | rw [if_pos ⟨h1, h2⟩]), rfl⟩
        · (first | refine ifN (by simp; (first | lia | omega)) ?_ | rw [if_neg (by simp; (first | lia | omega))])
          refine EV_int ?_
          exact ⟨by simp only [spKind]; (first | refine ifN (fun h => h2 h.2) ?_ | rw [if_neg (fun h => h2 h.2)]); rfl, rfl⟩
      · (first | refine ifN (by simpa using h1) ?_ | rw [if_neg (by simpa using h1)])
        (first | refine ifN (by decide) ?_ | rw [if_neg (by decide)])
        refine EV_int ?_
        exact ⟨by simp only [spKind]; (first | refine ifN (fun h => h1 h.1) ?_ | rw [if_neg (fun h => h1 h.1)]); rfl, rfl⟩
    rintro v _ ⟨rfl, rfl⟩
    refine ST_loc (by kernel_rfl) ch2 (hput3 _) ?_
    refine XS_cons ?_
    refine EX_Expr (by rfl) (by kernel_rfl) ?_; refine EV_Meth (by rfl) (by rfl) ?_; tm_at "Mgo"; refine GM_list (by tm_at "Mm") PySem.F.slot_list_append PySem.F.type_list_append ?_; refine ⟨rfl, ?_⟩; tm_at "Mgo"
    refine EV_List ?_
    refine ES_con (by rfl) ?_
    refine EV_txt [] (by kernel_rfl) ?_
    tm_at "Mgo"
    refine BIN_adds (by simp; (first | lia | omega)) ?_
    tm_at "Mgo"
    refine BIN_adds (by simp; (first | lia | omega)) ?_
    tm_at "Mgo"
    refine ⟨by simp; (first | lia | omega), fun b => ?_⟩
    tm_at "Mgo"
    have hk : spKind start size deed i < 5 := by
      unfold spKind
      split <;> (first | lia | omega)
    have hg : [T [], T [deed % 128], T ([deed % 128] ++ [ss.getD i 0]), T ([ss.getD i 0] ++ [deed % 128]), T [ss.getD i 0]][(spKind start size deed i)]? = some (T (spoil start size deed ss i)) := by
      unfold spoil
      generalize spKind start size deed i = kk at hk
      match kk, hk with
      | 0, _ => rfl
      | 1, _ => rfl
      | 2, _ => rfl
      | 3, _ => rfl
      | 4, _ => rfl
    refine SUB_list (.head _) (GI_list (v := T (spoil start size deed ss i)) (.head _) (by (first | lia | omega)) (by rw [Int.toNat_natCast]; exact hg) (by simp; (first | lia | omega)) ?_)
    tm_at "Mgo"
    refine ⟨KP_builtin, CW_append ch4 (by simp; (first | lia | omega)) ?_⟩; refine ⟨rfl, ?_⟩
    tm_at "Mgo"
    refine ⟨((fenv (scOf (topSt 16)) L [] (nmOf (topSt 16)) adSpoilt cd).locals, AO.ns (eS5 as a start size deed (deed % 128) (I ↑i) (T [ss.getD i 0]) (I ↑(spKind start size deed i)))) :: (a, .seq "list" ((List.range (i + 1)).map fun k => T (spoil start size deed ss k))) :: σ, ?_, _, .inr ⟨_, _, _, rfl⟩, rfl, rfl, rfl⟩
    rw [List.range_succ, List.map_append]
    exact .drop .refl
end
noncomputable def esc1 (r : List Nat) (c : Nat) : List Nat := if c ∈ r then [92, c] else [c]
noncomputable def esc (r w : List Nat) : List Nat := (w.map (esc1 r)).flatten
noncomputable def lead34 (t : List Nat) : List Nat := if t.headD 0 = 34 then 92 :: t else t
noncomputable def writ (w : List Nat) (m : Nat) (b : Nat) : List Nat :=
  if m = 0 ∨ w = [] then [34] ++ esc [34, 92] w ++ [34] ++ [b]
  else lead34 (esc (if m = 1 then [92, 10, 9, 13, 32] else w) w ++ [b])
theorem esc_len (r : List Nat) : ∀ w, (esc r w).length ≤ 2 * w.length
  | [] => by simp [esc]
  | c :: w => by
    have := esc_len r w
    simp only [esc, List.map_cons, List.flatten_cons, List.length_append, List.length_cons] at *
    have : (esc1 r c).length ≤ 2 := by unfold esc1; split <;> simp
    (first | lia | omega)
section
variable {X : Cx} {A : Around} {σ : Hp} {E : Value → Shared → Prop}
theorem ANY_last {env : Env} {c : Bool} {Q : Bool → Hp → Prop} (q : Q c σ) : if c then Q true σ else ANY X A env E [] σ Q := by cases c <;> exact q
set_option maxHeartbeats 2000000 in
theorem c_writ (F : Facts X) {w : List Nat} {m b : Nat} (hw : ∀ c ∈ w, c < 128) (hz : w.length < 1000) {n : Nat} (rm : Rm (n + 2) A) :
    CC X A F0 (.ref adWrit) [T w, I m, T [b]] σ (fun v σ' => v = T (writ w m b) ∧ σ' = σ) := by
  have hsz := sizeLine_eq
  refine CC_def rm F.dWrit.bf.fn rfl rfl (by decide +kernel) rfl fun cd L => ?_
  refine CK_skip rfl (CK_skip rfl (CK_skip rfl (CK_cell fun rc => CK_plain (by decide +kernel) ?_)))
  refine BD_cons ?_; refine ST_loc (by kernel_rfl) ch1 .nil ?_
  refine BD_cons ?_; refine ST_loc (by kernel_rfl) ch1 (by tm_at "Mp") ?_
  refine BD_cons ?_; refine ST_loc (by kernel_rfl) ch1 (by tm_at "Mp") ?_
  refine BD_nil ?_
  refine XS_cons ?_
  refine EX_If ?_
  refine W.mono (Q := fun c τ => c = decide (m = 0 ∨ w = []) ∧ τ = (rc, .cell none) :: (L, AO.ns [(("word" : Str), T w), (("manner" : Str), I (m : Int)), (("blank" : Str), T [b])]) :: σ) ?_ ?_
  · refine TE_Or ?_
    refine ANY_cons ?_
    tm_at "Mgo"
    by_cases hm : m = 0
    · subst hm
      exact ⟨by simp, rfl⟩
    · (first | refine ifN (by simp; (first | lia | omega)) ?_ | rw [if_neg (by simp; (first | lia | omega))])
      refine ANY_cons ?_
      refine TE_Cmp (by kernel_rfl) ?_
      tm_at "Mgo"
      refine EV_txt [] (by kernel_rfl) ?_
      tm_at "Mgo"
      refine ANY_last ?_
      exact ⟨by cases w <;> simp [hm], rfl⟩
  rintro c _ ⟨rfl, rfl⟩
  by_cases hc : m = 0 ∨ w = []
  · (first | refine ifP (by simpa using hc) ?_ | rw [if_pos (by simpa using hc)])
    refine XS_cons ?_
    refine EX_Return ?_
    refine EV_BinOp (EV_BinOp (EV_BinOp ?_))
    refine EV_txt [34] (by kernel_rfl) ?_
    refine EV_Meth (by rfl) (by rfl) ?_
    refine EV_txt [] (by kernel_rfl) ?_
    refine GM_str PySem.F.slot_str_join PySem.F.type_str_join ?_
    refine ⟨rfl, ?_⟩
    refine ES_con (by rfl) ?_
    refine EV_CompJ [] ⟨rfl, rfl, by decide +kernel, by decide +kernel⟩ (fun _ => by rfl) ?_
    tm_at "Mgo"
    refine srcJ_str rm.handled rfl (by kernel_rfl) (fun i ys τ => ys = (w.take i).map (fun c => T (esc1 [34, 92] c)) ∧ τ = (rc, .cell none) :: (L, AO.ns [(("word" : Str), T w), (("manner" : Str), I (m : Int)), (("blank" : Str), T [b])]) :: σ) hw (by (first | lia | omega)) ⟨rfl, rfl⟩ ?_ ?_
    · rintro C R i hi ys τ ⟨rfl, rfl⟩ hl
      refine EV_IfExp ?_
      refine TE_Cmp (by kernel_rfl) ?_
      refine EV_loc (by kernel_rfl) (.head _) (.head _) ?_
      refine EV_txt [34, 92] (by kernel_rfl) ?_
      refine CMP_in1 (TRU_bool ?_)
      refine ite_of (fun h => ?_) (fun h => ?_)
      · refine EV_BinOp ?_
        refine EV_txt [92] (by kernel_rfl) ?_
        refine EV_loc (by kernel_rfl) (.head _) (.head _) ?_
        refine BIN_adds (by simp; (first | lia | omega)) ?_
        refine ⟨_, .refl, ?_, rfl⟩
        rw [List.take_succ_eq_append_getElem hi]; simp only [List.map_append, List.map_cons, List.map_nil, esc1]
        (first | refine ifP (by simpa using h) ?_ | rw [if_pos (by simpa using h)]); rfl
      · refine EV_loc (by kernel_rfl) (.head _) (.head _) ?_
        refine ⟨_, .refl, ?_, rfl⟩
        rw [List.take_succ_eq_append_getElem hi]; simp only [List.map_append, List.map_cons, List.map_nil, esc1]
        (first | refine ifN (by simpa using h) ?_ | rw [if_neg (by simpa using h)])
    · rintro D ys τ ⟨rfl, rfl⟩ hl
      tm_at "Mgo"
      have hel := esc_len [34, 92] w
      refine ⟨KP_builtin, CW_join (ys := w.map (esc1 [34, 92])) (by simp [List.map_map, Function.comp_def]) (by show (esc [34, 92] w).length ≤ _; (first | lia | omega)) ?_⟩
      refine BIN_adds (by show 1 + (esc [34, 92] w).length ≤ _; (first | lia | omega)) ?_
      refine EV_txt [34] (by kernel_rfl) ?_
      refine BIN_adds (by show ([34] ++ (esc [34, 92] w)).length + 1 ≤ _; simp; (first | lia | omega)) ?_
      refine EV_loc (by kernel_rfl) (by tm_at "Mm") (by tm_at "Mm") ?_
      refine BIN_adds (by show ([34] ++ (esc [34, 92] w) ++ [34]).length + 1 ≤ _; simp; (first | lia | omega)) ?_
      refine ⟨_, .drop (.drop (.drop .refl)), ?_, rfl⟩
      show T _ = _
      ((first | (refine rwG writ ?_; try (with_reducible rfl)) | rw [writ]); (first | refine ifP hc ?_ | rw [if_pos hc])); rfl
  · (first | refine ifN (by simpa using hc) ?_ | rw [if_neg (by simpa using hc)])
    refine XS_nil ?_
    have hm0 : m ≠ 0 := fun h => hc (.inl h)
    have hw0 : w ≠ [] := fun h => hc (.inr h)
    generalize hr : (if m = 1 then [92, 10, 9, 13, 32] else w) = r
    refine XS_cons ?_
    refine EX_Assign (by kernel_rfl) ?_
    refine W.mono (Q := fun v τ => v = T r ∧ τ = (rc, .cell none) :: (L, AO.ns [(("word" : Str), T w), (("manner" : Str), I (m : Int)), (("blank" : Str), T [b])]) :: σ) ?_ ?_
    · refine EV_IfExp ?_
      refine TE_Cmp (by kernel_rfl) ?_
      tm_at "Mgo"
      refine ite_of (fun h => ?_) (fun h => ?_)
      · refine EV_txt [92, 10, 9, 13, 32] (by kernel_rfl) ?_
        exact ⟨by ((first | (refine rwG hr.symm ?_; try (with_reducible rfl)) | rw [← hr]); (first | refine ifP (by simp at h; (first | lia | omega)) ?_ | rw [if_pos (by simp at h; (first | lia | omega))])), rfl⟩
      · refine EV_loc (by kernel_rfl) (by tm_at "Mm") (by tm_at "Mm") ?_
        exact ⟨by ((first | (refine rwG hr.symm ?_; try (with_reducible rfl)) | rw [← hr]); (first | refine ifN (by simp at h; (first | lia | omega)) ?_ | rw [if_neg (by simp at h; (first | lia | omega))])), rfl⟩
    rintro v _ ⟨rfl, rfl⟩
    refine ST_cell rfl (by kernel_rfl) rfl .here ?_
    refine XS_cons ?_
    refine EX_Assign (by kernel_rfl) ?_
    refine EV_BinOp ?_
    refine EV_Meth (by rfl) (by rfl) ?_
    refine EV_txt [] (by kernel_rfl) ?_
    refine GM_str PySem.F.slot_str_join PySem.F.type_str_join ?_
    refine ⟨rfl, ?_⟩
    refine ES_con (by rfl) ?_
    refine EV_CompJ [(("risky" : Str), rc)] ⟨rfl, rfl, by decide +kernel, by decide +kernel⟩ (fun _ => by rfl) ?_
    tm_at "Mgo"
    refine srcJ_str rm.handled rfl (by kernel_rfl) (fun i ys τ => ys = (w.take i).map (fun c => T (esc1 r c)) ∧ τ = (rc, .cell (some (T r))) :: (L, AO.ns [(("word" : Str), T w), (("manner" : Str), I (m : Int)), (("blank" : Str), T [b])]) :: σ) hw (by (first | lia | omega)) ⟨rfl, rfl⟩ ?_ ?_
    · rintro C R i hi ys τ ⟨rfl, rfl⟩ hl
      refine EV_IfExp ?_
      refine TE_Cmp (by kernel_rfl) ?_
      refine EV_loc (by kernel_rfl) (.head _) (.head _) ?_
      refine EV_cell (c := rc) rfl (by kernel_rfl) (by kernel_rfl) (by kernel_rfl) (by kernel_rfl) me1 ?_
      refine CMP_in1 (TRU_bool ?_)
      refine ite_of (fun h => ?_) (fun h => ?_)
      · refine EV_BinOp ?_
        refine EV_txt [92] (by kernel_rfl) ?_
        refine EV_loc (by kernel_rfl) (.head _) (.head _) ?_
        refine BIN_adds (by simp; (first | lia | omega)) ?_
        refine ⟨_, .refl, ?_, rfl⟩
        rw [List.take_succ_eq_append_getElem hi]; simp only [List.map_append, List.map_cons, List.map_nil, esc1]
        (first | refine ifP (by simpa using h) ?_ | rw [if_pos (by simpa using h)]); rfl
      · refine EV_loc (by kernel_rfl) (.head _) (.head _) ?_
        refine ⟨_, .refl, ?_, rfl⟩
        rw [List.take_succ_eq_append_getElem hi]; simp only [List.map_append, List.map_cons, List.map_nil, esc1]
        (first | refine ifN (by simpa using h) ?_ | rw [if_neg (by simpa using h)])
    · rintro D ys τ ⟨rfl, rfl⟩ hl
      tm_at "Mgo"
      have hel := esc_len r w
      refine ⟨KP_builtin, CW_join (ys := w.map (esc1 r)) (by simp [List.map_map, Function.comp_def]) (by show (esc r w).length ≤ _; (first | lia | omega)) ?_⟩
      refine EV_loc (by kernel_rfl) (by tm_at "Mm") (by tm_at "Mm") ?_
      refine BIN_adds (by show (esc r w).length + 1 ≤ _; (first | lia | omega)) ?_
      rw [show (w.map (esc1 r)).flatten = esc r w from rfl]
      refine ST_loc (by kernel_rfl) ch2 (by tm_at "Mp") ?_
      refine XS_cons ?_
      refine EX_Return ?_
      have hne : esc r w ++ [b] = (esc r w ++ [b]).headD 0 :: (esc r w ++ [b]).tail := by
        cases esc r w <;> rfl
      refine EV_IfExp ?_
      refine TE_Cmp (by kernel_rfl) ?_
      refine EV_Sub ?_
      refine EV_loc (by kernel_rfl) (by tm_at "Mm") (by tm_at "Mm") ?_
      refine EV_int ?_
      refine SUB_str (GI_str (k := 0) (c := (esc r w ++ [b]).headD 0) (by (first | (refine rwG hne ?_; try (with_reducible rfl)) | rw [hne]); simp [seqIndex?]) (by (first | (refine rwG hne ?_; try (with_reducible rfl)) | rw [hne]); rfl) (by decide) ?_)
      refine EV_txt [34] (by kernel_rfl) ?_
      tm_at "Mgo"
      refine ite_of (fun h => ?_) (fun h => ?_)
      · refine EV_BinOp ?_
        refine EV_txt [92] (by kernel_rfl) ?_
        refine EV_loc (by kernel_rfl) (by tm_at "Mm") (by tm_at "Mm") ?_
        refine BIN_adds (by simp; (first | lia | omega)) ?_
        refine ⟨_, .drop (.drop (.drop .refl)), ?_, rfl⟩
        rw [writ, if_neg hc, hr, lead34, if_pos (by simpa using h)]; rfl
      · refine EV_loc (by kernel_rfl) (by tm_at "Mm") (by tm_at "Mm") ?_
        refine ⟨_, .drop (.drop (.drop .refl)), ?_, rfl⟩
        rw [writ, if_neg hc, hr, lead34, if_neg (by simpa using h)]; rfl
end
theorem and63 (c : Nat) : Builtin.bitAnd (c : Int) 63 = ((c % 64 : Nat) : Int) := by rw [bitAnd_m6]; (first | lia | omega)
theorem and64 {c : Nat} (h : c < 128) : Builtin.bitAnd (c : Int) 64 = ((c / 64 * 64 : Nat) : Int) := by
  have : ∀ c : Fin 128, Builtin.bitAnd ((c.val : Nat) : Int) 64 = ((c.val / 64 * 64 : Nat) : Int) := by decide +kernel
  exact this ⟨c, h⟩
theorem or64 (v c : Nat) : Builtin.bitOr ((v * 64 : Nat) : Int) ((c % 64 : Nat) : Int) = ((v * 64 + c % 64 : Nat) : Int) := by
  have h := bitXor_and ((v * 64 : Nat) : Int) ((c % 64 : Nat) : Int)
  have h0 : Builtin.bitAnd ((v * 64 : Nat) : Int) ((c % 64 : Nat) : Int) = 0 := by
    unfold Builtin.bitAnd
    have e1 : decide ((0 : Int) ≤ ((v * 64 : Nat) : Int)) = true := by simp; (first | lia | omega)
    have e2 : decide ((0 : Int) ≤ ((c % 64 : Nat) : Int)) = true := by simp; (first | lia | omega)
    ((first | (refine rwG e1 ?_; try (with_reducible rfl)) | rw [e1]); (first | (refine rwG e2 ?_; try (with_reducible rfl)) | rw [e2]))
    show ((((v * 64 : Nat) : Int).toNat &&& ((c % 64 : Nat) : Int).toNat : Nat) : Int) = 0
    rw [Int.toNat_natCast, Int.toNat_natCast]
    have h63 : c % 64 = 63 &&& c := by rw [Nat.and_comm]; exact (Nat.and_two_pow_sub_one_eq_mod c 6).symm
    rw [h63, ← Nat.and_assoc]
    have : v * 64 &&& 63 = 0 := by rw [show (63 : Nat) = 2 ^ 6 - 1 from rfl, Nat.and_two_pow_sub_one_eq_mod]; (first | lia | omega)
    rw [this, Nat.zero_and]; rfl
  unfold Builtin.bitXor at h
  rw [h0] at h
  (first | lia | omega)
noncomputable def vgo : Nat → Nat → List Nat → Option (Nat × List Nat)
  | v, c, [] => if 64 ≤ c then none else some (v, [])
  | v, c, d :: r => if 64 ≤ c then vgo (v * 64 + d % 64) d r else some (v, d :: r)
theorem vgo_stop {v c : Nat} {r : List Nat} (h : ¬ 64 ≤ c) : vgo v c r = some (v, r) := by cases r <;> exact if_neg h
theorem vgo_nil {v c : Nat} (h : 64 ≤ c) : vgo v c [] = none := if_pos h
theorem vgo_go {v c d : Nat} {r : List Nat} (h : 64 ≤ c) : vgo v c (d :: r) = vgo (v * 64 + d % 64) d r := if_pos h
noncomputable def vint : List Nat → Option (Nat × List Nat)
  | [] => none
  | c :: r => vgo (c % 64) c r
section
variable {X : Cx} {A : Around} {σ : Hp} {E : Value → Shared → Prop}
noncomputable abbrev vF (F : Facts X) (L : Addr) (cd : Value) : Env := fenv (scOf (topSt 3)) L [] (nmOf (topSt 3)) adVar cd
noncomputable def NextOk (X : Cx) (n : Nat) (it : Value) (G : List Nat → Hp) (cs : List Nat) : Prop := ∀ p c r A' E', Rm n A' → c < 128 → (c :: r) <:+ cs → CW X A' E' (.builtin "next") [it] (p :: G (c :: r)) (fun v σ' => v = I (c : Int) ∧ σ' = p :: G r)
theorem CW_mono {f : Value} {vs : List Value} {Q Q' : Value → Hp → Prop} (h : CW X A E f vs σ Q) (k : ∀ v σ', Q v σ' → Q' v σ') : CW X A E f vs σ Q' := fun vs' e => (h vs' e).mono k
inductive VarI (L : Addr) (it : Value) (G : List Nat → Hp) (r : List Nat) (z : Option (Nat × List Nat)) (m : Nat) (σ' : Hp) : Prop
  | mk (v c' : Nat) (r' : List Nat) (hsuf : r' <:+ r) (e : σ' = (L, AO.ns [(("iterator" : Str), it), (("b" : Str), I ((c' : Nat) : Int)), (("val" : Str), I ((v : Nat) : Int))]) :: G r') (em : m = r'.length) (hc : c' < 128) (hr : ∀ d ∈ r', d < 128) (hl : r'.length < 1000) (hv : v < 2 ^ (10000 - 6 * r'.length)) (hgo : vgo v c' r' = z)
theorem c_varOk (F : Facts X) {it : Value} {G : List Nat → Hp} {cs r₁ : List Nat} {w : Nat} (hv : vint cs = some (w, r₁)) (h128 : ∀ c ∈ cs, c < 128) (hlen : cs.length < 1000) {n : Nat} (hn : NextOk X (n + 1) it G cs) (rm : Rm (n + 2) A) :
    CC X A F0 (.ref adVar) [it] (G cs) (fun v σ' => v = I (w : Int) ∧ σ' = G r₁) := by
  obtain ⟨c, r, rfl⟩ : ∃ c r, cs = c :: r := by
    cases cs with
    | nil => simp [vint] at hv
    | cons c r => exact ⟨c, r, rfl⟩
  have hc : c < 128 := h128 c (.head _)
  refine CC_def rm F.dVar.bf.fn rfl rfl (by decide +kernel) rfl fun cd L => ?_; refine CK_plain (by decide +kernel) ?_
  refine BD_cons ?_; refine ST_loc (by kernel_rfl) .here .nil ?_; refine BD_nil ?_
  refine XS_cons ?_
  refine EX_Assign (by kernel_rfl) ?_
  refine EV_CallN (by rfl) ?_; refine EV_builtin F.bNext (by rfl) (by kernel_rfl) (by kernel_rfl) (by rfl) (by rfl) ?_; refine ⟨rfl, ?_⟩
  refine ES_con (by rfl) ?_
  refine EV_loc (by kernel_rfl) (.head _) (.head _) ?_
  refine ES_nil ?_
  refine ⟨KP_builtin, CW_mono (hn _ c r _ _ (rm.deeper _) hc (List.suffix_refl _)) ?_⟩
  rintro v _ ⟨rfl, rfl⟩
  refine ST_loc (by kernel_rfl) .here (by tm_at "Mp") ?_
  refine XS_cons ?_
  refine EX_Assign (by kernel_rfl) ?_
  refine EV_BinOp ?_
  refine EV_loc (by kernel_rfl) (.head _) (by tm_at "Mm") ?_
  refine EV_int ?_
  refine BIN_and ?_
  (first | (refine rwG and63 ?_; try (with_reducible rfl)) | rw [and63])
  refine ST_loc (by kernel_rfl) .here (by tm_at "Mp") ?_
  refine XS_cons ?_
  refine EX_While (VarI L it G r (some (w, r₁))) r.length ⟨c % 64, c, r, List.suffix_refl _, rfl, rfl, hc, fun d hd => h128 d (.tail _ hd), by simp at hlen; (first | lia | omega), ?_, hv⟩ ?_
  · refine Nat.lt_of_lt_of_le (show c % 64 < 2 ^ 6 by (first | lia | omega)) (Nat.pow_le_pow_right (by decide) ?_)
    simp at hlen; (first | lia | omega)
  rintro m _ ⟨v, c, r, hsuf, rfl, rfl, hc, hr, hl, hvb, hgo⟩
  refine TE_plain rfl ?_
  refine EV_BinOp ?_
  refine EV_loc (by kernel_rfl) (.head _) (by tm_at "Mm") ?_
  refine EV_int ?_
  refine BIN_and ?_
  rw [and64 hc]
  refine TRU_int ?_
  refine ite_of (fun h => ?_) (fun h => ?_)
  · have h64 : 64 ≤ c := by simp at h; (first | lia | omega)
    obtain ⟨d, r', rfl⟩ : ∃ d r', r = d :: r' := by
      cases r with
      | nil => rw [vgo_nil h64] at hgo; cases hgo
      | cons d r' => exact ⟨d, r', rfl⟩
    have hd : d < 128 := hr d (.head _)
    have hgo' : vgo (v * 64 + d % 64) d r' = some (w, r₁) := by
      rw [vgo_go h64] at hgo; exact hgo
    simp only [List.length_cons] at hvb hl
    have hvb2 : v * 64 + d % 64 < 2 ^ (10000 - 6 * r'.length) := by
      have e1 : 10000 - 6 * r'.length = (10000 - 6 * (r'.length + 1)) + 6 := by (first | lia | omega)
      rw [e1, Nat.pow_add]
      have : v + 1 ≤ 2 ^ (10000 - 6 * (r'.length + 1)) := hvb
      have := Nat.mul_le_mul_right 64 this
      rw [show (2 : Nat) ^ 6 = 64 from rfl]
      (first | lia | omega)
    have hbits : Builtin.Int.intBits ((v : Nat) : Int) ≤ 10000 := intBits_le_iff.mpr (by
      rw [Int.natAbs_natCast]
      exact Nat.lt_of_lt_of_le hvb (Nat.pow_le_pow_right (by decide) (by (first | lia | omega))))
    refine XS_cons ?_
    refine EX_Aug ?_
    refine loadName_L rfl (by kernel_rfl) (.head _) (by tm_at "Mm") ?_
    refine EV_int ?_
    refine IOP_shl (by decide) (by (first | lia | omega)) ?_
    rw [show ((v : Nat) : Int) * 2 ^ (6 : Int).toNat = ((v * 64 : Nat) : Int) by rw [Int.natCast_mul]; rfl]
    refine ST_loc (by kernel_rfl) .here (by tm_at "Mp") ?_
    refine XS_cons ?_
    refine EX_Assign (by kernel_rfl) ?_
    refine EV_CallN (by rfl) ?_; refine EV_builtin F.bNext (by rfl) (by kernel_rfl) (by kernel_rfl) (by rfl) (by rfl) ?_; refine ⟨rfl, ?_⟩
    refine ES_con (by rfl) ?_
    refine EV_loc (by kernel_rfl) (.head _) (.head _) ?_
    refine ES_nil ?_
    refine ⟨KP_builtin, CW_mono (hn _ d r' _ _ (rm.deeper _) hd (hsuf.trans (List.suffix_cons _ _))) ?_⟩
    rintro _ _ ⟨rfl, rfl⟩
    refine ST_loc (by kernel_rfl) .here (by tm_at "Mp") ?_
    refine XS_cons ?_
    refine EX_Aug ?_
    refine loadName_L rfl (by kernel_rfl) (.head _) (by tm_at "Mm") ?_
    refine EV_BinOp ?_
    refine EV_loc (by kernel_rfl) (.head _) (by tm_at "Mm") ?_
    refine EV_int ?_
    refine BIN_and ?_
    (first | (refine rwG and63 ?_; try (with_reducible rfl)) | rw [and63])
    refine IOP_or ?_
    (first | (refine rwG or64 ?_; try (with_reducible rfl)) | rw [or64])
    refine ST_loc (by kernel_rfl) .here (by tm_at "Mp") ?_
    refine XS_nil ?_
    exact ⟨r'.length, _, .refl, by simp, _, _, r', (List.suffix_cons d r').trans hsuf, rfl, rfl, hd, fun x hx => hr x (.tail _ hx), by (first | lia | omega), hvb2, hgo'⟩
  · have h64 : ¬ 64 ≤ c := by simp at h; (first | lia | omega)
    have e : some (v, r) = some (w, r₁) := by
      rw [vgo_stop h64] at hgo; exact hgo
    obtain ⟨rfl, rfl⟩ := by simpa using e
    refine ⟨_, .refl, ?_⟩
    refine XS_cons ?_
    refine EX_Return ?_
    refine EV_loc (by kernel_rfl) (.head _) (by tm_at "Mm") ?_
    exact ⟨_, .drop .refl, rfl, rfl⟩
noncomputable def NextEnd (X : Cx) (n : Nat) (it : Value) (G : List Nat → Hp) (G0 : Hp) : Prop := ∀ p A' QE, Rm n A' → (∀ e : Addr, QE (.ref e) ((e, AO.exc .none) :: p :: G0)) → CW X A' (XE X QE) (.builtin "next") [it] (p :: G []) (fun _ _ => False)
theorem CW_monoE {f : Value} {vs : List Value} {Q Q' : Value → Hp → Prop} {E' : Value → Shared → Prop} (h : CW X A E f vs σ Q) (k : ∀ v σ', Q v σ' → Q' v σ') (kE : ∀ e s, E e s → E' e s) : CW X A E' f vs σ Q' := fun vs' e => (h vs' e).monoE k kE
theorem c_varEnd (F : Facts X) {it : Value} {G : List Nat → Hp} {G0 : Hp} {cs : List Nat} {outer : List Env} {Qσ : Hp → Prop} (hv : vint cs = none) (h128 : ∀ c ∈ cs, c < 128) (hlen : cs.length < 1000) {n : Nat} (hn : NextOk X (n + 1) it G cs) (he : NextEnd X (n + 1) it G G0)
    (hfr : A.frames = some outer) (hF : ∀ p, FrIn outer (p :: G0)) (hq : ∀ p, Qσ (p :: G0)) (rm : Rm (n + 2) A) :
    CC X A (XF X outer Qσ) (.ref adVar) [it] (G cs) (fun _ _ => False) := by
  refine CC_stmts rm F.dVar.bf.fn rfl rfl (by decide +kernel) rfl fun cd L => ?_; refine CK_plain (by decide +kernel) ?_
  have fr : ∀ es, FrIn (vF F L cd :: outer) ((L, AO.ns es) :: G0) := by
    intro es env henv
    rcases List.mem_cons.mp henv with rfl | h
    · exact ⟨(fun h => by cases h), L, es, rfl, .head _⟩
    · exact hF _ env h
  refine BD_cons ?_; refine ST_loc (by kernel_rfl) .here .nil ?_; refine BD_nil ?_
  refine XS_cons ?_
  refine EX_Assign (by kernel_rfl) ?_
  refine EV_CallN (by rfl) ?_; refine EV_builtin F.bNext (by rfl) (by kernel_rfl) (by kernel_rfl) (by rfl) (by rfl) ?_; refine ⟨rfl, ?_⟩
  refine ES_con (by rfl) ?_
  refine EV_loc (by kernel_rfl) (.head _) (.head _) ?_
  refine ES_nil ?_
  cases cs with
  | nil =>
    refine ⟨KP_builtin, CW_monoE (he _ _ (fun ev σ' => ∃ e es, ev = .ref e ∧ σ' = (e, AO.exc .none) :: (L, AO.ns es) :: G0) (rm.deeper _) (fun e => ⟨e, _, rfl, rfl⟩)) (fun _ _ x => x.elim) ?_⟩
    rintro _ s ⟨_, R, e, es, rfl, rfl⟩
    exact LV_first hfr (fr es) R (hq _)
  | cons c r =>
    have hc : c < 128 := h128 c (.head _)
    refine ⟨KP_builtin, CW_mono (hn _ c r _ _ (rm.deeper _) hc (List.suffix_refl _)) ?_⟩
    rintro v _ ⟨rfl, rfl⟩
    refine ST_loc (by kernel_rfl) .here (by tm_at "Mp") ?_
    refine XS_cons ?_
    refine EX_Assign (by kernel_rfl) ?_
    refine EV_BinOp ?_
    refine EV_loc (by kernel_rfl) (.head _) (by tm_at "Mm") ?_
    refine EV_int ?_
    refine BIN_and ?_
    (first | (refine rwG and63 ?_; try (with_reducible rfl)) | rw [and63])
    refine ST_loc (by kernel_rfl) .here (by tm_at "Mp") ?_
    refine XS_cons ?_
    refine EX_WhileE (Ein := XE X (fun ev σ' => ∃ e es, ev = .ref e ∧ σ' = (e, AO.exc .none) :: (L, AO.ns es) :: G0)) (VarI L it G r none) r.length ⟨c % 64, c, r, List.suffix_refl _, rfl, rfl, hc, fun d hd => h128 d (.tail _ hd), by simp at hlen; (first | lia | omega), ?_, hv⟩ ?_ ?_
    · refine Nat.lt_of_lt_of_le (show c % 64 < 2 ^ 6 by (first | lia | omega)) (Nat.pow_le_pow_right (by decide) ?_)
      simp at hlen; (first | lia | omega)
    · rintro _ s ⟨_, R, e, es, rfl, rfl⟩
      exact loop_out hfr rfl (fr es) R (hq _)
    rintro m _ ⟨v, c, r, hsuf, rfl, rfl, hc, hr, hl, hvb, hgo⟩
    refine TE_plain rfl ?_
    refine EV_BinOp ?_
    refine EV_loc (by kernel_rfl) (.head _) (by tm_at "Mm") ?_
    refine EV_int ?_
    refine BIN_and ?_
    rw [and64 hc]
    refine TRU_int ?_
    have h64 : 64 ≤ c := by
      apply Nat.le_of_not_lt
      intro h
      rw [vgo_stop (by (first | lia | omega))] at hgo
      cases hgo
    have hbits : Builtin.Int.intBits ((v : Nat) : Int) ≤ 10000 := intBits_le_iff.mpr (by
      rw [Int.natAbs_natCast]
      exact Nat.lt_of_lt_of_le hvb (Nat.pow_le_pow_right (by decide) (by (first | lia | omega))))
    (first | refine ifP (by simp; (first | lia | omega)) ?_ | rw [if_pos (by simp; (first | lia | omega))])
    cases r with
    | nil =>
      refine XS_cons ?_
      refine EX_Aug ?_
      refine loadName_L rfl (by kernel_rfl) (.head _) (by tm_at "Mm") ?_
      refine EV_int ?_
      refine IOP_shl (by decide) (by (first | lia | omega)) ?_
      refine ST_loc (by kernel_rfl) .here (by tm_at "Mp") ?_
      refine XS_cons ?_
      refine EX_Assign (by kernel_rfl) ?_
      refine EV_CallN (by rfl) ?_; refine EV_builtin F.bNext (by rfl) (by kernel_rfl) (by kernel_rfl) (by rfl) (by rfl) ?_; refine ⟨rfl, ?_⟩
      refine ES_con (by rfl) ?_
      refine EV_loc (by kernel_rfl) (.head _) (.head _) ?_
      refine ES_nil ?_
      exact ⟨KP_builtin, CW_monoE (he _ _ (fun ev σ' => ∃ e es, ev = .ref e ∧ σ' = (e, AO.exc .none) :: (L, AO.ns es) :: G0) (rm.deeper _) (fun e => ⟨e, _, rfl, rfl⟩)) (fun _ _ x => x.elim) (fun _ _ x => x)⟩
    | cons d r' =>
      have hd : d < 128 := hr d (.head _)
      have hgo' : vgo (v * 64 + d % 64) d r' = none := by
        rw [vgo_go h64] at hgo; exact hgo
      simp only [List.length_cons] at hvb hl
      have hvb2 : v * 64 + d % 64 < 2 ^ (10000 - 6 * r'.length) := by
        have e1 : 10000 - 6 * r'.length = (10000 - 6 * (r'.length + 1)) + 6 := by (first | lia | omega)
        rw [e1, Nat.pow_add]
        have : v + 1 ≤ 2 ^ (10000 - 6 * (r'.length + 1)) := hvb
        have := Nat.mul_le_mul_right 64 this
        rw [show (2 : Nat) ^ 6 = 64 from rfl]
        (first | lia | omega)
      have hbits : Builtin.Int.intBits ((v : Nat) : Int) ≤ 10000 := intBits_le_iff.mpr (by
        rw [Int.natAbs_natCast]
        exact Nat.lt_of_lt_of_le hvb (Nat.pow_le_pow_right (by decide) (by (first | lia | omega))))
      refine XS_cons ?_
      refine EX_Aug ?_
      refine loadName_L rfl (by kernel_rfl) (.head _) (by tm_at "Mm") ?_
      refine EV_int ?_
      refine IOP_shl (by decide) (by (first | lia | omega)) ?_
      rw [show ((v : Nat) : Int) * 2 ^ (6 : Int).toNat = ((v * 64 : Nat) : Int) by rw [Int.natCast_mul]; rfl]
      refine ST_loc (by kernel_rfl) .here (by tm_at "Mp") ?_
      refine XS_cons ?_
      refine EX_Assign (by kernel_rfl) ?_
      refine EV_CallN (by rfl) ?_; refine EV_builtin F.bNext (by rfl) (by kernel_rfl) (by kernel_rfl) (by rfl) (by rfl) ?_; refine ⟨rfl, ?_⟩
      refine ES_con (by rfl) ?_
      refine EV_loc (by kernel_rfl) (.head _) (.head _) ?_
      refine ES_nil ?_
      refine ⟨KP_builtin, CW_mono (hn _ d r' _ _ (rm.deeper _) hd (hsuf.trans (List.suffix_cons _ _))) ?_⟩
      rintro _ _ ⟨rfl, rfl⟩
      refine ST_loc (by kernel_rfl) .here (by tm_at "Mp") ?_
      refine XS_cons ?_
      refine EX_Aug ?_
      refine loadName_L rfl (by kernel_rfl) (.head _) (by tm_at "Mm") ?_
      refine EV_BinOp ?_
      refine EV_loc (by kernel_rfl) (.head _) (by tm_at "Mm") ?_
      refine EV_int ?_
      refine BIN_and ?_
      (first | (refine rwG and63 ?_; try (with_reducible rfl)) | rw [and63])
      refine IOP_or ?_
      (first | (refine rwG or64 ?_; try (with_reducible rfl)) | rw [or64])
      refine ST_loc (by kernel_rfl) .here (by tm_at "Mp") ?_
      refine XS_nil ?_
      exact ⟨r'.length, _, .refl, by simp, _, _, r', (List.suffix_cons d r').trans hsuf, rfl, rfl, hd, fun x hx => hr x (.tail _ hx), by (first | lia | omega), hvb2, hgo'⟩
end
noncomputable def price (a b : Nat) : Nat := if a = b then 0 else if ((a : Int) - b).natAbs = 32 ∧ 65 ≤ min a b ∧ min a b ≤ 90 then 1 else 2
theorem one_lt {x y : Nat} : ([x] : List Nat) < [y] ↔ x < y := by
  constructor
  · intro h
    rcases List.cons_lt_cons_iff.mp h with h | ⟨_, h⟩
    · exact h
    · exact absurd h (List.not_lt_nil _)
  · intro h
    exact List.cons_lt_cons_iff.mpr (.inl h)
section
variable {X : Cx} {A : Around} {σ : Hp} {E : Value → Shared → Prop}
theorem ALL_last {env : Env} {c : Bool} {Q : Bool → Hp → Prop} (q : Q c σ) : if c then ALL X A env E [] σ Q else Q false σ := by cases c <;> exact q
theorem c_price (F : Facts X) {a b : Nat} {n : Nat} (rm : Rm (n + 2) A) : CC X A F0 (.ref adPrice) [T [a], T [b]] σ (fun v σ' => v = I ((price a b : Nat) : Int) ∧ σ' = σ) := by
  refine CC_def rm F.dPrice.bf.fn rfl rfl (by decide +kernel) rfl fun cd L => ?_; refine CK_plain (by decide +kernel) ?_
  refine BD_cons ?_; refine ST_loc (by kernel_rfl) .here .nil ?_; refine BD_cons ?_; refine ST_loc (by kernel_rfl) .here (by tm_at "Mp") ?_; refine BD_nil ?_
  refine XS_cons ?_
  tm_at "Mgo"
  refine ite_of (fun h => ?_) (fun h => ?_)
  · have e : a = b := by simpa using h
    refine XS_cons ?_
    tm_at "Mgo"
    exact ⟨_, .drop .refl, by ((first | (refine rwG price ?_; try (with_reducible rfl)) | rw [price]); (first | refine ifP e ?_ | rw [if_pos e])); rfl, rfl⟩
  · have e : a ≠ b := by simpa using h
    tm_at "Mgo"
    refine XS_cons ?_
    refine EX_Return ?_
    refine EV_IfExp ?_
    refine W.mono (Q := fun c τ => c = decide (((a : Int) - b).natAbs = 32 ∧ 65 ≤ min a b ∧ min a b ≤ 90) ∧ τ = (L, AO.ns [(("one" : Str), T [a]), (("other" : Str), T [b])]) :: σ) ?_ ?_
    · refine TE_And ?_
      refine ALL_cons ?_
      refine TE_Cmp (by kernel_rfl) ?_
      refine EV_CallN (by rfl) ?_; refine EV_builtin F.bAbs (by rfl) (by kernel_rfl) (by kernel_rfl) (by rfl) (by rfl) ?_; refine ⟨rfl, ?_⟩
      refine ES_con (by rfl) ?_
      refine EV_BinOp ?_
      refine EV_CallN (by rfl) ?_; refine EV_builtin F.bOrd (by rfl) (by kernel_rfl) (by kernel_rfl) (by rfl) (by rfl) ?_; refine ⟨rfl, ?_⟩
      tm_at "Mgo"
      refine ⟨KP_builtin, CW_ord ?_⟩
      refine EV_CallN (by rfl) ?_; refine EV_builtin F.bOrd (by rfl) (by kernel_rfl) (by kernel_rfl) (by rfl) (by rfl) ?_; refine ⟨rfl, ?_⟩
      tm_at "Mgo"
      refine ⟨KP_builtin, CW_ord ?_⟩
      tm_at "Mgo"
      refine ⟨KP_builtin, CW_abs ?_⟩
      tm_at "Mgo"
      refine ite_of (fun h1 => ?_) (fun h1 => ?_)
      · have h1' : ((a : Int) - b).natAbs = 32 := by simp at h1; (first | lia | omega)
        refine ALL_cons ?_
        refine TE_Cmp2 (by kernel_rfl) ?_
        refine EV_txt [65] (by kernel_rfl) ?_
        refine EV_CallN (by rfl) ?_; refine EV_builtin F.bMin (by rfl) (by kernel_rfl) (by kernel_rfl) (by rfl) (by rfl) ?_; refine ⟨rfl, ?_⟩
        tm_at "Mgo"
        refine ⟨KP_builtin, CW_min2s rm.handled ?_⟩
        refine CMP_les (TRU_bool ?_)
        refine ite_of (fun h2 => ?_) (fun h2 => ?_)
        · have h2' : 65 ≤ min a b := by
            simp only [Bool.not_eq_true', decide_eq_false_iff_not, one_lt] at h2; (first | lia | omega)
          refine EV_txt [90] (by kernel_rfl) ?_
          refine CMP_les (TRU_bool ?_)
          refine ALL_last ?_
          refine ⟨?_, rfl⟩
          rw [show (decide ([90] < [min a b])) = decide (90 < min a b) from decide_eq_decide.mpr one_lt]
          by_cases h3 : min a b ≤ 90
          · rw [show decide (((a : Int) - b).natAbs = 32 ∧ 65 ≤ min a b ∧ min a b ≤ 90) = true from decide_eq_true ⟨h1', h2', h3⟩, show decide (90 < min a b) = false from decide_eq_false (by (first | lia | omega))]; rfl
          · rw [show decide (((a : Int) - b).natAbs = 32 ∧ 65 ≤ min a b ∧ min a b ≤ 90) = false from decide_eq_false (fun z => h3 z.2.2), show decide (90 < min a b) = true from decide_eq_true (by (first | lia | omega))]; rfl
        · have h2' : ¬ 65 ≤ min a b := by
            simp only [Bool.not_eq_false', decide_eq_true_eq, one_lt] at h2; (first | lia | omega)
          refine ALL_last ?_
          exact ⟨by simp [h2'], rfl⟩
      · exact ⟨by simp only [beq_eq_false_iff_ne, ne_eq] at h1; simp; intro h; exact absurd (by (first | lia | omega)) h1, rfl⟩
    rintro c _ ⟨rfl, rfl⟩
    refine ite_of (fun h => ?_) (fun h => ?_)
    · tm_at "Mgo"
      exact ⟨_, .drop .refl, by ((first | (refine rwG price ?_; try (with_reducible rfl)) | rw [price]); (first | refine ifN e ?_ | rw [if_neg e]); (first | refine ifP (of_decide_eq_true h) ?_ | rw [if_pos (of_decide_eq_true h)])); rfl, rfl⟩
    · tm_at "Mgo"
      exact ⟨_, .drop .refl, by ((first | (refine rwG price ?_; try (with_reducible rfl)) | rw [price]); (first | refine ifN e ?_ | rw [if_neg e]); (first | refine ifN (of_decide_eq_false h) ?_ | rw [if_neg (of_decide_eq_false h)])); rfl, rfl⟩
end
noncomputable def toldGo : Nat → List Nat → List Nat
  | _, [] => []
  | n, c :: r => if c < 64 then (64 * n + c % 64) :: toldGo 0 r else toldGo (64 * n + c % 64) r
section
variable {X : Cx} {A : Around} {σ : Hp} {E : Value → Shared → Prop}
noncomputable abbrev tE (as a : Addr) (n : Value) : List (Str × Value) := [(("signs" : Str), .ref as), (("number" : Str), n), (("numbers" : Str), .ref a)]
noncomputable abbrev tE2 (as a : Addr) (n s : Value) : List (Str × Value) := [(("signs" : Str), .ref as), (("number" : Str), n), (("numbers" : Str), .ref a), (("sign" : Str), s)]
inductive ToldI (as a : Addr) (cs : List Nat) (L : Addr) (σ : Hp) (l : Addr) (xs : List Value) (i : Nat) (τ : Hp) : Prop
  | mk (es : List (Str × Value)) (m : Nat) (out : List Nat) (hes : es = tE as a (I (m : Int)) ∨ ∃ s, es = tE2 as a (I (m : Int)) s) (e1 : l = as) (e2 : xs = chs cs) (e3 : out.length ≤ i) (e : toldGo 0 cs = out ++ toldGo m (cs.drop i)) (e4 : τ = (L, AO.ns es) :: (a, .seq "list" (nvs out)) :: σ)
theorem c_told (F : Facts X) {as : Addr} {cs : List Nat} (hs : (as, AO.seq "list" (chs cs)) ∈ σ) (hz : cs.length < 1000) {n : Nat} (rm : Rm (n + 2) A) :
    CC X A F0 (.ref adTold) [.ref as] σ (fun v σ' => ∃ a, v = .ref a ∧ σ' = (a, .seq "list" (nvs (toldGo 0 cs))) :: σ) := by
  have hsz := sizeLine_eq
  refine CC_def rm F.dTold.bf.fn rfl rfl (by decide +kernel) rfl fun cd L => ?_; refine CK_plain (by decide +kernel) ?_
  refine BD_cons ?_; refine ST_loc (by kernel_rfl) .here .nil ?_; refine BD_nil ?_
  refine XS_cons ?_
  refine EX_AssignSwap2 (x := "numbers") (y := "number") rm.handled (by rfl) (by kernel_rfl) ?_
  refine EV_Tuple ?_
  refine ES_con (by rfl) ?_
  refine EV_List ?_
  refine ES_nil ?_
  refine ⟨by simp, fun a => ?_⟩
  tm_at "Mgo"
  refine ⟨by simp; (first | lia | omega), fun t => ?_⟩
  refine ⟨t, _, _, rfl, .head _, ?_⟩
  refine ST_loc (by kernel_rfl) ch2 (by tm_at "Mp") ?_
  refine ST_loc (by kernel_rfl) ch2 (by tm_at "Mp") ?_
  refine W_pick (σ' := ((fenv (scOf (topSt 21)) L [] (nmOf (topSt 21)) adTold cd).locals, AO.ns (tE as a (I 0))) :: (a, .seq "list" []) :: σ) (.take ex2 (.take ex1 (.drop .refl))) ?_
  refine XS_cons ?_
  refine EX_ForList rm.handled (fun _ => by rfl) (ToldI as a cs (fenv (scOf (topSt 21)) L [] (nmOf (topSt 21)) adTold cd).locals σ) ?_
  refine EV_loc (by kernel_rfl) (.head _) (.head _) ?_
  refine ⟨as, _, rfl, ?_, ⟨_, 0, [], .inl rfl, rfl, rfl, Nat.le_refl _, rfl, rfl⟩, ?_, ?_⟩
  · rintro i τ ⟨es, m, out, _, _, _, _, _, rfl⟩
    exact .tail _ (.tail _ hs)
  · rintro τ ⟨es, m, out, hes, _, _, _, e, rfl⟩
    have e' : toldGo 0 cs = out := by (first | (refine rwG e ?_; try (with_reducible rfl)) | rw [e]); simp [chs, toldGo]
    (first | (refine rwG e' ?_; try (with_reducible rfl)) | rw [e'])
    have ho : (("numbers" : Str), Value.ref a) ∈ es := by
      rcases hes with rfl | ⟨s, rfl⟩
      · exact me2
      · exact me2
    refine XS_cons ?_
    refine EX_Return ?_
    refine EV_loc (by kernel_rfl) (.head _) ho ?_
    exact ⟨_, .drop (.take .here .refl), a, rfl, rfl⟩
  · rintro i hi τ it ⟨es, m, out, hes, _, _, hlen, e, rfl⟩
    have hi' : i < cs.length := by simpa [chs] using hi
    have hv : (chs cs)[i] = T [cs[i]] := by simp [chs]
    (first | (refine rwG hv ?_; try (with_reducible rfl)) | rw [hv])
    refine LG_Name (AS_Name ?_)
    have hput : ∀ v, Put ("sign" : Str) v es (tE2 as a (I (m : Int)) v) := by
      intro v
      rcases hes with rfl | ⟨s, rfl⟩
      · exact by tm_at "Mp"
      · exact by tm_at "Mp"
    refine ST_loc (by kernel_rfl) ch1 (hput _) ?_
    generalize hc : cs[i] = c
    refine XS_cons ?_
    refine EX_Assign (by kernel_rfl) ?_
    refine EV_BinOp (EV_BinOp ?_)
    tm_at "Mgo"
    refine BIN_mul (IntMulOk.of_left (by decide)) ?_
    refine EV_BinOp ?_
    refine EV_CallN (by rfl) ?_; refine EV_builtin F.bOrd (by rfl) (by kernel_rfl) (by kernel_rfl) (by rfl) (by rfl) ?_; refine ⟨rfl, ?_⟩
    tm_at "Mgo"
    refine ⟨KP_builtin, CW_ord ?_⟩
    tm_at "Mgo"
    refine BIN_modN c 64 (by decide) ?_
    refine BIN_add ?_
    rw [show (64 : Int) * (m : Int) + ((c % 64 : Nat) : Int) = ((64 * m + c % 64 : Nat) : Int) by (first | lia | omega)]
    tm_at "Mgo"
    refine XS_cons ?_
    refine EX_If ?_
    refine TE_Cmp (by kernel_rfl) ?_
    refine EV_CallN (by rfl) ?_; refine EV_builtin F.bOrd (by rfl) (by kernel_rfl) (by kernel_rfl) (by rfl) (by rfl) ?_; refine ⟨rfl, ?_⟩
    tm_at "Mgo"
    refine ⟨KP_builtin, CW_ord ?_⟩
    tm_at "Mgo"
    have hd : cs.drop i = c :: cs.drop (i + 1) := by rw [List.drop_eq_getElem_cons hi', hc]
    refine ite_of (fun h => ?_) (fun h => ?_)
    · have h64 : c < 64 := by simp at h; (first | lia | omega)
      refine XS_cons ?_
      refine EX_Expr (by rfl) (by kernel_rfl) ?_; refine EV_Meth (by rfl) (by rfl) ?_; tm_at "Mgo"; refine GM_list (by tm_at "Mm") PySem.F.slot_list_append PySem.F.type_list_append ?_; refine ⟨rfl, ?_⟩; tm_at "Mgo"
      refine ⟨KP_builtin, CW_append (by tm_at "Mc") (by simp; (first | lia | omega)) ?_⟩; refine ⟨rfl, ?_⟩
      refine XS_cons ?_
      tm_at "Mgo"
      refine ⟨_, .refl, _, 0, out ++ [64 * m + c % 64], .inr ⟨T [c], rfl⟩, rfl, rfl, by simp; (first | lia | omega), ?_, ?_⟩
      · rw [e, hd, toldGo, if_pos h64]; simp
      · simp
    · have h64 : ¬ c < 64 := by simp at h; (first | lia | omega)
      tm_at "Mgo"
      refine ⟨_, .refl, _, 64 * m + c % 64, out, .inr ⟨_, rfl⟩, rfl, rfl, by (first | lia | omega), ?_, rfl⟩
      rw [e, hd, toldGo, if_neg h64]
end
theorem vgo_suf (r : List Nat) : ∀ (v c w : Nat) (r' : List Nat), vgo v c r = some (w, r') → r' <:+ r := by
  induction r with
  | nil =>
    intro v c w r' h
    by_cases h64 : 64 ≤ c
    · rw [vgo_nil h64] at h; cases h
    · rw [vgo_stop h64] at h; cases h; exact List.suffix_refl _
  | cons d r ih =>
    intro v c w r' h
    by_cases h64 : 64 ≤ c
    · rw [vgo_go h64] at h; exact (ih _ _ _ _ h).trans (List.suffix_cons _ _)
    · rw [vgo_stop h64] at h; cases h; exact List.suffix_refl _
theorem vint_suf {cs r : List Nat} {w : Nat} (h : vint cs = some (w, r)) : r <:+ cs := by
  cases cs with
  | nil => cases h
  | cons c r0 => exact (vgo_suf r0 _ _ _ _ h).trans (List.suffix_cons _ _)
theorem vint_len {cs r : List Nat} {w : Nat} (h : vint cs = some (w, r)) : r.length < cs.length := by
  cases cs with
  | nil => cases h
  | cons c r0 => exact Nat.lt_succ_of_le (vgo_suf r0 _ _ _ _ h).length_le
noncomputable def vac (v : Nat) : List Nat → Option (Nat × List Nat)
  | [] => none
  | d :: r => vgo (v * 64 + d % 64) d r
theorem vint_vac (l : List Nat) : vint l = vac 0 l := by
  cases l with
  | nil => rfl
  | cons c r => show vgo (c % 64) c r = vgo (0 * 64 + c % 64) c r; rw [Nat.zero_mul, Nat.zero_add]
theorem vac_cons (v d : Nat) (r : List Nat) : vac v (d :: r) = if 64 ≤ d then vac (v * 64 + d % 64) r else some (v * 64 + d % 64, r) := by
  show vgo (v * 64 + d % 64) d r = _
  by_cases h : 64 ≤ d
  · (first | refine ifP h ?_ | rw [if_pos h]); cases r with
    | nil => exact vgo_nil h
    | cons => exact vgo_go h
  · rw [if_neg h, vgo_stop h]
theorem toldGo_cons (v c : Nat) (r : List Nat) : toldGo v (c :: r) = if c < 64 then (64 * v + c % 64) :: toldGo 0 r else toldGo (64 * v + c % 64) r := rfl
theorem told_vac (l : List Nat) : ∀ v, toldGo v l = (vac v l).elim [] fun p => p.1 :: toldGo 0 p.2 := by
  induction l with
  | nil => exact fun _ => rfl
  | cons c r ih =>
    intro v
    rw [toldGo_cons, vac_cons, Nat.mul_comm 64 v]
    by_cases h : 64 ≤ c
    · ((first | refine ifN (Nat.not_lt.mpr h) ?_ | rw [if_neg (Nat.not_lt.mpr h)]); (first | refine ifP h ?_ | rw [if_pos h])); exact ih _
    · ((first | refine ifP (Nat.lt_of_not_le h) ?_ | rw [if_pos (Nat.lt_of_not_le h)]); (first | refine ifN h ?_ | rw [if_neg h])); rfl
noncomputable def offs (cs : List Nat) : List Nat := toldGo 0 cs
theorem offs_none {cs : List Nat} (h : vint cs = none) : offs cs = [] := by
  show toldGo 0 cs = _
  rw [told_vac, ← vint_vac, h]; rfl
theorem offs_some {cs r : List Nat} {w : Nat} (h : vint cs = some (w, r)) : offs cs = w :: offs r := by
  show toldGo 0 cs = _
  rw [told_vac, ← vint_vac, h]; rfl
section
variable {X : Cx} {A : Around} {σ : Hp} {E : Value → Shared → Prop}
theorem CW_post {f : Value} {vs : List Value} {Q Q' : Value → Hp → Prop} (h : CW X A E f vs σ Q) (k : ∀ b σ', Q b σ' → OutQ Q' b σ') : CW X A E f vs σ Q' := fun vs' e => W.post (h vs' e) k
inductive OffI (cs : List Nat) (fr : Addr × AO) (a it D : Addr) (σ : Hp) (m : Nat) (τ : Hp) : Prop
  | mk (out r : List Nat) (em : m = r.length) (hsuf : r <:+ cs) (hl : out.length + r.length ≤ cs.length) (ho : offs cs = out ++ offs r) (e : τ = fr :: (a, .seq "list" (nvs out)) :: (it, LI D (cs.length - r.length)) :: (D, .seq "list" (nvs cs)) :: σ)
theorem c_off (F : Facts X) {as : Addr} {cs : List Nat} {outer : List Env} (hs : (as, AO.seq "list" (chs cs)) ∈ σ) (h128 : ∀ c ∈ cs, c < 128) (hz : cs.length < 1000) (hfr : A.frames = some outer) (hF : FrIn outer σ) {n : Nat} (rm : Rm (n + 5) A) :
    CC X A F0 (.ref adOff) [.ref as] σ (fun v σ' => ∃ a, v = .ref a ∧ σ' = (a, .seq "list" (nvs (offs cs))) :: σ) := by
  have hsz := sizeLine_eq
  refine CC_def rm F.dOff.bf.fn rfl rfl (by decide +kernel) rfl fun cd L => ?_; refine CK_plain (by decide +kernel) ?_
  refine BD_cons ?_; refine ST_loc (by kernel_rfl) .here .nil ?_; refine BD_nil ?_
  refine XS_cons ?_
  refine EX_Assign (by kernel_rfl) ?_
  refine EV_CallN (by rfl) ?_; refine EV_builtin F.bIter (by rfl) (by kernel_rfl) (by kernel_rfl) (by rfl) (by rfl) ?_; refine ⟨rfl, ?_⟩
  refine ES_con (by rfl) ?_
  refine EV_CompJ [] ⟨rfl, rfl, by decide +kernel, by decide +kernel⟩ (fun _ => by rfl) ?_
  tm_at "Mgo"
  refine srcJ_list (l := as) (xs := chs cs) rm.handled rfl (by kernel_rfl) (fun i ys τ => ys = nvs (cs.take i) ∧ τ = ((fenv (scOf (topSt 20)) L [] (nmOf (topSt 20)) adOff cd).locals, AO.ns [(("signs" : Str), .ref as)]) :: σ) ?_ (by simp [chs]; (first | lia | omega)) ⟨rfl, rfl⟩ ?_ ?_
  · rintro i ys τ ⟨_, rfl⟩
    exact .tail _ hs
  · rintro C R i hi ys τ ⟨rfl, rfl⟩ hl
    have hi' : i < cs.length := by simpa [chs] using hi
    have hv : (chs cs)[i] = T [cs[i]] := by simp [chs]
    (first | (refine rwG hv ?_; try (with_reducible rfl)) | rw [hv])
    refine EV_CallN (by rfl) ?_; refine EV_builtin F.bOrd (by rfl) (by kernel_rfl) (by kernel_rfl) (by rfl) (by rfl) ?_; refine ⟨rfl, ?_⟩
    refine ES_con (by rfl) ?_
    refine EV_loc (by kernel_rfl) (.head _) (.head _) ?_
    refine ES_nil ?_
    refine ⟨KP_builtin, CW_ord ?_⟩
    refine ⟨_, .refl, ?_, rfl⟩
    rw [List.take_succ_eq_append_getElem hi']; simp only [nvs, List.map_append, List.map_cons, List.map_nil]
  rintro D ys τ ⟨rfl, rfl⟩ hl
  refine ES_nil ?_
  refine ⟨KP_builtin, CW_iter1 (PI_list (.head _) fun it => ?_)⟩
  rw [List.take_of_length_le (by simp [chs])]
  refine ST_loc (by kernel_rfl) ch2 (by tm_at "Mp") ?_
  refine XS_cons ?_
  refine EX_Assign (by kernel_rfl) ?_
  refine EV_List ?_
  refine ES_nil ?_
  refine ⟨by simp, fun a => ?_⟩
  refine ST_loc (by kernel_rfl) ch3 (by tm_at "Mp") ?_
  let fr : Addr × AO := (L, AO.ns [(("signs" : Str), .ref as), (("tape" : Str), .ref it), (("numbers" : Str), .ref a)])
  refine W_pick (σ' := fr :: (a, .seq "list" (nvs [])) :: (it, LI D (cs.length - cs.length)) :: (D, .seq "list" (nvs cs)) :: σ) (.take ex3 (.take .here (.take (by rw [Nat.sub_self]; exact .here) (.take .here .refl)))) ?_
  refine XS_cons ?_
  have env20 : FrIn ((fenv (scOf (topSt 20)) L [] (nmOf (topSt 20)) adOff cd) :: outer) (fr :: σ) := by
    intro e he
    rcases List.mem_cons.mp he with rfl | h
    · exact ⟨(fun h => by cases h), L, _, rfl, .head _⟩
    · obtain ⟨h1, L', es, h2, h3⟩ := hF e h
      exact ⟨h1, L', es, h2, .tail _ h3⟩
  refine EX_TryLoop (Around.frames_deeper hfr) rfl (OffI cs fr a it D σ) cs.length ⟨[], cs, rfl, List.suffix_refl _, by simp, rfl, rfl⟩ (Qσ := fun τ => ∃ p, τ = p :: fr :: (a, .seq "list" (nvs (offs cs))) :: (D, .seq "list" (nvs cs)) :: σ) ?_ ?_ ?_
  · rintro m _ ⟨out, r, rfl, hsuf, hlen, e, rfl⟩
    have ok : NextOk X (n + 2 + 1) (.ref it) (fun r => fr :: (a, .seq "list" (nvs out)) :: (it, LI D (cs.length - r.length)) :: (D, .seq "list" (nvs cs)) :: σ) r := by
      intro p c r' A' E' rm' hc hsuf'
      have hs2 : (c :: r') <:+ cs := hsuf'.trans hsuf
      have hl2 : (c :: r').length ≤ cs.length := hs2.length_le
      have hget : (nvs cs)[cs.length - (c :: r').length]? = some (I (c : Int)) := by
        obtain ⟨pre, rfl⟩ := hs2
        simp [nvs]
      refine CW_post (CW_im (Pick.im (.take ex3 .refl)) (CW_monoE (CW_nextL (QE := fun _ _ => False) (Q := fun v σ' => v = I (c : Int) ∧ σ' = (it, LI D (cs.length - (c :: r').length + 1)) :: p :: fr :: (a, .seq "list" (nvs out)) :: (D, .seq "list" (nvs cs)) :: σ) rm'.handled me3 ?_ ?_) (fun _ _ q => q) ?_)) ?_
      · intro x hx
        rw [hget] at hx
        cases hx
        exact ⟨rfl, rfl⟩
      · intro hx; rw [hget] at hx; cases hx
      · rintro e s ⟨_, _, x⟩
        exact x.elim
      · rintro v _ ⟨rfl, rfl⟩
        refine ⟨p :: fr :: (a, .seq "list" (nvs out)) :: (it, LI D (cs.length - r'.length)) :: (D, .seq "list" (nvs cs)) :: σ, ?_, rfl, rfl⟩
        have e1 : cs.length - (c :: r').length + 1 = cs.length - r'.length := by simp at hl2 ⊢; (first | lia | omega)
        (first | (refine rwG e1 ?_; try (with_reducible rfl)) | rw [e1])
        exact .take ex1 (.take ex1 (.take ex1 .refl))
    have h128r : ∀ c ∈ r, c < 128 := fun c h => h128 c (hsuf.subset h)
    have hlr : r.length < 1000 := by (first | lia | omega)
    refine XS_cons ?_
    refine EX_Expr (by rfl) (by kernel_rfl) ?_
    refine EV_Meth (by rfl) (by rfl) ?_
    refine EV_loc (by kernel_rfl) (.head _) (by tm_at "Mm") ?_
    refine GM_list me1 PySem.F.slot_list_append PySem.F.type_list_append ?_
    refine ⟨rfl, ?_⟩
    refine ES_con (by rfl) ?_
    refine EV_CallN (by rfl) ?_; refine EV_global F.dVar.glob (by rfl) (by kernel_rfl) (by kernel_rfl) (by rfl) ?_; refine ⟨rfl, ?_⟩
    refine ES_con (by rfl) ?_
    refine EV_loc (by kernel_rfl) (.head _) (by tm_at "Mm") ?_
    refine ES_nil ?_
    refine ⟨KP_base F.dVar.bf.kp, ?_⟩
    cases hv : vint r with
    | none =>
      have en : NextEnd X (n + 2 + 1) (.ref it) (fun r => fr :: (a, .seq "list" (nvs out)) :: (it, LI D (cs.length - r.length)) :: (D, .seq "list" (nvs cs)) :: σ) (fr :: (a, .seq "list" (nvs out)) :: (D, .seq "list" (nvs cs)) :: σ) := by
        intro p A' QE rm' hq
        refine CW_im (Pick.im (.take ex3 .refl)) (CW_nextL rm'.handled me3 ?_ ?_)
        · intro x hx
          simp [nvs] at hx
        · intro _ e
          exact hq e
      have e0 : offs cs = out := by rw [e, offs_none hv, List.append_nil]
      refine CW_use (P := fun _ _ => False) (c_varEnd F (outer := (fenv (scOf (topSt 20)) L [] (nmOf (topSt 20)) adOff cd) :: outer) (Qσ := fun τ => ∃ p, τ = p :: fr :: (a, .seq "list" (nvs (offs cs))) :: (D, .seq "list" (nvs cs)) :: σ) hv h128r hlr ok en (Around.frames_deeper hfr) ?_ ?_ (rm.deeper _)) (fun _ _ x => x.elim)
      · intro p e he
        obtain ⟨h1, L', es, h2, h3⟩ := env20 e he
        rcases List.mem_cons.mp h3 with h3 | h3
        · exact ⟨h1, L', es, h2, by (first | (refine rwG h3 ?_; try (with_reducible rfl)) | rw [h3]); exact .tail _ (.head _)⟩
        · exact ⟨h1, L', es, h2, .tail _ (.tail _ (.tail _ (.tail _ h3)))⟩
      · intro p
        exact ⟨p, by (first | (refine rwG e0 ?_; try (with_reducible rfl)) | rw [e0])⟩
    | some wr =>
      obtain ⟨w, r'⟩ := wr
      refine CC_ret (c_varOk F hv h128r hlr ok (rm.deeper _)) ?_
      refine ES_nil ?_
      refine ⟨KP_builtin, CW_append ch1 (by simp; (first | lia | omega)) ?_⟩
      refine ⟨rfl, ?_⟩
      refine XS_nil ?_
      have hlt := vint_len hv
      have hs' := vint_suf hv
      refine ⟨rfl, r'.length, _, .refl, hlt, out ++ [w], r', rfl, hs'.trans hsuf, by simp; (first | lia | omega), by rw [e, offs_some hv]; simp, ?_⟩
      simp
  · intro A' σ' s K E' R hK
    obtain ⟨v', h4, h5⟩ := F.bStop.at_
    obtain rfl := er_type h5
    refine wpAny_Name ?_ (by kernel_rfl)
    rw [loadName_global rfl (by kernel_rfl)]
    exact loadGlobal_builtin (X.g.keeps R.keep) F.bStop.no (X.b.keeps R.keep) h4 hK
  · rintro τ e ⟨p, rfl⟩
    refine XS_cons ?_
    refine EX_Return ?_
    refine EV_loc (by kernel_rfl) me1 (by tm_at "Mm") ?_
    exact ⟨_, .drop (.drop (.take .here (.drop .refl))), a, rfl, rfl⟩
end
theorem maxI3 (a b c : Nat) : maxI [(a : Int), (b : Int), (c : Int)] = ((max (max a b) c : Nat) : Int) := by
  simp [maxI, argBest]
  split <;> split <;> simp_all <;> (first | lia | omega)
noncomputable def Toks : List Nat → List (List Nat) → List Nat → Prop
  | l, [], rest => l = rest
  | l, t :: ts, rest => ∃ r, tok l = some (t, r) ∧ Toks r ts rest
noncomputable def hdW (q : List (List Nat)) (t : List Nat) : List Nat := (q ++ [t]).headD []
noncomputable def tlW (q : List (List Nat)) (t : List Nat) : List (List Nat) := (q ++ [t]).tail
theorem hdtlW (q : List (List Nat)) (t : List Nat) : q ++ [t] = hdW q t :: tlW q t := by cases q <;> simp [hdW, tlW]
theorem tlW_len (q : List (List Nat)) (t : List Nat) : (tlW q t).length = q.length := by simp [tlW]
noncomputable def comeL : List (List Nat) → List (List Nat) → List (List Nat) → List (List Nat) → List (List (List Nat))
  | t0 :: t1 :: t2 :: r, q0, q1, q2 => [hdW q0 t0, hdW q1 t1, hdW q2 t2] :: comeL r (tlW q0 t0) (tlW q1 t1) (tlW q2 t2)
  | _, _, _, _ => []
theorem quo_suf : ∀ (n : Nat) (l acc t r : List Nat), l.length = n → quo acc l = some (t, r) → r <:+ l
  | n, [], acc, t, r, _, h => by simp [quo] at h
  | n, c :: l, acc, t, r, hn, h => by
    rcases quo_more h with ⟨_, _, rfl⟩ | ⟨_, _, d, r', rfl, h'⟩ | ⟨_, _, h'⟩
    · exact List.suffix_cons _ _
    · exact ((quo_suf r'.length r' _ _ _ rfl h').trans (List.suffix_cons _ _)).trans (List.suffix_cons _ _)
    · exact (quo_suf l.length l _ _ _ rfl h').trans (List.suffix_cons _ _)
termination_by n => n
decreasing_by all_goals (simp at hn; omega)
theorem bare_suf : ∀ (n : Nat) (l acc t r : List Nat), l.length = n → bare' acc l = some (t, r) → r <:+ l
  | n, [], acc, t, r, _, h => by simp [bare'] at h; rw [h.2]; exact List.suffix_refl _
  | n, c :: l, acc, t, r, hn, h => by
    rcases bare_more h with ⟨_, _, rfl⟩ | ⟨_, _, d, r', rfl, h'⟩ | ⟨_, _, h'⟩
    · exact List.suffix_cons _ _
    · exact ((bare_suf r'.length r' _ _ _ rfl h').trans (List.suffix_cons _ _)).trans (List.suffix_cons _ _)
    · exact (bare_suf l.length l _ _ _ rfl h').trans (List.suffix_cons _ _)
termination_by n => n
decreasing_by all_goals (simp at hn; omega)
theorem tok_suf : ∀ (l t r : List Nat), tok l = some (t, r) → r <:+ l
  | [], t, r, h => by simp [tok] at h
  | c :: l, t, r, h => by
    rcases tok_more h with ⟨_, h'⟩ | ⟨_, _, h'⟩ | ⟨_, _, _, d, r', rfl, h'⟩ | ⟨_, _, _, h'⟩
    · exact (tok_suf l t r h').trans (List.suffix_cons _ _)
    · exact (quo_suf _ _ _ _ _ rfl h').trans (List.suffix_cons _ _)
    · exact ((bare_suf _ _ _ _ _ rfl h').trans (List.suffix_cons _ _)).trans (List.suffix_cons _ _)
    · exact (bare_suf _ _ _ _ _ rfl h').trans (List.suffix_cons _ _)
section
variable {X : Cx} {A : Around} {σ : Hp} {E : Value → Shared → Prop}
noncomputable abbrev cEnv (F : Facts X) (L lxc dlc : Addr) (cd : Value) : Env := fenv (scOf (topSt 17)) L [(("delays" : Str), dlc), (("lexer" : Str), lxc)] (nmOf (topSt 17)) adCome cd
theorem memLX {C x dx st pb ll : Addr} {ln : Nat} {l : List Nat} {p q : Addr × AO} {τ : Hp} (h : q ∈ τ) : q ∈ LX C x dx st pb ll ln l (p :: τ) := .tail _ (.tail _ (.tail _ (.tail _ (.tail _ h))))
theorem chgLX {C x dx st pb ll a : Addr} {ln : Nat} {l : List Nat} {p : Addr × AO} {u v : AO} {τ τ' : Hp} (h : Chg a u v τ τ') : Chg a u v (LX C x dx st pb ll ln l (p :: τ)) (LX C x dx st pb ll ln l (p :: τ')) := .there (.there (.there (.there (.there h))))
theorem come_turn (F : Facts X) {L lxc dlc lx ldx lst lsd lrd llc lll lpb : Addr} {cd : Value} {es : List (Str × Value)} {σ₁ σ₂ σ₃ : Hp} {x dx pb wd : Addr} {st : Value} {q q' word : List (List Nat)} {t h : List Nat} {l r : List Nat} {ln K : Nat} (S : StIn σ lst lsd lrd llc lll)
    (hl : (("line" : Str), Value.ref x) ∈ es) (hw : (("word" : Str), Value.ref wd) ∈ es) (hc : (lxc, AO.cell (some (.ref lx))) ∈ σ)
    (hx : (x, inst adC dx) ∈ σ) (hd : (dx, AO.ns (lexD 1 st (.ref pb))) ∈ σ) (c1 : Chg pb (.seq "list" (tws q)) (.seq "list" (tws (q ++ [t]))) σ σ₁) (hx1 : (x, inst adC dx) ∈ σ₁) (hd1 : (dx, AO.ns (lexD 1 st (.ref pb))) ∈ σ₁) (e : q ++ [t] = h :: q')
    (c2 : Chg pb (.seq "list" (tws (q ++ [t]))) (.seq "list" (tws q')) σ₁ σ₂) (c3 : Chg wd (.seq "list" (tws word)) (.seq "list" (tws (word ++ [h]))) σ₂ σ₃) (zq : q.length < 1000) (zo : word.length < 1000) (hw1 : (wd, AO.seq "list" (tws word)) ∈ σ₁)
    (htok : tok l = some (t, r)) (hb : ∀ c ∈ l, c < 128) (hz : l.length < 999000) (hK : ln + c10 l = K) {n : Nat} (rm : Rm (n + 6) A) :
    XS X A (cEnv F L lxc dlc cd) F0 (forBody (nthSt (forBody (nthSt (bodyOf (topSt 17)) 4)) 1)) (LX adC lx ldx lst lpb lll ln l ((L, .ns es) :: σ)) (fun f σ' => f = .next ∧ ∃ ln', ln' + c10 r = K ∧ σ' = LX adC lx ldx lst lpb lll ln' r ((L, .ns es) :: σ₃)) := by
  have hsz := sizeLine_eq
  have e1 : tws (q ++ [t]) = tws q ++ [T t] := by simp [tws]
  have e2 : tws (word ++ [h]) = tws word ++ [T h] := by simp [tws]
  have e3 : tws (q ++ [t]) = T h :: tws q' := by (first | (refine rwG e ?_; try (with_reducible rfl)) | rw [e]); simp [tws]
  have zq' : q'.length < 1001 := by have := congrArg List.length e; simp at this; (first | lia | omega)
  refine XS_cons ?_
  refine EX_Expr (by rfl) (by kernel_rfl) ?_
  refine EV_Meth (by rfl) (by rfl) ?_
  refine EV_loc (by kernel_rfl) me4 hl ?_
  refine GM_fn F.pc F.mdPush.pm (memLX hx) (memLX hd) (by kernel_rfl) ?_
  refine ⟨rfl, ?_⟩
  refine ES_con (by rfl) ?_
  refine EV_Meth (by rfl) (by rfl) ?_
  refine EV_cell (c := lxc) rfl (by kernel_rfl) (by kernel_rfl) (by kernel_rfl) (by kernel_rfl) (memLX hc) ?_
  refine GM_fn F.pc F.mdGet.pm (.head _) me1 (by kernel_rfl) ?_
  refine ⟨rfl, ?_⟩
  refine ES_nil ?_
  refine ⟨KP_base F.mdGet.pm.kp, CW_use (c_tok F S.there rm htok hb hz hK).any ?_⟩
  rintro v σ' ⟨rfl, ln', hln, rfl⟩
  refine ES_nil ?_
  rw [e1] at c1
  refine ⟨KP_base F.mdPush.pm.kp, CC_ret (c_push F (memLX hx) (memLX hd) (chgLX c1) (by simp; (first | lia | omega)) rm) ?_⟩
  refine ⟨rfl, ?_⟩
  refine XS_cons ?_
  refine EX_Expr (by rfl) (by kernel_rfl) ?_
  refine EV_Meth (by rfl) (by rfl) ?_
  refine EV_loc (by kernel_rfl) me4 hw ?_
  refine GM_list (memLX hw1) PySem.F.slot_list_append PySem.F.type_list_append ?_
  refine ⟨rfl, ?_⟩
  refine ES_con (by rfl) ?_
  refine EV_Meth (by rfl) (by rfl) ?_
  refine EV_loc (by kernel_rfl) me4 hl ?_
  refine GM_fn F.pc F.mdGet.pm (memLX hx1) (memLX hd1) (by kernel_rfl) ?_
  refine ⟨rfl, ?_⟩
  refine ES_nil ?_
  rw [e3] at c2
  refine ⟨KP_base F.mdGet.pm.kp, CC_ret (c_getpb F (v := T h) (memLX hx1) (memLX hd1) (chgLX c2) (by simp; (first | lia | omega)) rm) ?_⟩
  refine ES_nil ?_
  rw [e2] at c3
  refine ⟨KP_builtin, CW_append (chgLX c3) (by simp; (first | lia | omega)) ?_⟩
  refine ⟨rfl, ?_⟩
  refine XS_nil ?_
  exact ⟨rfl, ln', hln, rfl⟩
end
section
variable {X : Cx} {A : Around} {σ : Hp} {E : Value → Shared → Prop}
noncomputable abbrev ce3 (hd : Nat) (D a : Addr) : List (Str × Value) := [(("head" : Str), I (hd : Int)), (("lines" : Str), .ref D), (("words" : Str), .ref a)]
noncomputable abbrev ce5 (hd : Nat) (D a : Addr) (tn : Value) (wd : Addr) : List (Str × Value) := [(("head" : Str), I (hd : Int)), (("lines" : Str), .ref D), (("words" : Str), .ref a), (("turn" : Str), tn), (("word" : Str), .ref wd)]
noncomputable abbrev ce6 (hd : Nat) (D a : Addr) (tn : Value) (wd : Addr) (w : Value) : List (Str × Value) := [(("head" : Str), I (hd : Int)), (("lines" : Str), .ref D), (("words" : Str), .ref a), (("turn" : Str), tn), (("word" : Str), .ref wd), (("line" : Str), w)]
noncomputable abbrev cIn (C wd D : Addr) (word : List (List Nat)) (l0 l1 l2 : Ln) (q0 q1 q2 : List (List Nat)) (base : Hp) : Hp := (wd, .seq "list" (tws word)) :: (D, .seq "list" [.ref l0.x, .ref l1.x, .ref l2.x]) :: LQ C l0.x l0.dx l0.pb l0.st (tws q0) (LQ C l1.x l1.dx l1.pb l1.st (tws q1) (LQ C l2.x l2.dx l2.pb l2.st (tws q2) base))
theorem mem_cIn {C wd D : Addr} {word : List (List Nat)} {l0 l1 l2 : Ln} {q0 q1 q2 : List (List Nat)} {base : Hp} {p : Addr × AO} (h : p ∈ base) : p ∈ cIn C wd D word l0 l1 l2 q0 q1 q2 base :=
  .tail _ (.tail _ (.tail _ (.tail _ (.tail _ (.tail _ (.tail _ (.tail _ (.tail _ (.tail _ (.tail _ h))))))))))
theorem StIn.mono {σ σ' : Hp} {st sd rd lc ll : Addr} (S : StIn σ st sd rd lc ll) (h : ∀ p ∈ σ, p ∈ σ') : StIn σ' st sd rd lc ll := ⟨let ⟨a, b, c, d, e, m⟩ := S.fn; ⟨a, b, c, d, e, h _ m⟩, h _ S.dict, h _ S.rd, h _ S.cell⟩
inductive ComeI (C : Addr) (hd : Nat) (D a : Addr) (tn : Value) (wd : Addr) (l0 l1 l2 : Ln) (l r0 r1 r2 : List Nat) (K : Nat) (lx ldx lst lpb lll L : Addr) (q0 q1 q2 : List (List Nat)) (t0 t1 t2 : List Nat) (base : Hp) (l' : Addr) (xs : List Value) (j : Nat) (τ : Hp) : Prop
  | mk (es : List (Str × Value)) (ln : Nat) (he : es = ce5 hd D a tn wd ∨ ∃ w, es = ce6 hd D a tn wd w) (h' : 1 ≤ j → es ≠ ce5 hd D a tn wd) (e1 : l' = D) (e2 : xs = [.ref l0.x, .ref l1.x, .ref l2.x]) (hK : ln + c10 ([l, r0, r1, r2].getD j []) = K)
      (e3 : τ = LX C lx ldx lst lpb lll ln ([l, r0, r1, r2].getD j []) ((L, .ns es) :: cIn C wd D ([hdW q0 t0, hdW q1 t1, hdW q2 t2].take j) l0 l1 l2 (if 0 < j then tlW q0 t0 else q0) (if 1 < j then tlW q1 t1 else q1) (if 2 < j then tlW q2 t2 else q2) base))
theorem come_inner (F : Facts X) {L lxc dlc lx ldx lst lsd lrd llc lll lpb D a wd : Addr} {cd tn : Value} {l0 l1 l2 : Ln} {hd : Nat} {es : List (Str × Value)} {t0 t1 t2 : List Nat} {q0 q1 q2 : List (List Nat)} {l r0 r1 r2 : List Nat} {ln K : Nat} {base : Hp} (S : StIn base lst lsd lrd llc lll)
    (he : es = ce5 hd D a tn wd ∨ ∃ w, es = ce6 hd D a tn wd w) (hc : (lxc, AO.cell (some (.ref lx))) ∈ base) (z0 : q0.length < 1000) (z1 : q1.length < 1000) (z2 : q2.length < 1000)
    (k0 : tok l = some (t0, r0)) (k1 : tok r0 = some (t1, r1)) (k2 : tok r1 = some (t2, r2)) (hb : ∀ c ∈ l, c < 128) (hz : l.length < 999000) (hK : ln + c10 l = K) {n : Nat} (rm : Rm (n + 6) A)
    {Q : Flow → Hp → Prop} (hQ : ∀ w ln', ln' + c10 r2 = K → Q .next (LX adC lx ldx lst lpb lll ln' r2 ((L, .ns (ce6 hd D a tn wd w)) :: cIn adC wd D [hdW q0 t0, hdW q1 t1, hdW q2 t2] l0 l1 l2 (tlW q0 t0) (tlW q1 t1) (tlW q2 t2) base))) :
    EX X A (cEnv F L lxc dlc cd) F0 (nthSt (forBody (nthSt (bodyOf (topSt 17)) 4)) 1) (LX adC lx ldx lst lpb lll ln l ((L, .ns es) :: cIn adC wd D [] l0 l1 l2 q0 q1 q2 base)) Q := by
  have hsz := sizeLine_eq
  have s0 := tok_suf _ _ _ k0
  have s1 := (tok_suf _ _ _ k1).trans s0
  have s2 := (tok_suf _ _ _ k2).trans s1
  refine EX_ForList rm.handled (fun _ => by rfl) (ComeI adC hd D a tn wd l0 l1 l2 l r0 r1 r2 K lx ldx lst lpb lll L q0 q1 q2 t0 t1 t2 base) ?_
  have hlines : (("lines" : Str), Value.ref D) ∈ es := by
    rcases he with rfl | ⟨w, rfl⟩
    · exact .tail _ (.head _)
    · exact .tail _ (.head _)
  refine EV_loc (by kernel_rfl) me4 hlines ?_
  refine ⟨D, _, rfl, ?_, ⟨es, ln, he, fun h => by omega, rfl, rfl, hK, rfl⟩, ?_, ?_⟩
  · rintro j τ ⟨_, _, _, _, _, _, _, rfl⟩
    exact memLX me1
  · rintro τ ⟨es, ln, h, h', _, _, hK', rfl⟩
    rcases h with rfl | ⟨w, rfl⟩
    · exact absurd rfl (h' (by simp))
    · exact hQ w ln hK'
  · rintro j hj τ it ⟨es, ln, he, h', _, _, hK', rfl⟩
    refine LG_Name (AS_Name ?_)
    have hput : ∀ v, Put ("line" : Str) v es (ce6 hd D a tn wd v) := by
      intro v
      rcases he with rfl | ⟨c0, rfl⟩
      · tm_at "Mp"
      · tm_at "Mp"
    refine ST_loc (by kernel_rfl) ch5 (hput _) ?_
    refine W_pick (.take ex1 (.take ex1 (.take ex1 (.take ex1 (.take ex1 .refl))))) ?_
    revert hK'
    refine lt3' ?_ ?_ ?_ j hj
    ·
      intro hK'
      refine W.mono (come_turn F (σ := (it, LI D (0 + 1)) :: cIn adC wd D [] l0 l1 l2 q0 q1 q2 base) (t := t0) (r := r0) (l := l) (ln := ln) (K := K) (q := q0) (word := []) (x := l0.x) (dx := l0.dx) (pb := l0.pb) (st := l0.st) (es := ce6 hd D a tn wd (.ref l0.x)) (S.mono fun p h => .tail _ (mem_cIn h)) me5 me4 (.tail _ (mem_cIn hc)) me3 me4 ch5 me3 me4 (hdtlW q0 t0) ch5 ch1 z0 (by simp) me1 k0 hb hz hK' rm) ?_
      rintro f σ' ⟨rfl, ln', hln, rfl⟩
      exact ⟨_, .take ex5 .refl, ce6 hd D a tn wd (.ref l0.x), ln', .inr ⟨_, rfl⟩, fun _ h => absurd (congrArg List.length h) (by simp), rfl, rfl, hln, rfl⟩
    ·
      intro hK'
      refine W.mono (come_turn F (σ := (it, LI D (1 + 1)) :: cIn adC wd D [hdW q0 t0] l0 l1 l2 (tlW q0 t0) q1 q2 base) (t := t1) (r := r1) (l := r0) (ln := ln) (K := K) (q := q1) (word := [hdW q0 t0]) (x := l1.x) (dx := l1.dx) (pb := l1.pb) (st := l1.st) (es := ce6 hd D a tn wd (.ref l1.x)) (S.mono fun p h => .tail _ (mem_cIn h)) me5 me4 (.tail _ (mem_cIn hc)) me6 me7 ch8 me6 me7 (hdtlW q1 t1) ch8 ch1 z1 (by simp) me1 k1 (fun c h => hb c (s0.subset h)) (Nat.lt_of_le_of_lt s0.length_le hz) hK' rm) ?_
      rintro f σ' ⟨rfl, ln', hln, rfl⟩
      exact ⟨_, .take ex5 .refl, ce6 hd D a tn wd (.ref l1.x), ln', .inr ⟨_, rfl⟩, fun _ h => absurd (congrArg List.length h) (by simp), rfl, rfl, hln, rfl⟩
    ·
      intro hK'
      refine W.mono (come_turn F (σ := (it, LI D (2 + 1)) :: cIn adC wd D [hdW q0 t0, hdW q1 t1] l0 l1 l2 (tlW q0 t0) (tlW q1 t1) q2 base) (t := t2) (r := r2) (l := r1) (ln := ln) (K := K) (q := q2) (word := [hdW q0 t0, hdW q1 t1]) (x := l2.x) (dx := l2.dx) (pb := l2.pb) (st := l2.st) (es := ce6 hd D a tn wd (.ref l2.x)) (S.mono fun p h => .tail _ (mem_cIn h)) me5 me4 (.tail _ (mem_cIn hc)) me9 me10 ch11 me9 me10 (hdtlW q2 t2) ch11 ch1 z2 (by simp) me1 k2 (fun c h => hb c (s1.subset h)) (Nat.lt_of_le_of_lt s1.length_le hz) hK' rm) ?_
      rintro f σ' ⟨rfl, ln', hln, rfl⟩
      exact ⟨_, .take ex5 .refl, ce6 hd D a tn wd (.ref l2.x), ln', .inr ⟨_, rfl⟩, fun _ h => absurd (congrArg List.length h) (by simp), rfl, rfl, hln, rfl⟩
end
noncomputable def noEx : Expr := .Constant .none 0 ⟨0, 0, 0, 0⟩
noncomputable def asgV : Stmt → Expr
  | .Assign _ v _ => v
  | _ => noEx
noncomputable def nthEx : List Expr → Nat → Expr
  | [], _ => noEx
  | e :: _, 0 => e
  | _ :: r, n + 1 => nthEx r n
noncomputable def callA : Expr → List Expr
  | .Call _ as _ _ => as
  | _ => []
noncomputable def lamB : Expr → Expr
  | .Lambda _ b _ _ => b
  | _ => noEx
noncomputable def lamS : Expr → Scope
  | .Lambda _ _ sc _ => sc
  | _ => scOf noSt
noncomputable def comeLam : Expr := nthEx (callA (nthEx (callA (asgV (nthSt (bodyOf (topSt 17)) 0))) 0)) 0
theorem c10_app (a b : List Nat) : c10 (a ++ b) = c10 a + c10 b := by simp [c10]
theorem c10_suf {a b : List Nat} (h : a <:+ b) : c10 a ≤ c10 b := by obtain ⟨p, rfl⟩ := h; rw [c10_app]; (first | lia | omega)
noncomputable def blkV (C : Addr) (base : Hp) : List (Ln × List (List Nat)) → Hp
  | [] => base
  | p :: r => LQ C p.1.x p.1.dx p.1.pb p.1.st (tws p.2) (blkV C base r)
theorem blkV_mem (C : Addr) (base : Hp) {x : Addr × AO} (h : x ∈ base) : ∀ (r : List (Ln × List (List Nat))), x ∈ blkV C base r
  | [] => h
  | _ :: r => .tail _ (.tail _ (.tail _ (blkV_mem C base h r)))
noncomputable def wl : List (Addr × List (List Nat)) → Hp → Hp
  | [], σ => σ
  | p :: r, σ => (p.1, .seq "list" (tws p.2)) :: wl r σ
theorem wl_mem {σ : Hp} {x : Addr × AO} (h : x ∈ σ) : ∀ (r : List (Addr × List (List Nat))), x ∈ wl r σ
  | [] => h
  | _ :: r => .tail _ (wl_mem h r)
theorem tws_rep (d : Nat) : List.replicate d (T [64]) = tws (List.replicate d [64]) := by simp [tws]
section
variable {X : Cx} {A : Around} {σ : Hp} {E : Value → Shared → Prop}
theorem c_ord (F : Facts X) {front : Hp} {lam lxc x dx st sd rd lc ll pb : Addr} {ln c : Nat} {r : List Nat} {τ : Hp} (S : StIn τ st sd rd lc ll) (hl : (lam, AO.fn "_law_come.<locals>.<lambda>" (plainPs []) (.expr (lamB comeLam)) (lamS comeLam) [(("lexer" : Str), lxc)] none) ∈ front) (hc : (lxc, AO.cell (some (.ref x))) ∈ front)
    (hz : r.length < sizeLine) (h128 : c < 128) (hr : ∀ c ∈ r, c < 128) {n : Nat} (rm : Rm (n + 4) A) :
    CC X A F0 (.ref lam) [] (front ++ LX adC x dx st pb ll ln (c :: r) τ) (fun v τ' => v = I (c : Int) ∧ τ' = front ++ LX adC x dx st pb ll (if c = 10 then ln + 1 else ln) r τ) := by
  refine CC_lam rm (FN_ao (List.mem_append_left _ hl)) rfl rfl (by decide +kernel) rfl fun cd L => ?_
  refine CK_plain (by decide +kernel) ?_
  refine BD_nil ?_
  refine EV_CallN (by rfl) ?_; refine EV_builtin F.bOrd (by rfl) (by kernel_rfl) (by kernel_rfl) (by rfl) (by rfl) ?_; refine ⟨rfl, ?_⟩
  refine ES_con (by rfl) ?_
  refine EV_Meth (by rfl) (by rfl) ?_
  refine EV_free (c := lxc) rfl (by kernel_rfl) (by kernel_rfl) (by kernel_rfl) (by kernel_rfl) (.tail _ (List.mem_append_left _ hc)) ?_
  refine GM_fn (dx := dx) F.pc F.mdRead.pm (.tail _ (List.mem_append_right _ (.head _))) (.tail _ (List.mem_append_right _ me1)) (by kernel_rfl) ?_
  refine ⟨rfl, ?_⟩
  refine ES_nil ?_
  refine ⟨KP_base F.mdRead.pm.kp, CC_ret (c_readX F (front := _ :: front) S hz h128 hr (rm.deeper _)) ?_⟩
  refine ES_nil ?_
  refine ⟨KP_builtin, CW_ord ?_⟩
  exact ⟨_, .drop .refl, rfl, rfl⟩
end
inductive Toks3 (l rest : List Nat) (ts : List (List Nat)) : Prop
  | mk (t0 t1 t2 : List Nat) (ts' : List (List Nat)) (r0 r1 r2 : List Nat) (e : ts = t0 :: t1 :: t2 :: ts') (k0 : tok l = some (t0, r0)) (k1 : tok r0 = some (t1, r1)) (k2 : tok r1 = some (t2, r2)) (h : Toks r2 ts' rest)
theorem Toks.split3 {l rest : List Nat} {ts : List (List Nat)} (h : Toks l ts rest) (h3 : 3 ≤ ts.length) : Toks3 l rest ts := by
  match ts, h3 with
  | t0 :: t1 :: t2 :: ts', _ =>
    obtain ⟨r0, h0, r1, h1, r2, h2, h⟩ := h
    exact ⟨t0, t1, t2, ts', r0, r1, r2, rfl, h0, h1, h2, h⟩
section
variable {X : Cx} {A : Around} {σ : Hp} {E : Value → Shared → Prop}
noncomputable abbrev lamAO (lxc : Addr) : AO := AO.fn "_law_come.<locals>.<lambda>" (plainPs []) (.expr (lamB comeLam)) (lamS comeLam) [(("lexer" : Str), lxc)] none
theorem come_next (F : Facts X) {it lam lxc dlc L lx ldx lst lsd lrd llc lll lpb : Addr} {es : List (Str × Value)} {cs : List Nat} {K n : Nat} (S : StIn σ lst lsd lrd llc lll) (hb : ∀ c ∈ cs, c < 128) (hz : cs.length < 1000) (hK : c10 cs ≤ K) :
    NextOk X (n + 6) (.ref it) (fun r => (it, CI (.ref lam) (I (-1))) :: (lam, lamAO lxc) :: (dlc, .cell none) :: (lxc, .cell (some (.ref lx))) :: (L, .ns es) :: LX adC lx ldx lst lpb lll (K - c10 r) r σ) cs := by
  intro p c r A' E' rm' hc hsuf
  have hsz := sizeLine_eq
  have hlr : r.length + 1 ≤ cs.length := hsuf.length_le
  have h10 := c10_suf hsuf
  have e10 := c10_cons c r
  refine CW_post (CW_im (Pick.im ((.take (.there (.here)) (.refl)))) (CW_monoE (CW_nextC (Q := fun v σ' => v = I (c : Int) ∧ σ' = (it, CI (.ref lam) (I (-1))) :: p :: (lam, lamAO lxc) :: (dlc, .cell none) :: (lxc, .cell (some (.ref lx))) :: (L, .ns es) :: LX adC lx ldx lst lpb lll (K - c10 r) r σ) (QE := fun _ _ => False) rm'.handled (Callee_fn me2) ?_) (fun _ _ q => q) ?_)) ?_
  · refine (c_ord F (n := n) (front := [(it, CI (.ref lam) (I (-1))), p, (lam, lamAO lxc), (dlc, .cell none), (lxc, .cell (some (.ref lx))), (L, .ns es)]) (lxc := lxc) S me2 me4 (by (first | lia | omega)) hc (fun d hd => hb d (hsuf.subset (.tail _ hd))) ((rm'.le (by (first | lia | omega) : n + 6 ≤ n + 6)).in1.in1)).mono (fun v σ' ⟨e1, e2⟩ => ?_) fun _ _ e => e
    subst e1 e2
    have ek : (if c = 10 then K - c10 (c :: r) + 1 else K - c10 (c :: r)) = K - c10 r := by
      by_cases hc10 : c = 10
      · rw [if_pos hc10] at e10 ⊢; (first | lia | omega)
      · rw [if_neg hc10] at e10 ⊢; (first | lia | omega)
    (first | (refine rwG ek ?_; try (with_reducible rfl)) | rw [ek])
    refine ⟨_, ((-1 : Int) == (c : Int)), .refl, Callee_fn me2, EQB_int, fun _ => ⟨rfl, rfl⟩, fun h => ?_⟩
    have : (-1 : Int) = (c : Int) := by simpa using h
    (first | lia | omega)
  · rintro e s ⟨_, _, x⟩
    exact x.elim
  · rintro v _ ⟨rfl, rfl⟩
    exact ⟨_, (.take (.there (.here)) (.refl)), rfl, rfl⟩
noncomputable abbrev cTau (F : Facts X) (L lx ldx lst lpb lll : Addr) (ln : Nat) (l : List Nat) (es : List (Str × Value)) (D dl dlc lxc a : Addr) (l0 l1 l2 : Ln) (q0 q1 q2 : List (List Nat)) (d0 d1 d2 : Nat) (ps : List (Addr × List (List Nat))) (σ : Hp) : Hp :=
  LX adC lx ldx lst lpb lll ln l ((L, .ns es) :: (D, .seq "list" [.ref l0.x, .ref l1.x, .ref l2.x]) :: LQ adC l0.x l0.dx l0.pb l0.st (tws q0) (LQ adC l1.x l1.dx l1.pb l1.st (tws q1) (LQ adC l2.x l2.dx l2.pb l2.st (tws q2) ((dl, .seq "list" [I (d0 : Int), I (d1 : Int), I (d2 : Int)]) :: (dlc, .cell (some (.ref dl))) :: (lxc, .cell (some (.ref lx))) :: (a, .seq "list" (ps.map fun p => .ref p.1)) :: wl ps.reverse σ))))
inductive ComeL (F : Facts X) (hd : Nat) (D a : Addr) (ts p0 p1 p2 : List (List Nat)) (l rest : List Nat) (K : Nat) (L lx ldx lst lpb lll dl dlc lxc : Addr) (l0 l1 l2 : Ln) (d0 d1 d2 : Nat) (σ : Hp) (i : Nat) (τ : Hp) : Prop
  | mk (es : List (Str × Value)) (ps : List (Addr × List (List Nat))) (ln : Nat) (l' : List Nat) (ts' q0 q1 q2 : List (List Nat)) (he : es = ce3 hd D a ∨ ∃ tn wd w, es = ce6 hd D a tn wd w) (e : comeL ts p0 p1 p2 = ps.map (·.2) ++ comeL ts' q0 q1 q2) (el : ts'.length + 3 * i = ts.length) (ht : Toks l' ts' rest) (hsuf : l' <:+ l) (hk : ln + c10 l' = K)
      (e0 : q0.length = p0.length) (e1 : q1.length = p1.length) (e2 : q2.length = p2.length) (hps : ps.length ≤ i) (hp : Pick (cTau F L lx ldx lst lpb lll ln l' es D dl dlc lxc a l0 l1 l2 q0 q1 q2 d0 d1 d2 ps σ) τ)
theorem come_loop (F : Facts X) {L lxc dlc lx ldx lst lsd lrd llc lll lpb D dl a : Addr} {cd : Value} {l0 l1 l2 : Ln} {hd d0 d1 d2 : Nat} {ts p0 p1 p2 : List (List Nat)} {l rest : List Nat} {ln K : Nat} (S : StIn σ lst lsd lrd llc lll)
    (htoks : Toks l ts rest) (hlen : ts.length = 3 * (hd / 64)) (hhd : hd < 2 ^ 20) (hb : ∀ c ∈ l, c < 128) (hz : l.length < 1000) (hK : ln + c10 l = K) (z0 : p0.length < 1000) (z1 : p1.length < 1000) (z2 : p2.length < 1000) {n : Nat} (rm : Rm (n + 6) A)
    {Q : Flow → Hp → Prop} (hQ : ∀ es ps ln' q0 q1 q2 τ, (es = ce3 hd D a ∨ ∃ tn wd w, es = ce6 hd D a tn wd w) → ps.map (·.2) = comeL ts p0 p1 p2 → ln' + c10 rest = K → Pick (cTau F L lx ldx lst lpb lll ln' rest es D dl dlc lxc a l0 l1 l2 q0 q1 q2 d0 d1 d2 ps σ) τ → Q .next τ) :
    EX X A (cEnv F L lxc dlc cd) F0 (nthSt (bodyOf (topSt 17)) 4) (cTau F L lx ldx lst lpb lll ln l (ce3 hd D a) D dl dlc lxc a l0 l1 l2 p0 p1 p2 d0 d1 d2 [] σ) Q := by
  have hsz := sizeLine_eq
  refine EX_ForRange rm.handled (fun _ => by rfl) (ComeL F hd D a ts p0 p1 p2 l rest K L lx ldx lst lpb lll dl dlc lxc l0 l1 l2 d0 d1 d2 σ) ?_ (fun _ _ _ _ q => LG_Name q)
  refine EV_CallN (by rfl) ?_; refine EV_builtin F.bRange (by rfl) (by kernel_rfl) (by kernel_rfl) (by rfl) (by rfl) ?_; refine ⟨rfl, ?_⟩
  refine ES_con (by rfl) ?_
  refine EV_BinOp ?_
  refine EV_loc (by kernel_rfl) me4 (.head _) ?_
  refine EV_int ?_
  refine BIN_divN hd 64 (by decide) (by decide) ?_
  refine ES_nil ?_
  refine ⟨KP_type, CW_range1 fun r => ?_⟩
  refine ⟨r, 0, _, 1, hd / 64, rfl, .head _, small_n (by (first | lia | omega)), size_n _, ?_, ?_, ?_⟩
  · exact ⟨_, [], ln, l, ts, p0, p1, p2, .inl rfl, rfl, rfl, htoks, List.suffix_refl _, hK, rfl, rfl, rfl, Nat.le_refl _, .drop .refl⟩
  · rintro τ ⟨es, ps, ln, l', ts', q0, q1, q2, he, e, el, ht, _, hk, _, _, _, _, hp⟩
    have : ts' = [] := List.eq_nil_of_length_eq_zero (by (first | lia | omega))
    subst this
    have ht : l' = rest := ht
    subst ht
    exact hQ es ps ln q0 q1 q2 τ he (by (first | (refine rwG e ?_; try (with_reducible rfl)) | rw [e]); simp [comeL]) hk hp
  · rintro i hi τ it ⟨es, ps, ln, l', ts', q0, q1, q2, he, e, el, ht, hsuf, hk, e0, e1, e2, hps, hp⟩
    obtain ⟨t0, t1, t2, ts', r0, r1, r2, rfl, k0, k1, k2, ht₂⟩ := ht.split3 (by (first | lia | omega))
    refine AS_pick (.take .here hp) (AS_Name ?_)
    have hput : ∀ v, ∃ es', Put ("turn" : Str) v es es' ∧ ∀ wd, ∃ es'', Put ("word" : Str) (.ref wd) es' es'' ∧ (es'' = ce5 hd D a v wd ∨ ∃ w, es'' = ce6 hd D a v wd w) := by
      intro v
      rcases he with rfl | ⟨tn0, wd0, w0, rfl⟩
      · exact ⟨_, by tm_at "Mp", fun wd => ⟨ce5 hd D a v wd, by tm_at "Mp", .inl rfl⟩⟩
      · exact ⟨_, by tm_at "Mp", fun wd => ⟨ce6 hd D a v wd w0, by tm_at "Mp", .inr ⟨_, rfl⟩⟩⟩
    obtain ⟨es₁, put1, hput2⟩ := hput (I (0 + (i : Int) * 1))
    refine ST_loc (by kernel_rfl) (.there (.there (.there (.there (.there (.here)))))) put1 ?_
    refine XS_cons ?_
    refine EX_Assign (by kernel_rfl) ?_
    refine EV_List ?_
    refine ES_nil ?_
    refine ⟨by simp, fun wd => ?_⟩
    obtain ⟨es₂, put2, hes₂⟩ := hput2 wd
    refine ST_loc (by kernel_rfl) (.there (.there (.there (.there (.there (.there (.here))))))) put2 ?_
    refine W_pick (σ' := LX adC lx ldx lst lpb lll ln l' ((L, .ns es₂) :: cIn adC wd D [] l0 l1 l2 q0 q1 q2 ((it, _) :: (dl, .seq "list" [I (d0 : Int), I (d1 : Int), I (d2 : Int)]) :: (dlc, .cell (some (.ref dl))) :: (lxc, .cell (some (.ref lx))) :: (a, .seq "list" (ps.map fun p => .ref p.1)) :: wl ps.reverse σ))) (.take (.there (.there (.here))) (.take (.there (.there (.here))) (.take (.there (.there (.here))) (.take (.there (.there (.here))) (.take (.there (.there (.here))) (.take (.here) (.take (.there (.here)) (.take (.there (.here)) (.take (.there (.here)) (.take (.there (.here)) (.take (.there (.here)) (.take (.there (.here)) (.take (.there (.here)) (.take (.there (.here)) (.take (.there (.here)) (.take (.there (.here)) (.refl))))))))))))))))) ?_
    refine XS_cons ?_
    refine come_inner F (S.mono fun p h => .tail _ (.tail _ (.tail _ (.tail _ (.tail _ (wl_mem h _)))))) hes₂ me3 (by (first | lia | omega)) (by (first | lia | omega)) (by (first | lia | omega)) k0 k1 k2 (fun c h => hb c (hsuf.subset h)) (Nat.lt_of_le_of_lt hsuf.length_le (by (first | lia | omega))) hk rm fun w ln' hk' => ?_
    refine XS_cons ?_
    refine EX_Expr (by rfl) (by kernel_rfl) ?_
    refine EV_Meth (by rfl) (by rfl) ?_
    refine EV_loc (by kernel_rfl) me4 me2 ?_
    refine GM_list (.tail _ (.tail _ (.tail _ (.tail _ (.tail _ (.tail _ (.tail _ (.tail _ (.tail _ (.tail _ (.tail _ (.tail _ (.tail _ (.tail _ (.tail _ (.tail _ (.tail _ (.tail _ (.tail _ (.tail _ (.head _))))))))))))))))))))) PySem.F.slot_list_append PySem.F.type_list_append ?_
    refine ⟨rfl, ?_⟩
    refine ES_con (by rfl) ?_
    refine EV_loc (by kernel_rfl) me4 me4 ?_
    refine ES_nil ?_
    refine ⟨KP_builtin, CW_append (.there (.there (.there (.there (.there (.there (.there (.there (.there (.there (.there (.there (.there (.there (.there (.there (.there (.there (.there (.there (.here))))))))))))))))))))) (by simp; (first | lia | omega)) ?_⟩
    refine ⟨rfl, ?_⟩
    refine XS_nil ?_
    refine ⟨cTau F L lx ldx lst lpb lll ln' r2 (ce6 hd D a (I (0 + (i : Int) * 1)) wd w) D dl dlc lxc a l0 l1 l2 (tlW q0 t0) (tlW q1 t1) (tlW q2 t2) d0 d1 d2 (ps ++ [(wd, [hdW q0 t0, hdW q1 t1, hdW q2 t2])]) σ, ?_, _, _, _, _, _, _, _, _, .inr ⟨_, _, _, rfl⟩, ?_, ?_, ht₂, ((tok_suf _ _ _ k2).trans ((tok_suf _ _ _ k1).trans (tok_suf _ _ _ k0))).trans hsuf, hk', ?_, ?_, ?_, ?_, .refl⟩
    · unfold cTau
      rw [List.reverse_append, List.map_append]
      exact (.take (.there (.there (.there (.there (.there (.there (.there (.there (.there (.there (.there (.there (.there (.there (.there (.there (.here))))))))))))))))) (.take (.here) (.take (.here) (.take (.here) (.take (.here) (.take (.here) (.take (.there (.here)) (.take (.there (.here)) (.take (.there (.here)) (.take (.there (.here)) (.take (.there (.here)) (.take (.there (.here)) (.take (.there (.here)) (.take (.there (.here)) (.take (.there (.here)) (.take (.there (.here)) (.take (.there (.here)) (.take (.there (.here)) (.take (.there (.here)) (.take (.there (.here)) (.refl)))))))))))))))))))))
    · (first | (refine rwG e ?_; try (with_reducible rfl)) | rw [e]); simp [comeL]
    · simp only [List.length_cons] at el; (first | lia | omega)
    · rw [tlW_len, e0]
    · rw [tlW_len, e1]
    · rw [tlW_len, e2]
    · simp; (first | lia | omega)
end
section
variable {X : Cx} {A : Around} {σ : Hp} {E : Value → Shared → Prop}
noncomputable abbrev rep64 (k : Nat) : List (List Nat) := List.replicate k [64]
inductive ComeC (C : Addr) (base : Hp) (m d0 d1 d2 : Nat) (i : Nat) (ys : List Value) (τ : Hp) : Prop
  | mk (ps : List (Ln × List (List Nat))) (e1 : ps.length = i) (e2 : ps.map (·.2) = [rep64 (m - d0), rep64 (m - d1), rep64 (m - d2)].take i) (e3 : ys = ps.map (fun p => .ref p.1.x)) (e4 : τ = blkV C base ps.reverse)
theorem c_come (F : Facts X) {lx ldx lst lsd lrd llc lll lpb : Addr} {cs l rest : List Nat} {hd ln K m : Nat} {ts : List (List Nat)} (S : StIn σ lst lsd lrd llc lll) (hv : vint cs = some (hd, l)) (htoks : Toks l ts rest) (hlen : ts.length = 3 * (hd / 64)) (hhd : hd < 2 ^ 20)
    (hb : ∀ c ∈ cs, c < 128) (hz : cs.length < 1000) (hK : ln + c10 cs = K) (hm : m = max (max (hd % 4) (hd / 4 % 4)) (hd / 16 % 4)) {n : Nat} (rm : Rm (n + 10) A) :
    CC X A F0 (.ref adCome) [.ref lx] (LX adC lx ldx lst lpb lll ln cs σ) (fun v σ' => ∃ (a : Addr) (ps : List (Addr × List (List Nat))) (ln' : Nat), v = .ref a ∧ ps.map (·.2) = comeL ts (rep64 (m - hd % 4)) (rep64 (m - hd / 4 % 4)) (rep64 (m - hd / 16 % 4)) ∧ ln' + c10 rest = K ∧
      σ' = LX adC lx ldx lst lpb lll ln' rest ((a, .seq "list" (ps.map fun p => .ref p.1)) :: wl ps.reverse σ)) := by
  have hsz := sizeLine_eq
  obtain rfl : ln = K - c10 cs := by (first | lia | omega)
  refine CC_defC rm (F.dCome.bf.fnc (C := fun cd => cd = .ref tabC.c) F.cC) rfl rfl (by decide +kernel) rfl fun cd hcd L => ?_
  subst hcd
  refine CK_cell fun lxc => ?_
  refine CK_skip rfl ?_
  refine CK_cell fun dlc => ?_
  refine CK_plain (by decide +kernel) ?_
  refine BD_cons ?_
  refine ST_cell rfl (by kernel_rfl) rfl (.there (.here)) ?_
  refine BD_nil ?_
  refine XS_cons ?_
  refine EX_Assign (by kernel_rfl) ?_
  refine EV_CallN (by rfl) ?_; refine EV_global F.dVar.glob (by rfl) (by kernel_rfl) (by kernel_rfl) (by rfl) ?_; refine ⟨rfl, ?_⟩
  refine ES_con (by rfl) ?_
  refine EV_CallN (by rfl) ?_; refine EV_builtin F.bIter (by rfl) (by kernel_rfl) (by kernel_rfl) (by rfl) (by rfl) ?_; refine ⟨rfl, ?_⟩
  refine ES_con (by rfl) ?_
  refine EV_Lambda F.kC (q := "_law_come.<locals>.<lambda>") rfl (by kernel_rfl) rfl rfl rfl F.nC fun lam => ?_
  tm_at "Mgo"
  refine ⟨KP_builtin, CW_iter2 (Callee_fn (.head _)) fun it => ?_⟩
  refine ES_nil ?_
  refine ⟨KP_base F.dVar.bf.kp, CC_ret (c_varOk F (G := fun r => (it, CI (.ref lam) (I (-1))) :: (lam, lamAO lxc) :: (dlc, .cell none) :: (lxc, .cell (some (.ref lx))) :: (L, .ns []) :: LX adC lx ldx lst lpb lll (K - c10 r) r σ) hv hb hz (n := n + 7) ((come_next F (n := n + 2) S hb hz (by (first | lia | omega)))) (rm.deeper _)) ?_⟩
  refine ST_loc (by kernel_rfl) (.there (.there (.there (.there (.here))))) .nil ?_
  refine W_pick (σ' := LX adC lx ldx lst lpb lll (K - c10 l) l ((L, .ns [(("head" : Str), I (hd : Int))]) :: (dlc, .cell none) :: (lxc, .cell (some (.ref lx))) :: σ)) (.take (.there (.there (.there (.there (.there (.here)))))) (.take (.there (.there (.there (.there (.there (.here)))))) (.take (.there (.there (.there (.there (.there (.here)))))) (.take (.there (.there (.there (.there (.there (.here)))))) (.take (.there (.there (.there (.there (.here))))) (.take (.there (.there (.here))) (.take (.there (.there (.here))) (.drop (.drop (.refl)))))))))) ?_
  refine XS_cons ?_
  refine EX_Assign (by kernel_rfl) ?_
  refine EV_List ?_
  tm_at "Mgo"
  refine BIN_modN hd 4 (by decide) ?_
  tm_at "Mgo"
  refine BIN_divN hd 4 (by decide) (by decide) ?_
  tm_at "Mgo"
  refine BIN_modN (hd / 4) 4 (by decide) ?_
  tm_at "Mgo"
  refine BIN_divN hd 16 (by decide) (by decide) ?_
  tm_at "Mgo"
  refine BIN_modN (hd / 16) 4 (by decide) ?_
  tm_at "Mgo"
  refine ⟨by simp; (first | lia | omega), fun dl => ?_⟩
  generalize hd0 : hd % 4 = d0 at hm ⊢
  generalize hd1 : hd / 4 % 4 = d1 at hm ⊢
  generalize hd2 : hd / 16 % 4 = d2 at hm ⊢
  have b0 : d0 ≤ m := max0 hm
  have b1 : d1 ≤ m := max1 hm
  have b2 : d2 ≤ m := max2 hm
  have bm : m < 4 := max4 hm (mod4 hd0.symm) (mod4 hd1.symm) (mod4 hd2.symm)
  refine ST_cell rfl (by kernel_rfl) rfl (.there (.there (.there (.there (.there (.there (.here))))))) ?_
  refine XS_cons ?_
  refine EX_AssignCompJ [(("delays" : Str), dlc)] (by kernel_rfl) ⟨rfl, rfl, by decide +kernel, by decide +kernel⟩ (fun _ => by rfl) ?_
  refine EV_cell (c := dlc) rfl (by kernel_rfl) (by kernel_rfl) (by kernel_rfl) (by kernel_rfl) me6 ?_
  let base : Hp := (dl, .seq "list" [I (d0 : Int), I (d1 : Int), I (d2 : Int)]) :: LX adC lx ldx lst lpb lll (K - c10 l) l ((L, .ns [(("head" : Str), I (hd : Int))]) :: (dlc, .cell (some (.ref dl))) :: (lxc, .cell (some (.ref lx))) :: σ)
  refine srcJ_list (l := dl) (xs := [I (d0 : Int), I (d1 : Int), I (d2 : Int)]) rm.handled rfl (by kernel_rfl) (ComeC adC base m d0 d1 d2) ?_ (by simp; (first | lia | omega)) ⟨[], rfl, rfl, rfl, rfl⟩ ?_ ?_
  · rintro i ys τ ⟨ps, _, _, _, rfl⟩
    exact blkV_mem _ _ (.head _) _
  · intro C R i hi ys τ hJ hl
    obtain ⟨ps, e1, e2, e3, rfl⟩ := hJ
    have hv : ∃ k : Nat, [I (d0 : Int), I (d1 : Int), I (d2 : Int)][i] = I (k : Int) ∧ k ≤ m ∧ [rep64 (m - d0), rep64 (m - d1), rep64 (m - d2)].take (i + 1) = [rep64 (m - d0), rep64 (m - d1), rep64 (m - d2)].take i ++ [rep64 (m - k)] := by
      refine lt3' ?_ ?_ ?_ i hi
      · exact ⟨d0, rfl, b0, rfl⟩
      · exact ⟨d1, rfl, b1, rfl⟩
      · exact ⟨d2, rfl, b2, rfl⟩
    obtain ⟨k, hk, km, hk2⟩ := hv
    (first | (refine rwG hk ?_; try (with_reducible rfl)) | rw [hk])
    refine EV_CallN (by rfl) ?_; refine EV_global F.dLine.glob (by rfl) (by kernel_rfl) (by kernel_rfl) (by rfl) ?_; refine ⟨rfl, ?_⟩
    refine ES_con (by rfl) ?_
    refine EV_BinOp ?_
    refine EV_CallN (by rfl) ?_; refine EV_builtin F.bMax (by rfl) (by kernel_rfl) (by kernel_rfl) (by rfl) (by rfl) ?_; refine ⟨rfl, ?_⟩
    refine ES_con (by rfl) ?_
    refine EV_cell (c := dlc) (v := .ref dl) rfl (by kernel_rfl) (by kernel_rfl) (by kernel_rfl) (by kernel_rfl) (.tail _ (List.mem_append_left _ (blkV_mem _ _ me6 _))) ?_
    refine ES_nil ?_
    refine ⟨KP_builtin, CW_max1 (ns := [(d0 : Int), (d1 : Int), (d2 : Int)]) rm.handled (.tail _ (List.mem_append_left _ (blkV_mem _ _ (.head _) _))) (by simp) ?_⟩
    ((first | (refine rwG maxI3 ?_; try (with_reducible rfl)) | rw [maxI3]); (first | (refine rwG hm.symm ?_; try (with_reducible rfl)) | rw [← hm]))
    refine EV_loc (by kernel_rfl) (.head _) (.head _) ?_
    refine BIN_sub ?_
    rw [show (m : Int) - (k : Int) = ((m - k : Nat) : Int) by (first | lia | omega)]
    refine ES_nil ?_
    refine ⟨KP_base F.dLine.bf.kp, CW_use (c_line F (d := m - k) (by (first | lia | omega)) (n := n + 3) (rm.deeper _)).any ?_⟩
    rintro v σ' ⟨x, dx, pb, st, rfl, rfl⟩
    refine ⟨LQ adC x dx pb st (List.replicate (m - k) (T [64])) (blkV adC base ps.reverse), (.take (.there (.there (.there (.here)))) (.refl)), ps ++ [(⟨x, dx, pb, st⟩, rep64 (m - k))], by simp [e1], by simp [e2, hk2], by simp [e3], ?_⟩
    rw [tws_rep]; simp [blkV]
  · rintro D ys τ ⟨ps, e1, e2, e3, rfl⟩ hl R
    obtain ⟨l0, l1, l2, rfl⟩ := ln3 (x := rep64 (m - d0)) (y := rep64 (m - d1)) (z := rep64 (m - d2)) e1 e2
    subst e3
    refine ST_loc (by kernel_rfl) (.there (.there (.there (.there (.there (.there (.there (.there (.there (.there (.there (.there (.there (.there (.there (.here)))))))))))))))) (by tm_at "Mp") ?_
    refine ⟨LX adC lx ldx lst lpb lll (K - c10 l) l ((L, .ns [(("head" : Str), I (hd : Int)), (("lines" : Str), .ref D)]) :: (D, .seq "list" [.ref l0.x, .ref l1.x, .ref l2.x]) :: LQ adC l0.x l0.dx l0.pb l0.st (tws (rep64 (m - d0))) (LQ adC l1.x l1.dx l1.pb l1.st (tws (rep64 (m - d1))) (LQ adC l2.x l2.dx l2.pb l2.st (tws (rep64 (m - d2))) ((dl, .seq "list" [I (d0 : Int), I (d1 : Int), I (d2 : Int)]) :: (dlc, .cell (some (.ref dl))) :: (lxc, .cell (some (.ref lx))) :: σ)))), ?_, ?_⟩
    · exact (.take (.there (.there (.there (.there (.there (.there (.there (.there (.there (.there (.there (.here)))))))))))) (.take (.there (.there (.there (.there (.there (.there (.there (.there (.there (.there (.there (.here)))))))))))) (.take (.there (.there (.there (.there (.there (.there (.there (.there (.there (.there (.there (.here)))))))))))) (.take (.there (.there (.there (.there (.there (.there (.there (.there (.there (.there (.there (.here)))))))))))) (.take (.there (.there (.there (.there (.there (.there (.there (.there (.there (.there (.there (.here)))))))))))) (.take (.here) (.take (.there (.there (.there (.there (.there (.there (.here))))))) (.take (.there (.there (.there (.there (.there (.there (.here))))))) (.take (.there (.there (.there (.there (.there (.there (.here))))))) (.take (.there (.there (.there (.here)))) (.take (.there (.there (.there (.here)))) (.take (.there (.there (.there (.here)))) (.refl)))))))))))))
    refine XS_cons ?_
    refine EX_Assign (by kernel_rfl) ?_
    refine EV_List ?_
    refine ES_nil ?_
    refine ⟨by simp, fun a => ?_⟩
    refine ST_loc (by kernel_rfl) (.there (.there (.there (.there (.there (.here)))))) (by tm_at "Mp") ?_
    refine W_pick (σ' := cTau F L lx ldx lst lpb lll (K - c10 l) l (ce3 hd D a) D dl dlc lxc a l0 l1 l2 (rep64 (m - d0)) (rep64 (m - d1)) (rep64 (m - d2)) d0 d1 d2 [] σ) (.take (.there (.here)) (.take (.there (.here)) (.take (.there (.here)) (.take (.there (.here)) (.take (.there (.here)) (.take (.there (.here)) (.take (.there (.here)) (.take (.there (.here)) (.take (.there (.here)) (.take (.there (.here)) (.take (.there (.here)) (.take (.there (.here)) (.take (.there (.here)) (.take (.there (.here)) (.take (.there (.here)) (.take (.there (.here)) (.take (.there (.here)) (.take (.there (.here)) (.take (.here) (.refl)))))))))))))))))))) ?_
    refine XS_cons ?_
    have hsl := vint_suf hv
    have hll := hsl.length_le
    have h10 := c10_suf hsl
    refine come_loop F S htoks hlen hhd (fun c h => hb c (hsl.subset h)) (by (first | lia | omega)) (show K - c10 l + c10 l = K by (first | lia | omega)) (by simp; (first | lia | omega)) (by simp; (first | lia | omega)) (by simp; (first | lia | omega)) (rm.deeper _) fun es ps ln' q0 q1 q2 τ he hps hk hp => ?_
    refine W_pick hp ?_
    have hw : (("words" : Str), Value.ref a) ∈ es := by
      rcases he with rfl | ⟨tn, wd, w, rfl⟩
      · exact me2
      · exact me2
    refine XS_cons ?_
    refine EX_Return ?_
    refine EV_loc (by kernel_rfl) me4 hw ?_
    exact ⟨_, (.take (.here) (.take (.here) (.take (.here) (.take (.here) (.drop (.drop (.drop (.drop (.drop (.drop (.drop (.drop (.drop (.drop (.drop (.drop (.drop (.drop (.refl))))))))))))))))))), a, ps, ln', rfl, hps, hk, rfl⟩
end
noncomputable def cpre : List Nat → List Nat → Nat
  | x :: a, y :: b => if x = y then cpre a b + 1 else 0
  | _, _ => 0
theorem cpre_le : ∀ a b : List Nat, cpre a b ≤ a.length ∧ cpre a b ≤ b.length
  | [], b => by simp [cpre]
  | x :: a, [] => by simp [cpre]
  | x :: a, y :: b => by
    have := cpre_le a b
    unfold cpre
    split <;> simp <;> omega
theorem seqIdx_pos {i n : Nat} (h : i < n) : seqIndex? (i : Int) n = some i := by simp [seqIndex?]; (first | lia | omega)
theorem seqIdx_neg {j n : Nat} (h : j < n) : seqIndex? (-((j : Nat) : Int) - 1) n = some (n - (j + 1)) := by
  unfold seqIndex?
  simp
  omega
section
variable {X : Cx} {A : Around} {σ : Hp} {E : Value → Shared → Prop}
noncomputable abbrev le4 (a b : List Nat) (mc : Int) (i : Nat) : List (Str × Value) := [(("a" : Str), T a), (("b" : Str), T b), (("max_cost" : Str), I mc), (("pre" : Str), I (i : Int))]
theorem pre_test (F : Facts X) {L : Addr} {cd : Value} {a b : List Nat} {mc : Int} {i : Nat} (za : a.length < 1000) (zb : b.length < 1000) {Q : Bool → Hp → Prop} (q : ∀ τ, Pick (((fenv (scOf (topSt 9)) L [] (nmOf (topSt 9)) adLev cd).locals, .ns (le4 a b mc i)) :: σ) τ → Q (decide (0 < cpre (a.drop i) (b.drop i))) τ) :
    ALL X A (fenv (scOf (topSt 9)) L [] (nmOf (topSt 9)) adLev cd) F0 (match nthSt (bodyOf (topSt 9)) 2 with | .While (.BoolOp _ vs _) _ _ _ => vs | _ => []) (((fenv (scOf (topSt 9)) L [] (nmOf (topSt 9)) adLev cd).locals, .ns (le4 a b mc i)) :: σ) Q := by
  have hsz := sizeLine_eq
  refine ALL_cons (TE_plain rfl ?_)
  tm_at "Mgo"
  intro s1
  refine SUB_str (GI_str_slice (x := a) (lo := some (i : Int)) (hi := none) (.head _) (by (first | lia | omega)) ?_)
  rw [slc_from (by (first | lia | omega)), Int.toNat_natCast]
  refine TRU_str (by simp; (first | lia | omega)) ?_
  cases ha : a.drop i with
  | nil =>
    rw [ha] at q
    (first | refine ifN (by simp) ?_ | rw [if_neg (by simp)])
    exact q _ (.drop .refl)
  | cons x a' =>
    have hia : i < a.length := by have := congrArg List.length ha; simp at this; (first | lia | omega)
    have hxa : a[i]? = some x := by have := congrArg (fun l => l[0]?) ha; simpa using this
    refine ite_of (fun _ => ?_) (fun h => by simp at h)
    refine ALL_cons (TE_plain rfl ?_)
    tm_at "Mgo"
    intro s2
    refine SUB_str (GI_str_slice (x := b) (lo := some (i : Int)) (hi := none) (.head _) (by (first | lia | omega)) ?_)
    rw [slc_from (by (first | lia | omega)), Int.toNat_natCast]
    refine TRU_str (by simp; (first | lia | omega)) ?_
    cases hb : b.drop i with
    | nil =>
      rw [ha, hb] at q
      (first | refine ifN (by simp) ?_ | rw [if_neg (by simp)])
      exact q _ (.drop (.drop .refl))
    | cons y b' =>
      have hib : i < b.length := by have := congrArg List.length hb; simp at this; (first | lia | omega)
      have hxb : b[i]? = some y := by have := congrArg (fun l => l[0]?) hb; simpa using this
      refine ite_of (fun _ => ?_) (fun h => by simp at h)
      refine ALL_cons ?_
      refine TE_Cmp (by kernel_rfl) ?_
      refine EV_Sub ?_
      tm_at "Mgo"
      refine SUB_str (GI_str (seqIdx_pos hia) hxa (by (first | lia | omega)) ?_)
      refine EV_Sub ?_
      tm_at "Mgo"
      refine SUB_str (GI_str (seqIdx_pos hib) hxb (by (first | lia | omega)) ?_)
      tm_at "Mgo"
      refine ALL_last ?_
      rw [ha, hb] at q
      have e : ([x] == [y]) = decide (0 < cpre (x :: a') (y :: b')) := by
        unfold cpre
        by_cases h : x = y <;> simp [h]
      (first | (refine rwG e ?_; try (with_reducible rfl)) | rw [e])
      exact q _ (.drop (.drop .refl))
inductive PreI (a b : List Nat) (mc : Int) (L : Addr) (σ : Hp) (m : Nat) (σ' : Hp) : Prop
  | mk (i : Nat) (em : m = a.length - i) (hi : i ≤ a.length) (e : cpre a b = i + cpre (a.drop i) (b.drop i)) (e' : σ' = (L, .ns (le4 a b mc i)) :: σ)
theorem lev_pre (F : Facts X) {L : Addr} {cd : Value} {a b : List Nat} {mc : Int} (za : a.length < 1000) (zb : b.length < 1000) {Q : Flow → Hp → Prop} (q : Q .next (((fenv (scOf (topSt 9)) L [] (nmOf (topSt 9)) adLev cd).locals, .ns (le4 a b mc (cpre a b))) :: σ)) :
    EX X A (fenv (scOf (topSt 9)) L [] (nmOf (topSt 9)) adLev cd) F0 (nthSt (bodyOf (topSt 9)) 2) (((fenv (scOf (topSt 9)) L [] (nmOf (topSt 9)) adLev cd).locals, .ns (le4 a b mc 0)) :: σ) Q := by
  refine EX_While (PreI a b mc (fenv (scOf (topSt 9)) L [] (nmOf (topSt 9)) adLev cd).locals σ) a.length ⟨0, rfl, Nat.zero_le _, by simp, rfl⟩ ?_
  rintro m _ ⟨i, rfl, hi, e, rfl⟩
  refine TE_And (pre_test F za zb fun τ hp => ?_)
  by_cases h : 0 < cpre (a.drop i) (b.drop i)
  · (first | refine ifP (by simpa using h) ?_ | rw [if_pos (by simpa using h)])
    refine W_pick hp ?_
    refine XS_cons ?_
    refine EX_Aug ?_
    refine loadName_L rfl (by kernel_rfl) (.head _) me3 ?_
    tm_at "Mgo"
    have hle := (cpre_le (a.drop i) (b.drop i)).1
    rw [List.length_drop] at hle
    refine ⟨a.length - (i + 1), _, .refl, by (first | lia | omega), i + 1, rfl, by (first | lia | omega), ?_, ?_⟩
    · cases ha : a.drop i with
      | nil => rw [ha] at h; simp [cpre] at h
      | cons x a' =>
        cases hb : b.drop i with
        | nil => rw [ha, hb] at h; simp [cpre] at h
        | cons y b' =>
          have ha' : a.drop (i + 1) = a' := by rw [← List.drop_drop, ha]; rfl
          have hb' : b.drop (i + 1) = b' := by rw [← List.drop_drop, hb]; rfl
          rw [ha, hb] at h
          rw [e, ha, hb, ha', hb']
          have hun : cpre (x :: a') (y :: b') = if x = y then cpre a' b' + 1 else 0 := rfl
          rw [hun] at h ⊢
          by_cases hxy : x = y
          · (first | refine ifP hxy ?_ | rw [if_pos hxy]); (first | lia | omega)
          · rw [if_neg hxy] at h; (first | lia | omega)
    · rfl
  · (first | refine ifN (by simpa using h) ?_ | rw [if_neg (by simpa using h)])
    have h0 : cpre (a.drop i) (b.drop i) = 0 := by (first | lia | omega)
    refine ⟨_, hp, ?_⟩
    rw [h0, Nat.add_zero] at e
    (first | (refine rwG e.symm ?_; try (with_reducible rfl)) | rw [← e])
    exact q
end
theorem cut_back {α : Type} (a : List α) (j : Nat) : slc none (if j = 0 then none else some (-((j : Nat) : Int))) a = a.take (a.length - j) := by
  by_cases h : j = 0
  · subst h; simp [slc_all]
  · rw [if_neg h, slc_back (by (first | lia | omega))]
theorem drop_cons {α : Type} {l : List α} {j : Nat} {x : α} {r : List α} (h : l.drop j = x :: r) : j < l.length ∧ l[j]? = some x := by
  have h1 : j < l.length := by have := congrArg List.length h; simp at this; omega
  have := congrArg (fun l => l[0]?) h
  exact ⟨h1, by simpa using this⟩
theorem rev_at {l : List Nat} {j x : Nat} (h : j < l.length) (hx : l.reverse[j]? = some x) : l[l.length - (j + 1)]? = some x := by
  rw [List.getElem?_reverse h] at hx
  (first | (refine rwG hx.symm ?_; try (with_reducible rfl)) | rw [← hx])
  congr 1
  (first | lia | omega)
section
variable {X : Cx} {A : Around} {σ : Hp} {E : Value → Shared → Prop}
noncomputable abbrev le5 (a b : List Nat) (mc : Int) (p j : Nat) : List (Str × Value) := [(("a" : Str), T a), (("b" : Str), T b), (("max_cost" : Str), I mc), (("pre" : Str), I (p : Int)), (("post" : Str), I (-(j : Int)))]
theorem EV_upto (F : Facts X) {L : Addr} {cd : Value} {es : List (Str × Value)} {x : Str} {t : List Nat} {j : Nat} {p1 p2 p3 p4 p5 p6 : Pos} {k : Nat} {Q : Value → Hp → Prop} (hl : ((fenv (scOf (topSt 9)) L [] (nmOf (topSt 9)) adLev cd).kindOf x) = some .local) (hd : (x == ("__debug__" : Str)) = false) (hm : ((fenv (scOf (topSt 9)) L [] (nmOf (topSt 9)) adLev cd).locals, AO.ns es) ∈ σ) (hx : (x, T t) ∈ es) (hp : (("post" : Str), I (-(j : Int))) ∈ es) (hz : t.length < 1000)
    (q : ∀ s v, Q (T (t.take (t.length - j))) ((s, .fldE "slice" [.none, v, .none]) :: σ)) :
    EV X A (fenv (scOf (topSt 9)) L [] (nmOf (topSt 9)) adLev cd) E (.Subscript (.Name x p1) (.Slice none (some (.BoolOp .Or [.Name ("post" : Str) p2, .Constant .none k p3] p4)) none p5) p6) σ Q := by
  have hsz := sizeLine_eq
  refine EV_Sub ?_
  refine EV_local rfl hl hd hm hx ?_
  refine EV_Slice ?_
  refine PT_none ?_
  refine PT_some ?_
  refine W.mono (Q := fun v τ => v = prt (if j = 0 then none else some (-((j : Nat) : Int))) ∧ τ = σ) ?_ ?_
  · refine EV_Or2 ?_
    refine EV_loc (by kernel_rfl) hm hp ?_
    refine TRU_int ?_
    refine ite_of (fun h => ?_) (fun h => ?_)
    · have : j ≠ 0 := by simp at h; omega
      exact ⟨by (first | refine ifN this ?_ | rw [if_neg this]); rfl, rfl⟩
    · have : j = 0 := by simp at h; omega
      refine EV_none ?_
      exact ⟨by (first | refine ifP this ?_ | rw [if_pos this]); rfl, rfl⟩
  · rintro v _ ⟨rfl, rfl⟩
    refine PT_none ?_
    intro s
    refine SUB_str (GI_str_slice (x := t) (lo := none) (.head _) (by omega) ?_)
    rw [cut_back]
    exact q _ _
theorem post_test (F : Facts X) {L : Addr} {cd : Value} {a b : List Nat} {mc : Int} {p j : Nat} (za : a.length < 1000) (zb : b.length < 1000) {Q : Bool → Hp → Prop} (q : ∀ τ, Pick (((fenv (scOf (topSt 9)) L [] (nmOf (topSt 9)) adLev cd).locals, .ns (le5 a b mc p j)) :: σ) τ → Q (decide (0 < cpre (a.reverse.drop j) (b.reverse.drop j))) τ) :
    ALL X A (fenv (scOf (topSt 9)) L [] (nmOf (topSt 9)) adLev cd) F0 (match nthSt (bodyOf (topSt 9)) 6 with | .While (.BoolOp _ vs _) _ _ _ => vs | _ => []) (((fenv (scOf (topSt 9)) L [] (nmOf (topSt 9)) adLev cd).locals, .ns (le5 a b mc p j)) :: σ) Q := by
  have hsz := sizeLine_eq
  refine ALL_cons (TE_plain rfl ?_)
  refine EV_upto F (by kernel_rfl) (by kernel_rfl) (.head _) (.head _) me4 za fun s1 v1 => ?_
  refine TRU_str (by simp; omega) ?_
  cases ha : a.reverse.drop j with
  | nil =>
    have hn : a.length - j = 0 := by have := congrArg List.length ha; simp at this; omega
    rw [ha] at q
    (first | refine ifN (by simp [hn]) ?_ | rw [if_neg (by simp [hn])])
    exact q _ (.drop .refl)
  | cons x a' =>
    obtain ⟨hia, hxa⟩ := drop_cons ha
    rw [List.length_reverse] at hia
    have hxa := rev_at hia hxa
    refine ite_of (fun _ => ?_) (fun h => by simp at h; rcases h with h | h <;> first | omega | (subst h; simp at hia))
    refine ALL_cons (TE_plain rfl ?_)
    refine EV_upto F (by kernel_rfl) (by kernel_rfl) me1 me1 me4 zb fun s2 v2 => ?_
    refine TRU_str (by simp; omega) ?_
    cases hb : b.reverse.drop j with
    | nil =>
      have hn : b.length - j = 0 := by have := congrArg List.length hb; simp at this; omega
      rw [ha, hb] at q
      (first | refine ifN (by simp [hn]) ?_ | rw [if_neg (by simp [hn])])
      exact q _ (.drop (.drop .refl))
    | cons y b' =>
      obtain ⟨hib, hxb⟩ := drop_cons hb
      rw [List.length_reverse] at hib
      have hxb := rev_at hib hxb
      refine ite_of (fun _ => ?_) (fun h => by simp at h; rcases h with h | h <;> first | omega | (subst h; simp at hib))
      refine ALL_cons ?_
      refine TE_Cmp (by kernel_rfl) ?_
      refine EV_Sub ?_
      tm_at "Mgo"
      refine SUB_str (GI_str (seqIdx_neg hia) hxa (by omega) ?_)
      refine EV_Sub ?_
      tm_at "Mgo"
      refine SUB_str (GI_str (seqIdx_neg hib) hxb (by omega) ?_)
      tm_at "Mgo"
      refine ALL_last ?_
      rw [ha, hb] at q
      have e : ([x] == [y]) = decide (0 < cpre (x :: a') (y :: b')) := by
        unfold cpre
        by_cases h : x = y <;> simp [h]
      (first | (refine rwG e ?_; try (with_reducible rfl)) | rw [e])
      exact q _ (.drop (.drop .refl))
theorem cpre_step {a b : List Nat} {i : Nat} (h : 0 < cpre (a.drop i) (b.drop i)) : cpre (a.drop i) (b.drop i) = 1 + cpre (a.drop (i + 1)) (b.drop (i + 1)) := by
  cases ha : a.drop i with
  | nil => rw [ha] at h; simp [cpre] at h
  | cons x a' =>
    cases hb : b.drop i with
    | nil => rw [ha, hb] at h; simp [cpre] at h
    | cons y b' =>
      have ha' : a.drop (i + 1) = a' := by rw [← List.drop_drop, ha]; rfl
      have hb' : b.drop (i + 1) = b' := by rw [← List.drop_drop, hb]; rfl
      rw [ha, hb] at h
      ((first | (refine rwG ha' ?_; try (with_reducible rfl)) | rw [ha']); (first | (refine rwG hb' ?_; try (with_reducible rfl)) | rw [hb']))
      have hun : cpre (x :: a') (y :: b') = if x = y then cpre a' b' + 1 else 0 := rfl
      rw [hun] at h ⊢
      by_cases hxy : x = y
      · (first | refine ifP hxy ?_ | rw [if_pos hxy]); (first | lia | omega)
      · rw [if_neg hxy] at h; (first | lia | omega)
inductive PostI (a b : List Nat) (mc : Int) (p : Nat) (L : Addr) (σ : Hp) (m : Nat) (σ' : Hp) : Prop
  | mk (i : Nat) (em : m = a.length - i) (hi : i ≤ a.length) (e : cpre a.reverse b.reverse = i + cpre (a.reverse.drop i) (b.reverse.drop i)) (e' : σ' = (L, .ns (le5 a b mc p i)) :: σ)
theorem lev_post (F : Facts X) {L : Addr} {cd : Value} {a b : List Nat} {mc : Int} {p : Nat} (za : a.length < 1000) (zb : b.length < 1000) {Q : Flow → Hp → Prop} (q : Q .next (((fenv (scOf (topSt 9)) L [] (nmOf (topSt 9)) adLev cd).locals, .ns (le5 a b mc p (cpre a.reverse b.reverse))) :: σ)) :
    EX X A (fenv (scOf (topSt 9)) L [] (nmOf (topSt 9)) adLev cd) F0 (nthSt (bodyOf (topSt 9)) 6) (((fenv (scOf (topSt 9)) L [] (nmOf (topSt 9)) adLev cd).locals, .ns (le5 a b mc p 0)) :: σ) Q := by
  refine EX_While (PostI a b mc p (fenv (scOf (topSt 9)) L [] (nmOf (topSt 9)) adLev cd).locals σ) a.length ⟨0, rfl, Nat.zero_le _, by simp, rfl⟩ ?_
  rintro m _ ⟨i, rfl, hi, e, rfl⟩
  refine TE_And (post_test F za zb fun τ hp => ?_)
  by_cases h : 0 < cpre (a.reverse.drop i) (b.reverse.drop i)
  · (first | refine ifP (by simpa using h) ?_ | rw [if_pos (by simpa using h)])
    refine W_pick hp ?_
    refine XS_cons ?_
    refine EX_Aug ?_
    refine loadName_L rfl (by kernel_rfl) (.head _) me4 ?_
    tm_at "Mgo"
    have hle := (cpre_le (a.reverse.drop i) (b.reverse.drop i)).1
    rw [List.length_drop, List.length_reverse] at hle
    have hst := cpre_step h
    refine ⟨a.length - (i + 1), _, .refl, by (first | lia | omega), i + 1, rfl, by (first | lia | omega), by (first | lia | omega), ?_⟩
    rw [show (-((i : Nat) : Int)) - 1 = -(((i + 1 : Nat)) : Int) by (first | lia | omega)]
  · (first | refine ifN (by simpa using h) ?_ | rw [if_neg (by simpa using h)])
    have h0 : cpre (a.reverse.drop i) (b.reverse.drop i) = 0 := by (first | lia | omega)
    refine ⟨_, hp, ?_⟩
    rw [h0, Nat.add_zero] at e
    (first | (refine rwG e.symm ?_; try (with_reducible rfl)) | rw [← e])
    exact q
end
noncomputable abbrev ivs (l : List Int) : List Value := l.map I
noncomputable def levIn (bc : Nat) : List Nat → List Int → Int → Int → Int → List Int × Int × Int
  | x :: a, r :: row, d, res, mn =>
    let res' := min (min res r + 2) (d + (subCost bc x : Nat))
    let o := levIn bc a row r res' (if res' < mn then res' else mn)
    (res' :: o.1, o.2.1, o.2.2)
  | _, _, _, res, mn => ([], res, mn)
section
variable {X : Cx} {A : Around} {σ : Hp} {E : Value → Shared → Prop} {env : Env}
theorem EX_Assign2 {x y : Str} {p1 p2 : Pos} {value pos} {Q : Flow → Hp → Prop} (hw : swappedStores [.Name x p1, .Name y p2] value env = pure none)
    (h : EV X A env E value σ (fun v σ₁ => ST X A env E x v σ₁ (fun σ₂ => ST X A env E y v σ₂ (fun σ₃ => Q .next σ₃)))) : EX X A env E (.Assign [.Name x p1, .Name y p2] value pos) σ Q := fun s R =>
  wpAny_Assign_two (h.use R fun v s₁ σ₁ R₁ h₁ => ((AS_Name (h₁)) v rfl).use R₁ fun _ s₂ σ₂ R₂ h₂ => ((AS_Name h₂) v rfl).use R₂ fun _ s₃ σ₃ R₃ q => ⟨σ₃, R₃, q⟩) rfl hw
noncomputable abbrev lf11 (a b : List Nat) (mc : Int) (vp vj : Value) (ro : Addr) (res : Int) (vk : Value) (bc : Nat) (d mn : Int) : List (Str × Value) := [(("a" : Str), T a), (("b" : Str), T b), (("max_cost" : Str), I mc), (("pre" : Str), vp), (("post" : Str), vj), (("row" : Str), .ref ro), (("result" : Str), I res), (("bindex" : Str), vk), (("bchar" : Str), T [bc]), (("distance" : Str), I d), (("minimum" : Str), I mn)]
noncomputable abbrev lf12 (a b : List Nat) (mc : Int) (vp vj : Value) (ro : Addr) (res : Int) (vk : Value) (bc : Nat) (d mn : Int) (x : Value) : List (Str × Value) := [(("a" : Str), T a), (("b" : Str), T b), (("max_cost" : Str), I mc), (("pre" : Str), vp), (("post" : Str), vj), (("row" : Str), .ref ro), (("result" : Str), I res), (("bindex" : Str), vk), (("bchar" : Str), T [bc]), (("distance" : Str), I d), (("minimum" : Str), I mn), (("index" : Str), x)]
noncomputable abbrev lf14 (a b : List Nat) (mc : Int) (vp vj : Value) (ro : Addr) (res : Int) (vk : Value) (bc : Nat) (d mn : Int) (x y z : Value) : List (Str × Value) := [(("a" : Str), T a), (("b" : Str), T b), (("max_cost" : Str), I mc), (("pre" : Str), vp), (("post" : Str), vj), (("row" : Str), .ref ro), (("result" : Str), I res), (("bindex" : Str), vk), (("bchar" : Str), T [bc]), (("distance" : Str), I d), (("minimum" : Str), I mn), (("index" : Str), x), (("substitute" : Str), y), (("insert_delete" : Str), z)]
theorem in_turn (F : Facts X) {L : Addr} {cd : Value} {es : List (Str × Value)} {a b : List Nat} {mc : Int} {vp vj vk : Value} {ro : Addr} {res d mn r : Int} {bc x i : Nat} {rw : List Int} (hes : es = lf12 a b mc vp vj ro res vk bc d mn (I (i : Int)) ∨ ∃ y z, es = lf14 a b mc vp vj ro res vk bc d mn (I (i : Int)) y z)
    (hi : a[i]? = some x) (hr : rw[i]? = some r) (hbc : bc < 128) (hx : x < 128) (za : a.length < 1000) (zr : rw.length < 1000) {n : Nat} (rm : Rm (n + 3) A) :
    XS X A (fenv (scOf (topSt 9)) L [] (nmOf (topSt 9)) adLev cd) F0 (forBody (nthSt (forBody (nthSt (bodyOf (topSt 9)) 15)) 3)) (((fenv (scOf (topSt 9)) L [] (nmOf (topSt 9)) adLev cd).locals, .ns es) :: (ro, .seq "list" (ivs rw)) :: σ) (fun f σ' => f = .next ∧ ∃ y z, σ' = ((fenv (scOf (topSt 9)) L [] (nmOf (topSt 9)) adLev cd).locals, .ns (lf14 a b mc vp vj ro (min (min res r + 2) (d + (subCost bc x : Nat))) vk bc r (if min (min res r + 2) (d + (subCost bc x : Nat)) < mn then min (min res r + 2) (d + (subCost bc x : Nat)) else mn) (I (i : Int)) y z)) :: (ro, .seq "list" (ivs (rw.set i (min (min res r + 2) (d + (subCost bc x : Nat)))))) :: σ) := by
  have hsz := sizeLine_eq
  have hlt : i < a.length := by
    apply Nat.lt_of_not_le
    intro h
    rw [List.getElem?_eq_none h] at hi; cases hi
  have hltr : i < rw.length := by
    apply Nat.lt_of_not_le
    intro h
    rw [List.getElem?_eq_none h] at hr; cases hr
  have hrv : (ivs rw)[i]? = some (I r) := by simp [ivs, hr]
  have hset : ∀ v : Int, (ivs rw).set i (I v) = ivs (rw.set i v) := fun v => by simp [ivs, List.map_set]
  rcases hes with rfl | ⟨y0, z0, rfl⟩
  all_goals
    refine XS_cons ?_
    refine EX_Assign (by kernel_rfl) ?_
    refine EV_BinOp ?_
    tm_at "Mgo"
    refine EV_CallN (by rfl) ?_; refine EV_global F.dSub.glob (by rfl) (by kernel_rfl) (by kernel_rfl) (by rfl) ?_; refine ⟨rfl, ?_⟩
    refine ES_con (by rfl) ?_
    tm_at "Mgo"
    refine SUB_str (GI_str (seqIdx_pos hlt) hi (by (first | lia | omega)) ?_)
    tm_at "Mgo"
    refine ⟨KP_base F.dSub.bf.kp, CC_ret (c_sub F hbc hx (n := n + 1) rm) ?_⟩
    tm_at "Mgo"
    refine XS_cons ?_
    refine EX_Assign (by kernel_rfl) ?_
    refine EV_Sub ?_
    tm_at "Mgo"
    refine SUB_list (by tm_at "Mm") (GI_list (v := I r) (by tm_at "Mm") (by (first | lia | omega)) (by rw [Int.toNat_natCast]; exact hrv) (by simp; (first | lia | omega)) ?_)
    tm_at "Mgo"
    refine XS_cons ?_
    refine EX_Assign (by kernel_rfl) ?_
    refine EV_BinOp ?_
    refine EV_CallN (by rfl) ?_; refine EV_builtin F.bMin (by rfl) (by kernel_rfl) (by kernel_rfl) (by rfl) (by rfl) ?_; refine ⟨rfl, ?_⟩
    tm_at "Mgo"
    refine ⟨KP_builtin, CW_min2 rm.handled ?_⟩
    refine EV_global F.move (by rfl) (by kernel_rfl) (by kernel_rfl) (by rfl) ?_
    tm_at "Mgo"
    refine XS_cons ?_
    refine EX_Assign (by kernel_rfl) ?_
    refine EV_CallN (by rfl) ?_; refine EV_builtin F.bMin (by rfl) (by kernel_rfl) (by kernel_rfl) (by rfl) (by rfl) ?_; refine ⟨rfl, ?_⟩
    tm_at "Mgo"
    refine ⟨KP_builtin, CW_min2 rm.handled ?_⟩
    tm_at "Mgo"
    refine XS_cons ?_
    refine EX_AssignSub (by kernel_rfl) ?_
    tm_at "Mgo"
    refine SI_list (xs := ivs rw) ch1 (by (first | lia | omega)) (by simp; (first | lia | omega)) (by simp; (first | lia | omega)) ?_
    refine XS_cons ?_
    refine EX_If ?_
    refine TE_Cmp (by kernel_rfl) ?_
    tm_at "Mgo"
    refine ite_of (fun h => ?_) (fun h => ?_)
    · have h' : min (min res r + 2) (d + (subCost bc x : Nat)) < mn := by simpa using h
      refine XS_cons ?_
      tm_at "Mgo"
      refine ⟨rfl, I (d + (subCost bc x : Nat)), I (min res r + 2), ?_⟩
      rw [if_pos h', Int.toNat_natCast, hset]
    · have h' : ¬ min (min res r + 2) (d + (subCost bc x : Nat)) < mn := by simpa using h
      tm_at "Mgo"
      refine ⟨rfl, I (d + (subCost bc x : Nat)), I (min res r + 2), ?_⟩
      rw [if_neg h', Int.toNat_natCast, hset]
end
noncomputable def levOut (a : List Nat) (mc : Int) : List Nat → Nat → List Int → Int → Int
  | [], _, _, res => res
  | y :: b, k, row, _ => let o := levIn y a row (2 * k) (2 * k) 9223372036854775807; if o.2.2 > mc then mc + 1 else levOut a mc b (k + 1) o.1 o.2.1
theorem levIn_len (bc : Nat) : ∀ (a : List Nat) (row : List Int) (d res mn : Int), row.length = a.length → (levIn bc a row d res mn).1.length = a.length
  | [], [], _, _, _, _ => rfl
  | x :: a, r :: row, d, res, mn, h => by
    simp only [levIn, List.length_cons]
    rw [levIn_len bc a row _ _ _ (by simpa using h)]
section
variable {X : Cx} {A : Around} {σ : Hp} {E : Value → Shared → Prop} {env : Env}
inductive InI (a b : List Nat) (mc : Int) (vp vj vk : Value) (ro : Addr) (bc : Nat) (rw : List Int) (d res mn : Int) (L : Addr) (σ : Hp) (i : Nat) (τ : Hp) : Prop
  | mk (es : List (Str × Value)) (dn : List Int) (d' res' mn' : Int) (he : es = lf11 a b mc vp vj ro res' vk bc d' mn' ∨ ∃ x y z, es = lf14 a b mc vp vj ro res' vk bc d' mn' x y z) (hl : dn.length = i) (hia : i ≤ a.length)
      (e : levIn bc a rw d res mn = (dn ++ (levIn bc (a.drop i) (rw.drop i) d' res' mn').1, (levIn bc (a.drop i) (rw.drop i) d' res' mn').2)) (hp : Pick ((L, .ns es) :: (ro, .seq "list" (ivs (dn ++ rw.drop i))) :: σ) τ)
theorem in_loop (F : Facts X) {L : Addr} {cd : Value} {es : List (Str × Value)} {a b : List Nat} {mc : Int} {vp vj vk : Value} {ro : Addr} {res d mn : Int} {bc : Nat} {rw : List Int} (hes : es = lf11 a b mc vp vj ro res vk bc d mn ∨ ∃ x y z, es = lf14 a b mc vp vj ro res vk bc d mn x y z)
    (hbc : bc < 128) (ha : ∀ x ∈ a, x < 128) (za : a.length < 1000) (zr : rw.length = a.length) {n : Nat} (rm : Rm (n + 3) A) {Q : Flow → Hp → Prop}
    (hQ : ∀ es d' τ, (es = lf11 a b mc vp vj ro (levIn bc a rw d res mn).2.1 vk bc d' (levIn bc a rw d res mn).2.2 ∨ ∃ x y z, es = lf14 a b mc vp vj ro (levIn bc a rw d res mn).2.1 vk bc d' (levIn bc a rw d res mn).2.2 x y z) → Pick (((fenv (scOf (topSt 9)) L [] (nmOf (topSt 9)) adLev cd).locals, .ns es) :: (ro, .seq "list" (ivs (levIn bc a rw d res mn).1)) :: σ) τ → Q .next τ) :
    EX X A (fenv (scOf (topSt 9)) L [] (nmOf (topSt 9)) adLev cd) F0 (nthSt (forBody (nthSt (bodyOf (topSt 9)) 15)) 3) (((fenv (scOf (topSt 9)) L [] (nmOf (topSt 9)) adLev cd).locals, .ns es) :: (ro, .seq "list" (ivs rw)) :: σ) Q := by
  have hsz := sizeLine_eq
  refine EX_ForRange rm.handled (fun _ => by rfl) (InI a b mc vp vj vk ro bc rw d res mn (fenv (scOf (topSt 9)) L [] (nmOf (topSt 9)) adLev cd).locals σ) ?_ (fun _ _ _ _ q => LG_Name q)
  have hav : (("a" : Str), T a) ∈ es := by
    rcases hes with rfl | ⟨x, y, z, rfl⟩
    · exact .head _
    · exact .head _
  refine EV_CallN (by rfl) ?_; refine EV_builtin F.bRange (by rfl) (by kernel_rfl) (by kernel_rfl) (by rfl) (by rfl) ?_; refine ⟨rfl, ?_⟩
  refine ES_con (by rfl) ?_
  refine EV_CallN (by rfl) ?_; refine EV_builtin F.bLen (by rfl) (by kernel_rfl) (by kernel_rfl) (by rfl) (by rfl) ?_; refine ⟨rfl, ?_⟩
  refine ES_con (by rfl) ?_
  refine EV_loc (by kernel_rfl) (.head _) hav ?_
  refine ES_nil ?_
  refine ⟨KP_builtin, CW_lens (by (first | lia | omega)) ?_⟩
  refine ES_nil ?_
  refine ⟨KP_type, CW_range1 fun r => ?_⟩
  refine ⟨r, 0, _, 1, a.length, rfl, .head _, small_n (by (first | lia | omega)), size_n _, ⟨es, [], d, res, mn, hes, rfl, Nat.zero_le _, rfl, .drop .refl⟩, ?_, ?_⟩
  · rintro τ ⟨es, dn, d', res', mn', he, hl, _, e, hp⟩
    rw [List.drop_length] at e
    have e1 : (levIn bc [] (rw.drop a.length) d' res' mn') = ([], res', mn') := by simp [levIn]
    rw [e1, List.append_nil] at e
    refine hQ es d' τ ?_ ?_
    · (first | (refine rwG e ?_; try (with_reducible rfl)) | rw [e]); exact he
    · (first | (refine rwG e ?_; try (with_reducible rfl)) | rw [e])
      rw [← zr, List.drop_length, List.append_nil] at hp
      exact hp
  · rintro i hi τ it ⟨es, dn, d', res', mn', he, hl, hia, e, hp⟩
    refine AS_pick (.take .here hp) (AS_Name ?_)
    have hput : ∃ es', Put ("index" : Str) (I (0 + (i : Int) * 1)) es es' ∧ (es' = lf12 a b mc vp vj ro res' vk bc d' mn' (I (0 + (i : Int) * 1)) ∨ ∃ y z, es' = lf14 a b mc vp vj ro res' vk bc d' mn' (I (0 + (i : Int) * 1)) y z) := by
      rcases he with rfl | ⟨x, y, z, rfl⟩
      · exact ⟨_, by tm_at "Mp", .inl rfl⟩
      · exact ⟨_, by tm_at "Mp", .inr ⟨y, z, rfl⟩⟩
    obtain ⟨es', hput, he'⟩ := hput
    refine ST_loc (by kernel_rfl) ch1 hput ?_
    rw [show 0 + (i : Int) * 1 = (i : Int) by (first | lia | omega)] at he'
    have hir : i < rw.length := by (first | lia | omega)
    have hda : a.drop i = a[i] :: a.drop (i + 1) := List.drop_eq_getElem_cons hi
    have hdr : rw.drop i = rw[i] :: rw.drop (i + 1) := List.drop_eq_getElem_cons hir
    have hrw : (dn ++ rw.drop i)[i]? = some rw[i] := by rw [hdr, List.getElem?_append_right (by (first | lia | omega)), hl, Nat.sub_self]; rfl
    refine W_pick (σ' := ((fenv (scOf (topSt 9)) L [] (nmOf (topSt 9)) adLev cd).locals, .ns es') :: (ro, .seq "list" (ivs (dn ++ rw.drop i))) :: (it, _) :: σ) (.take (.there (.here)) (.take (.there (.here)) (.refl))) ?_
    refine (in_turn F (rw := dn ++ rw.drop i) (x := a[i]) (r := rw[i]) he' (List.getElem?_eq_getElem hi) hrw hbc (ha _ (List.getElem_mem hi)) za (by simp; (first | lia | omega)) rm).mono ?_
    rintro f _ ⟨rfl, y, z, rfl⟩
    refine ⟨_, (.take (.there (.there (.here))) (.refl)), _, dn ++ [min (min res' rw[i] + 2) (d' + (subCost bc a[i] : Nat))], rw[i], (min (min res' rw[i] + 2) (d' + (subCost bc a[i] : Nat))), (if (min (min res' rw[i] + 2) (d' + (subCost bc a[i] : Nat))) < mn' then (min (min res' rw[i] + 2) (d' + (subCost bc a[i] : Nat))) else mn'), .inr ⟨I (i : Int), y, z, rfl⟩, by simp [hl], hi, ?_, ?_⟩
    · ((first | (refine rwG e ?_; try (with_reducible rfl)) | rw [e]); (first | (refine rwG hda ?_; try (with_reducible rfl)) | rw [hda]); (first | (refine rwG hdr ?_; try (with_reducible rfl)) | rw [hdr]))
      simp only [levIn, List.append_assoc, List.singleton_append]
    · (first | (refine rwG hdr ?_; try (with_reducible rfl)) | rw [hdr])
      have : (dn ++ rw[i] :: rw.drop (i + 1)).set i (min (min res' rw[i] + 2) (d' + (subCost bc a[i] : Nat))) = dn ++ [min (min res' rw[i] + 2) (d' + (subCost bc a[i] : Nat))] ++ rw.drop (i + 1) := by
        rw [List.set_append_right _ _ (by (first | lia | omega)), hl, Nat.sub_self, List.set_cons_zero, List.append_assoc]
        rfl
      (first | (refine rwG this ?_; try (with_reducible rfl)) | rw [this])
      exact .refl
end
noncomputable def row0 (n : Nat) : List Int := (List.range n).map fun i : Nat => 2 + (i : Int) * 2
noncomputable def levC (a b : List Nat) (mc : Int) : Int := if ((b.length : Int) - a.length) * 2 > mc then mc + 1 else levOut a mc b 0 (row0 a.length) 0
section
variable {X : Cx} {A : Around} {σ : Hp} {E : Value → Shared → Prop} {env : Env}
noncomputable abbrev lf7 (a b : List Nat) (mc : Int) (vp vj : Value) (ro : Addr) (res : Int) : List (Str × Value) := [(("a" : Str), T a), (("b" : Str), T b), (("max_cost" : Str), I mc), (("pre" : Str), vp), (("post" : Str), vj), (("row" : Str), .ref ro), (("result" : Str), I res)]
noncomputable def lfOk (a b : List Nat) (mc : Int) (vp vj : Value) (ro : Addr) (res : Int) (es : List (Str × Value)) : Prop :=
  es = lf7 a b mc vp vj ro res ∨ (∃ vk bc d mn, es = lf11 a b mc vp vj ro res vk bc d mn) ∨ ∃ vk bc d mn x y z, es = lf14 a b mc vp vj ro res vk bc d mn x y z
theorem lfOk.mem {a b : List Nat} {mc : Int} {vp vj : Value} {ro : Addr} {res : Int} {es : List (Str × Value)} (h : lfOk a b mc vp vj ro res es) : (("b" : Str), T b) ∈ es ∧ (("max_cost" : Str), I mc) ∈ es ∧ (("result" : Str), I res) ∈ es := by
  rcases h with rfl | ⟨_, _, _, _, rfl⟩ | ⟨_, _, _, _, _, _, _, rfl⟩
  all_goals exact ⟨me1, me2, me6⟩
inductive LfPuts (a b : List Nat) (mc : Int) (vp vj : Value) (ro : Addr) (es : List (Str × Value)) (vk : Value) (bc : Nat) (d mn : Int) : Prop
  | mk (es₁ es₂ es₃ es₄ es₅ : List (Str × Value)) (p1 : Put ("bindex" : Str) vk es es₁) (p2 : Put ("bchar" : Str) (T [bc]) es₁ es₂) (p3 : Put ("distance" : Str) (I d) es₂ es₃) (p4 : Put ("result" : Str) (I d) es₃ es₄) (p5 : Put ("minimum" : Str) (I mn) es₄ es₅)
      (m1 : (("b" : Str), T b) ∈ es₁) (m2 : (("bindex" : Str), vk) ∈ es₁) (m3 : (("bindex" : Str), vk) ∈ es₂) (h : es₅ = lf11 a b mc vp vj ro d vk bc d mn ∨ ∃ x y z, es₅ = lf14 a b mc vp vj ro d vk bc d mn x y z)
theorem lfOk.puts {a b : List Nat} {mc : Int} {vp vj : Value} {ro : Addr} {res : Int} {es : List (Str × Value)} (h : lfOk a b mc vp vj ro res es) (vk : Value) (bc : Nat) (d mn : Int) :
    LfPuts a b mc vp vj ro es vk bc d mn := by
  rcases h with rfl | ⟨_, _, _, _, rfl⟩ | ⟨_, _, _, _, x, y, z, rfl⟩
  · exact ⟨_, _, _, _, _, by tm_at "Mp", by tm_at "Mp", by tm_at "Mp", by tm_at "Mp", by tm_at "Mp", me1, me7, me7, .inl rfl⟩
  · exact ⟨_, _, _, _, _, by tm_at "Mp", by tm_at "Mp", by tm_at "Mp", by tm_at "Mp", by tm_at "Mp", me1, me7, me7, .inl rfl⟩
  · exact ⟨_, _, _, _, _, by tm_at "Mp", by tm_at "Mp", by tm_at "Mp", by tm_at "Mp", by tm_at "Mp", me1, me7, me7, .inr ⟨x, y, z, rfl⟩⟩
inductive OutI (a b : List Nat) (mc : Int) (vp vj : Value) (ro : Addr) (rw : List Int) (L : Addr) (σ : Hp) (k : Nat) (τ : Hp) : Prop
  | mk (es : List (Str × Value)) (row : List Int) (res : Int) (he : lfOk a b mc vp vj ro res es) (hl : row.length = a.length) (e : levOut a mc b 0 rw 0 = levOut a mc (b.drop k) k row res) (hp : Pick ((L, .ns es) :: (ro, .seq "list" (ivs row)) :: σ) τ)
theorem out_loop (F : Facts X) {L : Addr} {cd : Value} {a b : List Nat} {mc : Int} {vp vj : Value} {ro : Addr} {rw : List Int}
    (hb : ∀ x ∈ b, x < 128) (ha : ∀ x ∈ a, x < 128) (za : a.length < 1000) (zb : b.length < 1000) (zr : rw.length = a.length) {n : Nat} (rm : Rm (n + 3) A) {Q : Flow → Hp → Prop}
    (hR : ∀ τ, Pick σ τ → Q (.ret (I (levOut a mc b 0 rw 0))) τ) (hN : ∀ es row τ, (("result" : Str), I (levOut a mc b 0 rw 0)) ∈ es → Pick (((fenv (scOf (topSt 9)) L [] (nmOf (topSt 9)) adLev cd).locals, .ns es) :: (ro, .seq "list" (ivs row)) :: σ) τ → Q .next τ) :
    EX X A (fenv (scOf (topSt 9)) L [] (nmOf (topSt 9)) adLev cd) F0 (nthSt (bodyOf (topSt 9)) 15) (((fenv (scOf (topSt 9)) L [] (nmOf (topSt 9)) adLev cd).locals, .ns (lf7 a b mc vp vj ro 0)) :: (ro, .seq "list" (ivs rw)) :: σ) Q := by
  have hsz := sizeLine_eq
  refine EX_ForRange rm.handled (fun _ => by rfl) (OutI a b mc vp vj ro rw (fenv (scOf (topSt 9)) L [] (nmOf (topSt 9)) adLev cd).locals σ) ?_ (fun _ _ _ _ q => LG_Name q)
  refine EV_CallN (by rfl) ?_; refine EV_builtin F.bRange (by rfl) (by kernel_rfl) (by kernel_rfl) (by rfl) (by rfl) ?_; refine ⟨rfl, ?_⟩
  refine ES_con (by rfl) ?_
  refine EV_CallN (by rfl) ?_; refine EV_builtin F.bLen (by rfl) (by kernel_rfl) (by kernel_rfl) (by rfl) (by rfl) ?_; refine ⟨rfl, ?_⟩
  refine ES_con (by rfl) ?_
  refine EV_loc (by kernel_rfl) (.head _) me1 ?_
  refine ES_nil ?_
  refine ⟨KP_builtin, CW_lens (by (first | lia | omega)) ?_⟩
  refine ES_nil ?_
  refine ⟨KP_type, CW_range1 fun r => ?_⟩
  refine ⟨r, 0, _, 1, b.length, rfl, .head _, small_n (by (first | lia | omega)), size_n _, ⟨_, rw, 0, .inl rfl, zr, rfl, .drop .refl⟩, ?_, ?_⟩
  · rintro τ ⟨es, row, res, he, hl, e, hp⟩
    rw [List.drop_length] at e
    exact hN es row τ (by (first | (refine rwG e ?_; try (with_reducible rfl)) | rw [e]); exact he.mem.2.2) hp
  · rintro k hk τ it ⟨es, row, res, he, hl, e, hp⟩
    have e0 : 0 + (k : Int) * 1 = (k : Int) := by (first | lia | omega)
    (first | (refine rwG e0 ?_; try (with_reducible rfl)) | rw [e0])
    obtain ⟨es₁, es₂, es₃, es₄, es₅, p1, p2, p3, p4, p5, m1, m2, m3, hes⟩ := he.puts (I (k : Int)) b[k] ((k : Int) * 2) 9223372036854775807
    have hdb : b.drop k = b[k] :: b.drop (k + 1) := List.drop_eq_getElem_cons hk
    have hun : levOut a mc (b.drop k) k row res = if (levIn b[k] a row (2 * k) (2 * k) 9223372036854775807).2.2 > mc then mc + 1 else levOut a mc (b.drop (k + 1)) (k + 1) (levIn b[k] a row (2 * k) (2 * k) 9223372036854775807).1 (levIn b[k] a row (2 * k) (2 * k) 9223372036854775807).2.1 := by (first | (refine rwG hdb ?_; try (with_reducible rfl)) | rw [hdb]); rfl
    refine AS_pick (.take .here hp) (AS_Name ?_)
    refine ST_loc (by kernel_rfl) ch1 p1 ?_
    refine W_pick (σ' := ((fenv (scOf (topSt 9)) L [] (nmOf (topSt 9)) adLev cd).locals, .ns es₁) :: (ro, .seq "list" (ivs row)) :: (it, _) :: σ) (.take (.there (.here)) (.take (.there (.here)) (.refl))) ?_
    refine XS_cons ?_
    refine EX_Assign (by kernel_rfl) ?_
    refine EV_Sub ?_
    refine EV_loc (by kernel_rfl) (.head _) m1 ?_
    refine EV_loc (by kernel_rfl) (.head _) m2 ?_
    refine SUB_str (GI_str (seqIdx_pos hk) (List.getElem?_eq_getElem hk) (by (first | lia | omega)) ?_)
    refine ST_loc (by kernel_rfl) .here p2 ?_
    refine XS_cons ?_
    refine EX_Assign2 (by kernel_rfl) ?_
    refine EV_BinOp ?_
    refine EV_loc (by kernel_rfl) (.head _) m3 ?_
    refine EV_global F.move (by rfl) (by kernel_rfl) (by kernel_rfl) (by rfl) ?_
    refine BIN_mul (IntMulOk.of_right (by decide)) ?_
    refine ST_loc (by kernel_rfl) .here p3 ?_
    refine ST_loc (by kernel_rfl) .here p4 ?_
    refine XS_cons ?_
    refine EX_Assign (by kernel_rfl) ?_
    refine EV_int ?_
    refine ST_loc (by kernel_rfl) .here p5 ?_
    rw [show (k : Int) * 2 = 2 * k by (first | lia | omega)] at hes
    refine XS_cons ?_
    refine in_loop F (rw := row) hes (hb _ (List.getElem_mem hk)) ha za hl rm fun es₆ d' τ' hes₆ hp' => ?_
    generalize hin : levIn b[k] a row (2 * k) (2 * k) 9223372036854775807 = o at hes₆ hp' hun
    have ho1 : o.1.length = a.length := by (first | (refine rwG hin.symm ?_; try (with_reducible rfl)) | rw [← hin]); exact levIn_len _ _ _ _ _ _ hl
    refine W_pick hp' ?_
    have hm : (("minimum" : Str), I o.2.2) ∈ es₆ ∧ (("max_cost" : Str), I mc) ∈ es₆ := by
      rcases hes₆ with rfl | ⟨x, y, z, rfl⟩
      · exact ⟨me10, me2⟩
      · exact ⟨me10, me2⟩
    have hok : lfOk a b mc vp vj ro o.2.1 es₆ := by
      rcases hes₆ with rfl | ⟨x, y, z, rfl⟩
      · exact .inr (.inl ⟨_, _, _, _, rfl⟩)
      · exact .inr (.inr ⟨_, _, _, _, _, _, _, rfl⟩)
    refine XS_cons ?_
    refine EX_If ?_
    refine TE_Cmp (by kernel_rfl) ?_
    refine EV_loc (by kernel_rfl) (.head _) hm.1 ?_
    refine EV_loc (by kernel_rfl) (.head _) hm.2 ?_
    refine CMP_gt (TRU_bool ?_)
    refine ite_of (fun h => ?_) (fun h => ?_)
    · have h' : o.2.2 > mc := by simpa using h
      refine XS_cons ?_
      refine EX_Return ?_
      refine EV_BinOp ?_
      refine EV_loc (by kernel_rfl) (.head _) hm.2 ?_
      refine EV_int ?_
      refine BIN_add ?_
      refine ⟨_, .refl, ?_⟩
      rw [hun, if_pos h'] at e
      (first | (refine rwG e.symm ?_; try (with_reducible rfl)) | rw [← e])
      exact hR _ (.drop (.drop (.drop (.refl))))
    · have h' : ¬ o.2.2 > mc := by simpa using h
      refine XS_nil ?_
      refine XS_nil ?_
      rw [hun, if_neg h'] at e
      exact ⟨_, (.take (.there (.there (.here))) (.refl)), es₆, o.1, o.2.1, hok, ho1, e, .refl⟩
end
noncomputable def lev (a b : List Nat) (mc : Int) : Int :=
  if a = b then 0 else
  let a1 := a.drop (cpre a b)
  let b1 := b.drop (cpre a b)
  let a2 := a1.take (a1.length - cpre a1.reverse b1.reverse)
  let b2 := b1.take (b1.length - cpre a1.reverse b1.reverse)
  if a2 = [] ∨ b2 = [] then 2 * ((a2.length : Int) + b2.length) else if b2.length < a2.length then levC b2 a2 mc else levC a2 b2 mc
theorem size2 (n : Nat) : Builtin.Range.rangeSize 2 (2 * ((n : Int) + 1)) 2 = ((n : Nat) : Int) := by
  unfold Builtin.Range.rangeSize
  (first | refine ifP (by decide) ?_ | rw [if_pos (by decide)])
  split <;> omega
theorem small2 {n : Nat} (h : n < 1000) : Builtin.Range.small 2 (2 * ((n : Int) + 1)) 2 = true := by
  unfold Builtin.Range.small
  (first | (refine rwG size2 ?_; try (with_reducible rfl)) | rw [size2])
  have h1 : ∀ i : Int, -5000 ≤ i → i ≤ 5000 → Builtin.Range.rangeFitsLong i = true := fun i h1 h2 => by
    unfold Builtin.Range.rangeFitsLong
    rw [Bool.and_eq_true, decide_eq_true_eq, decide_eq_true_eq]
    (first | lia | omega)
  rw [h1 2 (by (first | lia | omega)) (by (first | lia | omega)), h1 (2 * ((n : Int) + 1)) (by (first | lia | omega)) (by (first | lia | omega)), h1 (n : Int) (by (first | lia | omega)) (by (first | lia | omega))]
  rw [if_pos (by decide), h1 (2 * ((n : Int) + 1) + (2 - 1)) (by (first | lia | omega)) (by (first | lia | omega))]
  simp
section
variable {X : Cx} {A : Around} {σ : Hp} {E : Value → Shared → Prop} {env : Env}
theorem lev_tail (F : Facts X) {L : Addr} {cd : Value} {a b : List Nat} {mc : Int} {p j : Nat} (hb : ∀ x ∈ b, x < 128) (ha : ∀ x ∈ a, x < 128) (za : a.length < 1000) (zb : b.length < 1000) {n : Nat} (rm : Rm (n + 3) A) :
    XS X A (fenv (scOf (topSt 9)) L [] (nmOf (topSt 9)) adLev cd) F0 [nthSt (bodyOf (topSt 9)) 12, nthSt (bodyOf (topSt 9)) 13, nthSt (bodyOf (topSt 9)) 14, nthSt (bodyOf (topSt 9)) 15, nthSt (bodyOf (topSt 9)) 16] (((fenv (scOf (topSt 9)) L [] (nmOf (topSt 9)) adLev cd).locals, .ns (le5 a b mc p j)) :: σ) (fun f τ => f = .ret (I (levC a b mc)) ∧ Pick σ τ) := by
  have hsz := sizeLine_eq
  refine XS_cons ?_
  refine EX_If ?_
  refine TE_Cmp (by kernel_rfl) ?_
  refine EV_BinOp (EV_BinOp ?_)
  refine EV_CallN (by rfl) ?_; refine EV_builtin F.bLen (by rfl) (by kernel_rfl) (by kernel_rfl) (by rfl) (by rfl) ?_; refine ⟨rfl, ?_⟩
  tm_at "Mgo"
  refine ⟨KP_builtin, CW_lens (by (first | lia | omega)) ?_⟩
  refine EV_CallN (by rfl) ?_; refine EV_builtin F.bLen (by rfl) (by kernel_rfl) (by kernel_rfl) (by rfl) (by rfl) ?_; refine ⟨rfl, ?_⟩
  tm_at "Mgo"
  refine ⟨KP_builtin, CW_lens (by (first | lia | omega)) ?_⟩
  refine BIN_sub ?_
  refine EV_global F.move (by rfl) (by kernel_rfl) (by kernel_rfl) (by rfl) ?_
  refine BIN_mul (IntMulOk.of_right (by decide)) ?_
  tm_at "Mgo"
  refine ite_of (fun h => ?_) (fun h => ?_)
  · have h' : ((b.length : Int) - a.length) * 2 > mc := by simpa using h
    refine XS_cons ?_
    tm_at "Mgo"
    refine ⟨?_, .drop .refl⟩
    unfold levC
    (first | refine ifP h' ?_ | rw [if_pos h'])
  · have h' : ¬ ((b.length : Int) - a.length) * 2 > mc := by simpa using h
    tm_at "Mgo"
    refine XS_cons ?_
    refine EX_Assign (by kernel_rfl) ?_
    refine EV_CallN (by rfl) ?_; refine EV_builtin F.bList (by rfl) (by kernel_rfl) (by kernel_rfl) (by rfl) (by rfl) ?_; refine ⟨rfl, ?_⟩
    refine ES_con (by rfl) ?_
    refine EV_CallN (by rfl) ?_; refine EV_builtin F.bRange (by rfl) (by kernel_rfl) (by kernel_rfl) (by rfl) (by rfl) ?_; refine ⟨rfl, ?_⟩
    refine ES_con (by rfl) ?_
    refine EV_global F.move (by rfl) (by kernel_rfl) (by kernel_rfl) (by rfl) ?_
    refine ES_con (by rfl) ?_
    refine EV_BinOp ?_
    refine EV_global F.move (by rfl) (by kernel_rfl) (by kernel_rfl) (by rfl) ?_
    refine EV_BinOp ?_
    refine EV_CallN (by rfl) ?_; refine EV_builtin F.bLen (by rfl) (by kernel_rfl) (by kernel_rfl) (by rfl) (by rfl) ?_; refine ⟨rfl, ?_⟩
    tm_at "Mgo"
    refine ⟨KP_builtin, CW_lens (by (first | lia | omega)) ?_⟩
    refine EV_int ?_
    refine BIN_add ?_
    refine BIN_mul (IntMulOk.of_left (by decide)) ?_
    refine ES_con (by rfl) ?_
    refine EV_global F.move (by rfl) (by kernel_rfl) (by kernel_rfl) (by rfl) ?_
    refine ES_nil ?_
    refine ⟨KP_type, CW_range3 (by decide) ?_ fun r => ?_⟩
    · exact PyProof.noPylong_small (by (first | lia | omega))
    refine ES_nil ?_
    refine ⟨KP_type, CW_list_range (n := a.length) rm.handled (.head _) ?_ ?_ (by (first | lia | omega)) fun ro => ?_⟩
    · exact small2 za
    · exact size2 _
    rw [show ((List.range a.length).map fun i : Nat => I (2 + (i : Int) * 2)) = ivs (row0 a.length) by simp [ivs, row0]]
    tm_at "Mgo"
    refine XS_cons ?_
    refine EX_Assign (by kernel_rfl) ?_
    tm_at "Mgo"
    refine W_pick (σ' := ((fenv (scOf (topSt 9)) L [] (nmOf (topSt 9)) adLev cd).locals, .ns (lf7 a b mc (I (p : Int)) (I (-(j : Int))) ro 0)) :: (ro, .seq "list" (ivs (row0 a.length))) :: σ) ?_ ?_
    · exact (.take (.there (.there (.here))) (.take (.here) (.drop (.refl))))
    refine XS_cons ?_
    refine out_loop F hb ha za zb (by simp [row0]) rm (fun τ hp => ?_) (fun es row τ hm hp => ?_)
    · exact ⟨by unfold levC; (first | refine ifN h' ?_ | rw [if_neg h']), hp⟩
    · refine W_pick hp ?_
      refine XS_cons ?_
      refine EX_Return ?_
      refine EV_loc (by kernel_rfl) (.head _) hm ?_
      exact ⟨by unfold levC; (first | refine ifN h' ?_ | rw [if_neg h']), .drop (.drop .refl)⟩
theorem c_lev (F : Facts X) {a b : List Nat} {mc : Int} (hb : ∀ x ∈ b, x < 128) (ha : ∀ x ∈ a, x < 128) (za : a.length ≤ 40) (zb : b.length ≤ 40) {n : Nat} (rm : Rm (n + 4) A) :
    CC X A F0 (.ref adLev) [T a, T b, I mc] σ (fun v σ' => v = I (lev a b mc) ∧ σ' = σ) := by
  have hsz := sizeLine_eq
  refine CC_def rm F.dLev.bf.fn rfl rfl (by decide +kernel) rfl fun cd L => ?_; refine CK_plain (by decide +kernel) ?_
  refine BD_cons ?_; refine ST_loc (by kernel_rfl) .here .nil ?_; refine BD_cons ?_; refine ST_loc (by kernel_rfl) .here (by tm_at "Mp") ?_; refine BD_cons ?_; refine ST_loc (by kernel_rfl) .here (by tm_at "Mp") ?_; refine BD_nil ?_
  refine XS_cons ?_
  refine EX_If ?_
  refine TE_Cmp (by kernel_rfl) ?_
  tm_at "Mgo"
  refine ite_of (fun h => ?_) (fun h => ?_)
  · have e : a = b := by simpa using h
    refine XS_cons ?_
    tm_at "Mgo"
    refine ⟨_, .drop .refl, ?_, rfl⟩
    unfold lev
    (first | refine ifP e ?_ | rw [if_pos e]); rfl
  have e : a ≠ b := by simpa using h
  tm_at "Mgo"
  refine XS_cons ?_
  refine EX_Assign (by kernel_rfl) ?_
  tm_at "Mgo"
  refine XS_cons ?_
  refine lev_pre F (by (first | lia | omega)) (by (first | lia | omega)) ?_
  generalize hp : cpre a b = p
  refine XS_cons ?_
  refine EX_Assign (by kernel_rfl) ?_
  refine EV_Sub ?_
  tm_at "Mgo"
  intro s1
  refine SUB_str (GI_str_slice (x := a) (lo := some (p : Int)) (hi := none) (.head _) (by (first | lia | omega)) ?_)
  rw [slc_from (by (first | lia | omega)), Int.toNat_natCast]
  tm_at "Mgo"
  refine XS_cons ?_
  refine EX_Assign (by kernel_rfl) ?_
  refine EV_Sub ?_
  tm_at "Mgo"
  intro s2
  refine SUB_str (GI_str_slice (x := b) (lo := some (p : Int)) (hi := none) (.head _) (by (first | lia | omega)) ?_)
  rw [slc_from (by (first | lia | omega)), Int.toNat_natCast]
  tm_at "Mgo"
  refine XS_cons ?_
  refine EX_Assign (by kernel_rfl) ?_
  tm_at "Mgo"
  generalize ha1 : a.drop p = a1
  generalize hb1 : b.drop p = b1
  have za1 : a1.length ≤ 40 := by (first | (refine rwG ha1.symm ?_; try (with_reducible rfl)) | rw [← ha1]); simp; (first | lia | omega)
  have zb1 : b1.length ≤ 40 := by (first | (refine rwG hb1.symm ?_; try (with_reducible rfl)) | rw [← hb1]); simp; (first | lia | omega)
  refine W_pick (σ' := ((fenv (scOf (topSt 9)) L [] (nmOf (topSt 9)) adLev cd).locals, .ns (le5 a1 b1 mc p 0)) :: σ) (.take (.there (.there (.here))) (.drop (.drop (.refl)))) ?_
  refine XS_cons ?_
  refine lev_post F (by (first | lia | omega)) (by (first | lia | omega)) ?_
  generalize hq : cpre a1.reverse b1.reverse = q
  refine XS_cons ?_
  refine EX_Assign (by kernel_rfl) ?_
  refine EV_upto F (by kernel_rfl) (by kernel_rfl) (.head _) (.head _) me4 (by (first | lia | omega)) fun s3 v3 => ?_
  tm_at "Mgo"
  refine XS_cons ?_
  refine EX_Assign (by kernel_rfl) ?_
  refine EV_upto F (by kernel_rfl) (by kernel_rfl) me1 me1 me4 (by (first | lia | omega)) fun s4 v4 => ?_
  tm_at "Mgo"
  generalize ha2 : a1.take (a1.length - q) = a2
  generalize hb2 : b1.take (b1.length - q) = b2
  have za2 : a2.length ≤ 40 := by (first | (refine rwG ha2.symm ?_; try (with_reducible rfl)) | rw [← ha2]); simp; (first | lia | omega)
  have zb2 : b2.length ≤ 40 := by (first | (refine rwG hb2.symm ?_; try (with_reducible rfl)) | rw [← hb2]); simp; (first | lia | omega)
  have hca : ∀ x ∈ a2, x < 128 := fun x hx => ha x (List.drop_subset p a (by (first | (refine rwG ha1 ?_; try (with_reducible rfl)) | rw [ha1]); exact List.take_subset _ _ (by (first | (refine rwG ha2 ?_; try (with_reducible rfl)) | rw [ha2]); exact hx)))
  have hcb : ∀ x ∈ b2, x < 128 := fun x hx => hb x (List.drop_subset p b (by (first | (refine rwG hb1 ?_; try (with_reducible rfl)) | rw [hb1]); exact List.take_subset _ _ (by (first | (refine rwG hb2 ?_; try (with_reducible rfl)) | rw [hb2]); exact hx)))
  have hun : lev a b mc = if a2 = [] ∨ b2 = [] then 2 * ((a2.length : Int) + b2.length) else if b2.length < a2.length then levC b2 a2 mc else levC a2 b2 mc := by
    unfold lev
    (first | refine ifN e ?_ | rw [if_neg e])
    simp only [hp, ha1, hb1, hq, ha2, hb2]
  (first | (refine rwG hun ?_; try (with_reducible rfl)) | rw [hun])
  refine W_pick (σ' := ((fenv (scOf (topSt 9)) L [] (nmOf (topSt 9)) adLev cd).locals, .ns (le5 a2 b2 mc p q)) :: σ) (.take (.there (.there (.here))) (.drop (.drop (.refl)))) ?_
  refine XS_cons ?_
  refine EX_If ?_
  refine W.mono (Q := fun c τ => c = decide (a2 = [] ∨ b2 = []) ∧ τ = ((fenv (scOf (topSt 9)) L [] (nmOf (topSt 9)) adLev cd).locals, .ns (le5 a2 b2 mc p q)) :: σ) ?_ ?_
  · refine TE_Or ?_
    refine ANY_cons ?_
    refine TE_not (TE_plain rfl ?_)
    tm_at "Mgo"
    refine TRU_str (by (first | lia | omega)) ?_
    by_cases h1 : a2 = []
    · (first | refine ifP (by simp [h1]) ?_ | rw [if_pos (by simp [h1])])
      exact ⟨by simp [h1], rfl⟩
    · (first | refine ifN (by cases a2 <;> simp_all) ?_ | rw [if_neg (by cases a2 <;> simp_all)])
      refine ANY_cons ?_
      refine TE_not (TE_plain rfl ?_)
      tm_at "Mgo"
      refine TRU_str (by (first | lia | omega)) ?_
      refine ANY_last ?_
      exact ⟨by cases b2 <;> simp [h1], rfl⟩
  rintro c _ ⟨rfl, rfl⟩
  by_cases hz : a2 = [] ∨ b2 = []
  · (first | refine ifP (by simpa using hz) ?_ | rw [if_pos (by simpa using hz)])
    refine XS_cons ?_
    refine EX_Return ?_
    refine EV_BinOp ?_
    refine EV_global F.move (by rfl) (by kernel_rfl) (by kernel_rfl) (by rfl) ?_
    refine EV_BinOp ?_
    refine EV_CallN (by rfl) ?_; refine EV_builtin F.bLen (by rfl) (by kernel_rfl) (by kernel_rfl) (by rfl) (by rfl) ?_; refine ⟨rfl, ?_⟩
    tm_at "Mgo"
    refine ⟨KP_builtin, CW_lens (by (first | lia | omega)) ?_⟩
    refine EV_CallN (by rfl) ?_; refine EV_builtin F.bLen (by rfl) (by kernel_rfl) (by kernel_rfl) (by rfl) (by rfl) ?_; refine ⟨rfl, ?_⟩
    tm_at "Mgo"
    refine ⟨KP_builtin, CW_lens (by (first | lia | omega)) ?_⟩
    refine BIN_add ?_
    refine BIN_mul (IntMulOk.of_left (by decide)) ?_
    refine ⟨_, .drop .refl, ?_, rfl⟩
    (first | refine ifP hz ?_ | rw [if_pos hz]); rfl
  ((first | refine ifN (by simpa using hz) ?_ | rw [if_neg (by simpa using hz)]); (first | refine ifN hz ?_ | rw [if_neg hz]))
  tm_at "Mgo"
  refine XS_cons ?_
  refine EX_If ?_
  refine W.mono (Q := fun c τ => c = false ∧ τ = ((fenv (scOf (topSt 9)) L [] (nmOf (topSt 9)) adLev cd).locals, .ns (le5 a2 b2 mc p q)) :: σ) ?_ ?_
  · refine TE_Or ?_
    refine ANY_cons ?_
    refine TE_Cmp (by kernel_rfl) ?_
    refine EV_CallN (by rfl) ?_; refine EV_builtin F.bLen (by rfl) (by kernel_rfl) (by kernel_rfl) (by rfl) (by rfl) ?_; refine ⟨rfl, ?_⟩
    tm_at "Mgo"
    refine ⟨KP_builtin, CW_lens (by (first | lia | omega)) ?_⟩
    refine EV_global F.most (by rfl) (by kernel_rfl) (by kernel_rfl) (by rfl) ?_
    refine CMP_gt (TRU_bool ?_)
    (first | refine ifN (by simp; (first | lia | omega)) ?_ | rw [if_neg (by simp; (first | lia | omega))])
    refine ANY_cons ?_
    refine TE_Cmp (by kernel_rfl) ?_
    refine EV_CallN (by rfl) ?_; refine EV_builtin F.bLen (by rfl) (by kernel_rfl) (by kernel_rfl) (by rfl) (by rfl) ?_; refine ⟨rfl, ?_⟩
    tm_at "Mgo"
    refine ⟨KP_builtin, CW_lens (by (first | lia | omega)) ?_⟩
    refine EV_global F.most (by rfl) (by kernel_rfl) (by kernel_rfl) (by rfl) ?_
    refine CMP_gt (TRU_bool ?_)
    refine ANY_last ?_
    exact ⟨by simp; (first | lia | omega), rfl⟩
  rintro c _ ⟨rfl, rfl⟩
  (first | refine ifN (by decide) ?_ | rw [if_neg (by decide)])
  tm_at "Mgo"
  refine XS_cons ?_
  refine W.mono (Q := fun f τ => f = .next ∧ ∃ a3 b3, (if b2.length < a2.length then levC b2 a2 mc else levC a2 b2 mc) = levC a3 b3 mc ∧ (∀ x ∈ a3, x < 128) ∧ (∀ x ∈ b3, x < 128) ∧ a3.length ≤ 40 ∧ b3.length ≤ 40 ∧ Pick (((fenv (scOf (topSt 9)) L [] (nmOf (topSt 9)) adLev cd).locals, .ns (le5 a3 b3 mc p q)) :: σ) τ) ?_ ?_
  · refine EX_If ?_
    refine TE_Cmp (by kernel_rfl) ?_
    refine EV_CallN (by rfl) ?_; refine EV_builtin F.bLen (by rfl) (by kernel_rfl) (by kernel_rfl) (by rfl) (by rfl) ?_; refine ⟨rfl, ?_⟩
    tm_at "Mgo"
    refine ⟨KP_builtin, CW_lens (by (first | lia | omega)) ?_⟩
    refine EV_CallN (by rfl) ?_; refine EV_builtin F.bLen (by rfl) (by kernel_rfl) (by kernel_rfl) (by rfl) (by rfl) ?_; refine ⟨rfl, ?_⟩
    tm_at "Mgo"
    refine ⟨KP_builtin, CW_lens (by (first | lia | omega)) ?_⟩
    refine CMP_lt (TRU_bool ?_)
    refine ite_of (fun h => ?_) (fun h => ?_)
    · have h' : b2.length < a2.length := by simpa using h
      refine XS_cons ?_
      refine EX_AssignSwap2 (x := "a") (y := "b") rm.handled (by rfl) (by kernel_rfl) ?_
      refine EV_Tuple ?_
      tm_at "Mgo"
      refine ⟨by simp; (first | lia | omega), fun t => ?_⟩
      refine ⟨t, _, _, rfl, .head _, ?_⟩
      refine ST_loc (by kernel_rfl) ch1 (by tm_at "Mp") ?_
      refine ST_loc (by kernel_rfl) ch1 (by tm_at "Mp") ?_
      refine XS_nil ?_
      exact ⟨rfl, b2, a2, by (first | refine ifP h' ?_ | rw [if_pos h']), hcb, hca, zb2, za2, .drop .refl⟩
    · have h' : ¬ b2.length < a2.length := by simpa using h
      refine XS_nil ?_
      exact ⟨rfl, a2, b2, by (first | refine ifN h' ?_ | rw [if_neg h']), hca, hcb, za2, zb2, .refl⟩
  rintro f τ ⟨rfl, a3, b3, e3, hca3, hcb3, za3, zb3, hp3⟩
  refine W_pick hp3 ?_
  refine (lev_tail F hcb3 hca3 (by (first | lia | omega)) (by (first | lia | omega)) (rm.deeper _)).mono ?_
  rintro f τ ⟨rfl, hpk⟩
  exact ⟨_, hpk, by (first | (refine rwG e3 ?_; try (with_reducible rfl)) | rw [e3]); rfl, rfl⟩
end
noncomputable def insN (x : Nat) : List Nat → List Nat
  | [] => [x]
  | y :: r => if x ≤ y then x :: y :: r else y :: insN x r
noncomputable def isort : List Nat → List Nat
  | [] => []
  | x :: r => insN x (isort r)
theorem insN_perm (x : Nat) : ∀ l, (insN x l).Perm (x :: l)
  | [] => .refl _
  | y :: r => by
    unfold insN
    split
    · exact .refl _
    · exact ((insN_perm x r).cons y).trans (.swap ..)
theorem isort_perm : ∀ l, (isort l).Perm l
  | [] => .refl _
  | x :: r => (insN_perm x _).trans ((isort_perm r).cons x)
set_option tactic.hygienic true in
theorem insN_sorted (x : Nat) : ∀ l : List Nat, l.Pairwise (· ≤ ·) → (insN x l).Pairwise (· ≤ ·)
  | [], _ => by simp [insN]
  | y :: r, h => by
    rw [List.pairwise_cons] at h
    unfold insN
    split
    · rename_i hxy
      refine List.pairwise_cons.mpr ⟨fun z hz => ?_, List.pairwise_cons.mpr h⟩
      rcases List.mem_cons.mp hz with rfl | hz
      · exact hxy
      · exact Nat.le_trans hxy (h.1 z hz)
    · rename_i hxy
      refine List.pairwise_cons.mpr ⟨fun z hz => ?_, insN_sorted x r h.2⟩
      rcases List.mem_cons.mp ((insN_perm x r).mem_iff.mp hz) with rfl | hz
      · (first | lia | omega)
      · exact h.1 z hz
theorem isort_sorted : ∀ l, (isort l).Pairwise (· ≤ ·)
  | [] => .nil
  | x :: r => insN_sorted x _ (isort_sorted r)
theorem sorted_unique : ∀ {a b : List Int}, a.Perm b → a.Pairwise (· ≤ ·) → b.Pairwise (· ≤ ·) → a = b
  | [], b, p, _, _ => p.nil_eq
  | x :: a, [], p, _, _ => by simpa using p.length_eq
  | x :: a, y :: b, p, ha, hb => by
    rw [List.pairwise_cons] at ha hb
    have h1 : x ≤ y := by
      rcases List.mem_cons.mp (p.mem_iff.mpr (List.mem_cons_self : y ∈ y :: b)) with e | h
      · (first | lia | omega)
      · exact ha.1 y h
    have h2 : y ≤ x := by
      rcases List.mem_cons.mp (p.mem_iff.mp (List.mem_cons_self : x ∈ x :: a)) with e | h
      · (first | lia | omega)
      · exact hb.1 x h
    have e : x = y := by (first | lia | omega)
    subst e
    rw [sorted_unique (List.Perm.cons_inv p) ha.2 hb.2]
theorem sorted_is {ns : List Nat} {ns' : List Int} (p : ns'.Perm (ns.map fun n : Nat => (n : Int))) (h : ns'.Pairwise (· ≤ ·)) : ns' = (isort ns).map fun n : Nat => (n : Int) := by
  refine sorted_unique (p.trans ((isort_perm ns).symm.map _)) h ?_
  rw [List.pairwise_map]
  exact (isort_sorted ns).imp fun h => by omega
theorem preSum_shift (f : Nat → Int) : ∀ n : Nat, preSum f (n + 1) = f 0 + preSum (fun i => f (i + 1)) n
  | 0 => by simp [preSum]
  | n + 1 => by
    show preSum f (n + 1) + f (n + 1) = f 0 + (preSum (fun i => f (i + 1)) n + f (n + 1))
    rw [preSum_shift f n, Int.add_assoc]
theorem sumI_nat : ∀ l : List Nat, sumI (l.map fun n : Nat => (n : Int)) = ((l.sum : Nat) : Int)
  | [] => rfl
  | x :: l => by
    have ih := sumI_nat l
    unfold sumI at ih ⊢
    simp only [List.map_cons, List.length_cons, List.length_map] at ih ⊢
    rw [preSum_shift]
    simp only [List.getD_cons_zero, List.getD_cons_succ, List.sum_cons]
    (first | (refine rwG ih ?_; try (with_reducible rfl)) | rw [ih])
    (first | lia | omega)
theorem preSum_small (l : List Nat) (h : ∀ x ∈ l, x ≤ 2) : ∀ j, 0 ≤ preSum (fun i => (l.map fun n : Nat => (n : Int)).getD i 0) j ∧ preSum (fun i => (l.map fun n : Nat => (n : Int)).getD i 0) j ≤ 2 * j
  | 0 => by simp [preSum]
  | j + 1 => by
    have := preSum_small l h j
    show 0 ≤ preSum (fun i => (l.map fun n : Nat => (n : Int)).getD i 0) j + (l.map fun n : Nat => (n : Int)).getD j 0 ∧ preSum (fun i => (l.map fun n : Nat => (n : Int)).getD i 0) j + (l.map fun n : Nat => (n : Int)).getD j 0 ≤ _
    have h2 : 0 ≤ (l.map fun n : Nat => (n : Int)).getD j 0 ∧ (l.map fun n : Nat => (n : Int)).getD j 0 ≤ 2 := by
      by_cases hj : j < l.length
      · have hm := h l[j] (List.getElem_mem hj)
        simp [hj]
        (first | lia | omega)
      · simp [List.getD_eq_getElem?_getD, List.getElem?_eq_none (Nat.le_of_not_lt hj)]
    (first | lia | omega)
theorem price_le (a b : Nat) : price a b ≤ 2 := by
  unfold price
  split
  · (first | lia | omega)
  · split <;> (first | lia | omega)
noncomputable def dueOf (text : List Nat) (s : Nat) : Nat := ((isort (text.map (price s))).take 3).sum + 2 * ((text.length : Int) - 3).natAbs
noncomputable def nearGo (text : List Nat) : List Nat → Nat → List Nat → List Nat
  | [], _, n => n
  | s :: r, l, n => if dueOf text s < l then nearGo text r (dueOf text s) [s] else nearGo text r l n
theorem Pick.mem {σ σ' : Hp} (h : Pick σ' σ) {q : Addr × AO} (hq : q ∈ σ') : q ∈ σ := by
  obtain ⟨τ, h1, h2⟩ := h.spec
  exact h1.mem_iff.mpr (h2.subset hq)
section
variable {X : Cx} {A : Around} {σ : Hp} {E : Value → Shared → Prop} {env : Env}
noncomputable abbrev ne4 (text : List Nat) (turn : Nat) (ne : List Nat) (le : Nat) : List (Str × Value) := [(("text" : Str), T text), (("turn" : Str), I (turn : Int)), (("least" : Str), I (le : Int)), (("nearest" : Str), T ne)]
noncomputable abbrev ne7 (text : List Nat) (turn : Nat) (ne : List Nat) (le : Nat) (x y z : Value) : List (Str × Value) := [(("text" : Str), T text), (("turn" : Str), I (turn : Int)), (("least" : Str), I (le : Int)), (("nearest" : Str), T ne), (("prices" : Str), x), (("due" : Str), y), (("told" : Str), z)]
theorem near_turn (F : Facts X) {L sc : Addr} {cd : Value} {text : List Nat} {turn le s : Nat} {ne : List Nat} {es : List (Str × Value)} (hes : es = ne4 text turn ne le ∨ ∃ x y z, es = ne7 text turn ne le x y z) (ht : ∀ c ∈ text, c < 128) (hz : text.length ≤ 40) (hs : s < 128)
    (hlev : lev text [s, s, s] ((dueOf text s : Int) + (((turn + 2) % 3 : Nat) : Int) - 1) = dueOf text s) {n : Nat} (rm : Rm (n + 4) A) :
    XS X A (fenv (scOf (topSt 19)) L [(("sign" : Str), sc)] (nmOf (topSt 19)) adNear cd) F0 (forBody (nthSt (bodyOf (topSt 19)) 1)) (((fenv (scOf (topSt 19)) L [(("sign" : Str), sc)] (nmOf (topSt 19)) adNear cd).locals, .ns es) :: (sc, .cell (some (T [s]))) :: σ) (fun f τ => f = .next ∧ ∃ x y z, Pick (((fenv (scOf (topSt 19)) L [(("sign" : Str), sc)] (nmOf (topSt 19)) adNear cd).locals, .ns (ne7 text turn (if dueOf text s < le then [s] else ne) (if dueOf text s < le then dueOf text s else le) x y z)) :: (sc, .cell (some (T [s]))) :: σ) τ) := by
  have hsz := sizeLine_eq
  have hput : ∀ v, ∃ es₁, Put ("prices" : Str) v es es₁ ∧ (("text" : Str), T text) ∈ es₁ ∧ (("prices" : Str), v) ∈ es₁ ∧ ∀ w, ∃ es₂, Put ("due" : Str) w es₁ es₂ ∧ (("text" : Str), T text) ∈ es₂ ∧ (("turn" : Str), I (turn : Int)) ∈ es₂ ∧ (("due" : Str), w) ∈ es₂ ∧ ∀ u, Put ("told" : Str) u es₂ (ne7 text turn ne le v w u) := by
    intro v
    rcases hes with rfl | ⟨x, y, z, rfl⟩
    · exact ⟨_, by tm_at "Mp", (.head _), me4, fun w => ⟨_, by tm_at "Mp", (.head _), me1, me5, fun u => by tm_at "Mp"⟩⟩
    · exact ⟨_, by tm_at "Mp", (.head _), me4, fun w => ⟨_, by tm_at "Mp", (.head _), me1, me5, fun u => by tm_at "Mp"⟩⟩
  have htx : (("text" : Str), T text) ∈ es := by
    rcases hes with rfl | ⟨x, y, z, rfl⟩
    · exact .head _
    · exact .head _
  refine XS_cons ?_
  refine EX_Assign (by kernel_rfl) ?_
  refine EV_CallN (by rfl) ?_; refine EV_builtin F.bSorted (by rfl) (by kernel_rfl) (by kernel_rfl) (by rfl) (by rfl) ?_; refine ⟨rfl, ?_⟩
  refine ES_con (by rfl) ?_
  refine EV_CompJ [(("sign" : Str), sc)] ⟨rfl, rfl, by decide +kernel, by decide +kernel⟩ (fun _ => by rfl) ?_
  refine EV_loc (by kernel_rfl) (.head _) htx ?_
  refine srcJ_str rm.handled rfl (by kernel_rfl) (fun i ys τ => ys = (text.take i).map (fun c => I ((price s c : Nat) : Int)) ∧ τ = ((fenv (scOf (topSt 19)) L [(("sign" : Str), sc)] (nmOf (topSt 19)) adNear cd).locals, .ns es) :: (sc, .cell (some (T [s]))) :: σ) ht (by (first | lia | omega)) ⟨rfl, rfl⟩ ?_ ?_
  · rintro C R i hi ys τ ⟨rfl, rfl⟩ hl
    refine EV_CallN (by rfl) ?_; refine EV_global F.dPrice.glob (by rfl) (by kernel_rfl) (by kernel_rfl) (by rfl) ?_; refine ⟨rfl, ?_⟩
    refine ES_con (by rfl) ?_
    refine EV_cell (c := sc) (v := T [s]) rfl (by kernel_rfl) (by kernel_rfl) (by kernel_rfl) (by kernel_rfl) me2 ?_
    refine ES_con (by rfl) ?_
    refine EV_loc (by kernel_rfl) (.head _) (.head _) ?_
    refine ES_nil ?_
    refine ⟨KP_base F.dPrice.bf.kp, CC_ret (c_price F (n := n + 2) rm) ?_⟩
    refine ⟨_, .refl, ?_, rfl⟩
    rw [List.take_succ_eq_append_getElem hi]; simp only [List.map_append, List.map_cons, List.map_nil]
  rintro D ys τ ⟨rfl, rfl⟩ hl
  refine ES_nil ?_
  rw [List.take_of_length_le (Nat.le_refl _)]
  rw [show (text.map fun c => I ((price s c : Nat) : Int)) = (((text.map (price s)).map fun n : Nat => (n : Int)).map I) by simp]
  refine ⟨KP_builtin, CW_sorted (.head _) (by simp; (first | lia | omega)) fun a ns' hp hpw => ?_⟩
  obtain rfl := sorted_is hp hpw
  obtain ⟨es₁, put1, m1, m2, hput2⟩ := hput (.ref a)
  refine ST_loc (by kernel_rfl) (.there (.there (.here))) put1 ?_
  refine XS_cons ?_
  refine EX_Assign (by kernel_rfl) ?_
  refine EV_BinOp ?_
  refine EV_CallN (by rfl) ?_; refine EV_builtin F.bSum (by rfl) (by kernel_rfl) (by kernel_rfl) (by rfl) (by rfl) ?_; refine ⟨rfl, ?_⟩
  refine ES_con (by rfl) ?_
  refine EV_Sub ?_
  refine EV_loc (by kernel_rfl) me2 m2 ?_
  tm_at "Mgo"
  intro sl
  refine SUB_list me1 (GI_list_slice (lo := none) (hi := some 3) me1 (.head _) (by have := (isort_perm (text.map (price s))).length_eq; simp at this ⊢; (first | lia | omega)) fun sa => ?_)
  refine ES_nil ?_
  have hsl : slc none (some 3) (((isort (text.map (price s))).map fun n : Nat => (n : Int)).map I) = (((isort (text.map (price s))).take 3).map fun n : Nat => (n : Int)).map I := by
    rw [slc_to (by decide), ← List.map_take, ← List.map_take]; rfl
  (first | (refine rwG hsl ?_; try (with_reducible rfl)) | rw [hsl])
  have hle2 : ∀ x ∈ (isort (text.map (price s))).take 3, x ≤ 2 := fun x hx => by
    have h1 := (isort_perm (text.map (price s))).mem_iff.mp (List.take_subset _ _ hx)
    obtain ⟨c, _, rfl⟩ := List.mem_map.mp h1
    exact price_le s c
  refine ⟨KP_builtin, CW_sum rm.handled (.head _) (fun j hj => ?_) ?_⟩
  · have h1 := preSum_small _ hle2 (j + 1)
    have h2 := preSum_small _ hle2 j
    have h3 : preSum (fun i => (((isort (text.map (price s))).take 3).map fun n : Nat => (n : Int)).getD i 0) (j + 1) = preSum (fun i => (((isort (text.map (price s))).take 3).map fun n : Nat => (n : Int)).getD i 0) j + (((isort (text.map (price s))).take 3).map fun n : Nat => (n : Int)).getD j 0 := rfl
    have hj3 : j < 3 := by simp at hj; (first | lia | omega)
    unfold InLong
    (first | lia | omega)
  rw [sumI_nat]
  refine EV_BinOp ?_
  refine EV_int ?_
  refine EV_CallN (by rfl) ?_; refine EV_builtin F.bAbs (by rfl) (by kernel_rfl) (by kernel_rfl) (by rfl) (by rfl) ?_; refine ⟨rfl, ?_⟩
  refine ES_con (by rfl) ?_
  refine EV_BinOp ?_
  refine EV_CallN (by rfl) ?_; refine EV_builtin F.bLen (by rfl) (by kernel_rfl) (by kernel_rfl) (by rfl) (by rfl) ?_; refine ⟨rfl, ?_⟩
  refine ES_con (by rfl) ?_
  refine EV_loc (by kernel_rfl) me4 m1 ?_
  refine ES_nil ?_
  refine ⟨KP_builtin, CW_lens (by (first | lia | omega)) ?_⟩
  refine EV_int ?_
  refine BIN_sub ?_
  refine ES_nil ?_
  refine ⟨KP_builtin, CW_abs ?_⟩
  refine BIN_mul (IntMulOk.of_left (by decide)) ?_
  refine BIN_add ?_
  rw [show ((((isort (text.map (price s))).take 3).sum : Nat) : Int) + 2 * ((((text.length : Int) - 3).natAbs : Nat) : Int) = ((dueOf text s : Nat) : Int) by unfold dueOf; (first | lia | omega)]
  obtain ⟨es₂, put2, m3, m4, m5, put3⟩ := hput2 (I ((dueOf text s : Nat) : Int))
  refine ST_loc (by kernel_rfl) (.there (.there (.there (.there (.here))))) put2 ?_
  refine W_pick (σ' := ((fenv (scOf (topSt 19)) L [(("sign" : Str), sc)] (nmOf (topSt 19)) adNear cd).locals, .ns es₂) :: (sc, .cell (some (T [s]))) :: σ) (.take (.there (.there (.there (.there (.here))))) (.drop (.drop (.drop (.drop (.refl)))))) ?_
  refine XS_cons ?_
  refine EX_Assign (by kernel_rfl) ?_
  refine EV_CallN (by rfl) ?_; refine EV_global F.dLev.glob (by rfl) (by kernel_rfl) (by kernel_rfl) (by rfl) ?_; refine ⟨rfl, ?_⟩
  refine ES_con (by rfl) ?_
  refine EV_loc (by kernel_rfl) (.head _) m3 ?_
  refine ES_con (by rfl) ?_
  refine EV_BinOp ?_
  refine EV_int ?_
  refine EV_cell (c := sc) (v := T [s]) rfl (by kernel_rfl) (by kernel_rfl) (by kernel_rfl) (by kernel_rfl) me1 ?_
  refine BIN_muls (by decide) (by decide) (by simp) (by simp) ?_
  rw [show (List.replicate (3 : Int).toNat [s]).flatten = [s, s, s] from rfl]
  refine ES_con (by rfl) ?_
  refine EV_BinOp (EV_BinOp ?_)
  refine EV_loc (by kernel_rfl) (.head _) m5 ?_
  refine EV_BinOp (EV_BinOp ?_)
  refine EV_loc (by kernel_rfl) (.head _) m4 ?_
  refine EV_int ?_
  refine BIN_add ?_
  refine EV_int ?_
  rw [show (turn : Int) + 2 = ((turn + 2 : Nat) : Int) by (first | lia | omega)]
  refine BIN_modN (turn + 2) 3 (by decide) ?_
  refine BIN_add ?_
  refine EV_int ?_
  refine BIN_sub ?_
  refine ES_nil ?_
  refine ⟨KP_base F.dLev.bf.kp, CC_ret (c_lev F (by intro x hx; simp at hx; subst hx; exact hs) ht hz (by simp) (n := n) rm) ?_⟩
  (first | (refine rwG hlev ?_; try (with_reducible rfl)) | rw [hlev])
  refine ST_loc (by kernel_rfl) .here (put3 _) ?_
  refine XS_cons ?_
  refine EX_If ?_
  refine TE_Cmp (by kernel_rfl) ?_
  refine EV_loc (by kernel_rfl) (.head _) me6 ?_
  refine EV_loc (by kernel_rfl) (.head _) me5 ?_
  refine CMP_ne (TRU_bool ?_)
  (first | refine ifN (by simp) ?_ | rw [if_neg (by simp)])
  refine XS_nil ?_
  refine XS_cons ?_
  refine EX_If ?_
  refine TE_Cmp (by kernel_rfl) ?_
  refine EV_loc (by kernel_rfl) (.head _) me6 ?_
  refine EV_loc (by kernel_rfl) (.head _) me2 ?_
  refine CMP_lt (TRU_bool ?_)
  refine ite_of (fun h => ?_) (fun h => ?_)
  · have h' : dueOf text s < le := by simp at h; (first | lia | omega)
    ((first | refine ifP h' ?_ | rw [if_pos h']); (first | refine ifP h' ?_ | rw [if_pos h']))
    refine XS_cons ?_
    refine EX_AssignSwap2 (x := "least") (y := "nearest") rm.handled (by rfl) (by kernel_rfl) ?_
    refine EV_Tuple ?_
    refine ES_con (by rfl) ?_
    refine EV_loc (by kernel_rfl) (.head _) me6 ?_
    refine ES_con (by rfl) ?_
    refine EV_cell (c := sc) (v := T [s]) rfl (by kernel_rfl) (by kernel_rfl) (by kernel_rfl) (by kernel_rfl) me1 ?_
    refine ES_nil ?_
    refine ⟨by simp; (first | lia | omega), fun t => ?_⟩
    refine ⟨t, _, _, rfl, .head _, ?_⟩
    refine ST_loc (by kernel_rfl) ch1 (by tm_at "Mp") ?_
    refine ST_loc (by kernel_rfl) ch1 (by tm_at "Mp") ?_
    refine XS_nil (XS_nil ?_)
    exact ⟨rfl, _, _, _, .drop .refl⟩
  · have h' : ¬ dueOf text s < le := by simp at h; (first | lia | omega)
    ((first | refine ifN h' ?_ | rw [if_neg h']); (first | refine ifN h' ?_ | rw [if_neg h']))
    refine XS_nil (XS_nil ?_)
    exact ⟨rfl, _, _, _, .refl⟩
end
theorem Ext_mid (q : Addr × AO) : ∀ (c1 c2 : Hp), Ext q (c1 ++ q :: c2) (c1 ++ c2)
  | [], _ => .here
  | _ :: c1, c2 => .there (Ext_mid q c1 c2)
theorem Pick.of_spec : ∀ {a c τ : Hp}, c.Perm τ → a.Sublist τ → Pick a c
  | [], _, _, _, _ => .nil
  | q :: a, c, τ, hp, hs => by
    obtain ⟨r1, r2, rfl, h1, h2⟩ := List.cons_sublist_iff.mp hs
    obtain ⟨u, v, rfl⟩ := List.append_of_mem h1
    have hq : q ∈ c := hp.mem_iff.mpr (by simp)
    obtain ⟨c1, c2, rfl⟩ := List.append_of_mem hq
    refine .take (Ext_mid q c1 c2) (Pick.of_spec (τ := (u ++ v) ++ r2) ?_ (h2.trans (List.sublist_append_right _ _)))
    have e : ((c1 ++ q :: c2) : Hp).Perm (q :: (c1 ++ c2)) := List.perm_middle
    have e2 : ((u ++ q :: v) ++ r2 : Hp).Perm (q :: ((u ++ v) ++ r2)) := by
      rw [List.append_assoc, List.cons_append, List.append_assoc]
      exact List.perm_middle
    exact ((e.symm.trans hp).trans e2).cons_inv
theorem Pick.trans {a b c : Hp} (h1 : Pick a b) (h2 : Pick b c) : Pick a c := by
  obtain ⟨t1, p1, s1⟩ := h1.spec
  obtain ⟨t2, p2, s2⟩ := h2.spec
  obtain ⟨r, hr⟩ := s2.exists_perm_append
  exact Pick.of_spec (p2.trans (hr.trans (p1.append_right r))) (s1.trans (List.sublist_append_left _ _))
section
variable {X : Cx} {A : Around} {σ : Hp} {E : Value → Shared → Prop} {env : Env}
inductive NearI (text : List Nat) (turn : Nat) (sc L : Addr) (σ : Hp) (l : Addr) (xs : List Value) (i : Nat) (τ : Hp) : Prop
  | mk (cs : List Nat) (es : List (Str × Value)) (le : Nat) (ne : List Nat) (cv : Option Value) (he : es = ne4 text turn ne le ∨ ∃ x y z, es = ne7 text turn ne le x y z) (hxs : xs = cs.map (fun c => T [c])) (hpw : cs.Pairwise (· < ·)) (hmem : ∀ c, c ∈ cs ↔ c ∈ text) (e : nearGo text cs 99 [] = nearGo text (cs.drop i) le ne)
      (hp : Pick ((L, .ns es) :: (sc, .cell cv) :: (l, .seq "list" xs) :: σ) τ)
theorem c_near (F : Facts X) {text : List Nat} {turn : Nat} (ht : ∀ c ∈ text, c < 128) (hz : text.length ≤ 40)
    (hlev : ∀ s ∈ text, lev text [s, s, s] ((dueOf text s : Int) + (((turn + 2) % 3 : Nat) : Int) - 1) = dueOf text s) {n : Nat} (rm : Rm (n + 5) A) :
    CC X A F0 (.ref adNear) [T text, I turn] σ (fun v σ' => ∃ cs : List Nat, cs.Pairwise (· < ·) ∧ (∀ c, c ∈ cs ↔ c ∈ text) ∧ v = T (nearGo text cs 99 []) ∧ σ' = σ) := by
  have hsz := sizeLine_eq
  refine CC_def rm F.dNear.bf.fn rfl rfl (by decide +kernel) rfl fun cd L => ?_
  refine CK_skip rfl (CK_skip rfl (CK_skip rfl (CK_skip rfl (CK_cell fun sc => CK_plain (by decide +kernel) ?_))))
  refine BD_cons ?_; refine ST_loc (by kernel_rfl) ch1 .nil ?_
  refine BD_cons ?_; refine ST_loc (by kernel_rfl) ch1 (by tm_at "Mp") ?_
  refine BD_nil ?_
  refine XS_cons ?_
  refine EX_AssignTuple (by rfl) (by kernel_rfl) ?_
  refine EV_Tuple ?_
  refine ES_con (by rfl) ?_
  refine EV_int ?_
  refine ES_con (by rfl) ?_
  refine EV_txt [] (by kernel_rfl) ?_
  refine ES_nil ?_
  refine ⟨by simp; (first | lia | omega), fun t => ?_⟩
  refine AS_Tuple rm.handled (.head _) rfl rfl (AE_two (AS_Name ?_))
  refine ST_loc (by kernel_rfl) (.there (.there (.here))) (by tm_at "Mp") (AS_Name ?_)
  refine ST_loc (by kernel_rfl) (.there (.there (.here))) (by tm_at "Mp") ?_
  refine XS_cons ?_
  refine EX_ForList rm.handled (fun _ => by rfl) (NearI text turn sc (fenv (scOf (topSt 19)) L [(("sign" : Str), sc)] (nmOf (topSt 19)) adNear cd).locals σ) ?_
  refine EV_CallN (by rfl) ?_; refine EV_builtin F.bSorted (by rfl) (by kernel_rfl) (by kernel_rfl) (by rfl) (by rfl) ?_; refine ⟨rfl, ?_⟩
  refine ES_con (by rfl) ?_
  refine EV_CallN (by rfl) ?_; refine EV_builtin F.bSet (by rfl) (by kernel_rfl) (by kernel_rfl) (by rfl) (by rfl) ?_; refine ⟨rfl, ?_⟩
  refine ES_con (by rfl) ?_
  refine EV_loc (by kernel_rfl) me2 (.head _) ?_
  refine ES_nil ?_
  refine ⟨KP_type, CW_set rm.handled (by (first | lia | omega)) fun st => ?_⟩
  refine ES_nil ?_
  refine ⟨KP_builtin, CW_sortedSet rm.handled (by (first | lia | omega)) (.head _) fun l cs hpw hmem => ?_⟩
  refine ⟨l, _, rfl, ?_, ⟨cs, _, 99, [], none, .inl rfl, rfl, hpw, hmem, rfl, (.take (.there (.there (.there (.there (.here))))) (.take (.there (.there (.there (.here)))) (.take (.here) (.drop (.drop (.refl))))))⟩, ?_, ?_⟩
  · rintro i τ ⟨cs', es, le, ne, cv, _, _, _, _, _, hp⟩
    exact hp.mem me2
  · rintro τ ⟨cs', es, le, ne, cv, he, hxs, hpw', hmem', e, hp⟩
    have hlen : cs'.length = (cs.map (fun c => T [c])).length := by (first | (refine rwG hxs ?_; try (with_reducible rfl)) | rw [hxs]); simp
    rw [← hlen, List.drop_length] at e
    refine W_pick hp ?_
    have hne : (("nearest" : Str), T ne) ∈ es := by
      rcases he with rfl | ⟨x, y, z, rfl⟩
      · exact me3
      · exact me3
    refine XS_cons ?_
    refine EX_Return ?_
    refine EV_loc (by kernel_rfl) (.head _) hne ?_
    exact ⟨_, .drop (.drop (.drop .refl)), cs', hpw', hmem', by (first | (refine rwG e ?_; try (with_reducible rfl)) | rw [e]); rfl, rfl⟩
  · rintro i hi τ it ⟨cs', es, le, ne, cv, he, hxs, hpw', hmem', e, hp⟩
    have hi' : i < cs'.length := by have := congrArg List.length hxs; simp at this hi; (first | lia | omega)
    have hv : (cs.map (fun c => T [c]))[i] = T [cs'[i]] := by simp [hxs]
    have hct : cs'[i] ∈ text := (hmem' _).mp (List.getElem_mem hi')
    (first | (refine rwG hv ?_; try (with_reducible rfl)) | rw [hv])
    refine LG_Name (AS_pick (.take .here hp) (AS_Name ?_))
    refine ST_cell rfl (by kernel_rfl) rfl (.there (.there (.here))) ?_
    refine W_pick (σ' := ((fenv (scOf (topSt 19)) L [(("sign" : Str), sc)] (nmOf (topSt 19)) adNear cd).locals, .ns es) :: (sc, .cell (some (T [cs'[i]]))) :: (it, _) :: (l, .seq "list" (cs.map fun c => T [c])) :: σ) (.take (.there (.here)) (.take (.there (.here)) (.refl))) ?_
    refine (near_turn F he ht hz (ht _ hct) (hlev _ hct) (rm.deeper _)).mono ?_
    rintro f τ' ⟨rfl, x, y, z, hp'⟩
    refine ⟨((fenv (scOf (topSt 19)) L [(("sign" : Str), sc)] (nmOf (topSt 19)) adNear cd).locals, .ns (ne7 text turn (if dueOf text cs'[i] < le then [cs'[i]] else ne) (if dueOf text cs'[i] < le then dueOf text cs'[i] else le) x y z)) :: (sc, .cell (some (T [cs'[i]]))) :: (l, .seq "list" (cs.map fun c => T [c])) :: σ, ?_, cs', _, (if dueOf text cs'[i] < le then dueOf text cs'[i] else le), (if dueOf text cs'[i] < le then [cs'[i]] else ne), _, .inr ⟨x, y, z, rfl⟩, hxs, hpw', hmem', ?_, .refl⟩
    · exact Pick.trans (.take (.there (.there (.here))) (.refl)) hp'
    · rw [e, List.drop_eq_getElem_cons hi']
      have hun : nearGo text (cs'[i] :: cs'.drop (i + 1)) le ne = if dueOf text cs'[i] < le then nearGo text (cs'.drop (i + 1)) (dueOf text cs'[i]) [cs'[i]] else nearGo text (cs'.drop (i + 1)) le ne := rfl
      (first | (refine rwG hun ?_; try (with_reducible rfl)) | rw [hun])
      by_cases h : dueOf text cs'[i] < le
      · ((first | refine ifP h ?_ | rw [if_pos h]); (first | refine ifP h ?_ | rw [if_pos h]); (first | refine ifP h ?_ | rw [if_pos h]))
      · ((first | refine ifN h ?_ | rw [if_neg h]); (first | refine ifN h ?_ | rw [if_neg h]); (first | refine ifN h ?_ | rw [if_neg h]))
end
noncomputable def numsOf (ns : List Int) : List Nat := (ns.take 6 ++ ([2146, 10, 36, 4, 22721, 736] : List Int).drop (ns.take 6).length).map fun x => (x.fmod 1000000000).toNat
theorem numsOf_len (ns : List Int) : (numsOf ns).length = 6 := by
  unfold numsOf
  simp
  (first | lia | omega)
section
variable {X : Cx} {A : Around} {σ : Hp} {E : Value → Shared → Prop} {env : Env}
theorem CompSrcJ_pick {σ' : Hp} {scope : Scope} {cl : List (Str × Addr)} {target elt : Expr} {x : Value} {Z : Addr → List Value → Hp → Prop} (hp : Pick σ' σ) (h : CompSrcJ X A E env scope cl target elt x σ' Z) : CompSrcJ X A E env scope cl target elt x σ Z := by
  unfold CompSrcJ at h ⊢
  exact fun x' e => W_pick hp (h x' e)
noncomputable abbrev lc4 (wc sc tc dc : Addr) (vw vs vt vd : Option Value) (σ : Hp) : Hp := (wc, .cell vw) :: (sc, .cell vs) :: (tc, .cell vt) :: (dc, .cell vd) :: σ
theorem isLB {s : Shared} (R : Rel X σ s) {a : Addr} {items : Array Value} (hb : X.h₀.IsList a items) : s.heap.IsList a items := by
  obtain ⟨o, ho, r⟩ := hb
  exact ⟨o, R.keep _ _ ho, r⟩
theorem SUB_listB {value slice : Expr} {l : Addr} {i : Value} {items : Array Value} {Q : Value → Hp → Prop} (hb : X.h₀.IsList l items) (h : GI X A E (.ref l) i σ Q) : SUB X A E value slice (.ref l) i σ Q :=
  SUB_of (T := "list") (fun s o' R e => by obtain rfl := er_ref e; obtain ⟨o, ho, hc, _⟩ := isLB R hb; exact ⟨o, ho, hc⟩) slot_list_getitem.lookup h
theorem GI_list_sliceB {l sl : Addr} {items : Array Value} {xs : List Value} {lo hi : Option Int} {Q : Value → Hp → Prop} (hb : X.h₀.IsList l items) (he : items.toList.map er = xs) (hs : (sl, AO.fldE "slice" [prt lo, prt hi, .none]) ∈ σ) (hz : xs.length ≤ sizeLine)
    (q : ∀ a, Q (.ref a) ((a, .seq "list" (slc lo hi xs)) :: σ)) : GI X A E (.ref l) (.ref sl) σ Q := fun o' i' eo ei s R => by
  obtain rfl := er_ref eo
  obtain rfl := er_ref ei
  have ho := isLB R hb
  have hsz : items.size = xs.length := by rw [← he, List.length_map, Array.length_toList]
  obtain ⟨l', u', t', _, _, _, e3, h2, p1, p2, p3⟩ := isSlice R (t := none) hs
  refine wpAny_getItem_list_slice ho h2 p1 p2 p3 (by simp) ⟨_, ?_, q s.heap.objs.size⟩ (by (first | lia | omega))
  have := R.push_list (items := slicePick items lo hi none) (T := "list")
  rwa [slicePick_slc, slc_map, he] at this
theorem law_0 (F : Facts X) {L wc sc tc dc fl as : Addr} {cd : Value} {ns : List Int} {items : Array Value} (hbs : X.h₀.IsList as items) (hes : items.toList.map er = ns.map I) (hz : ns.length < 1000) {n : Nat} (rm : Rm (n + 2) A) {Q : Flow → Hp → Prop}
    (q : ∀ an, Q .next (((fenv (scOf (topSt 22)) L [(("wire" : Str), wc), (("signs" : Str), sc), (("top" : Str), tc), (("delays" : Str), dc)] (nmOf (topSt 22)) fl cd).locals, .ns [(("script" : Str), .ref as), (("numbers" : Str), .ref an)]) :: lc4 wc sc tc dc none none none none ((an, .seq "list" (nvs (numsOf ns))) :: σ))) :
    EX X A (fenv (scOf (topSt 22)) L [(("wire" : Str), wc), (("signs" : Str), sc), (("top" : Str), tc), (("delays" : Str), dc)] (nmOf (topSt 22)) fl cd) F0 (nthSt (bodyOf (topSt 22)) 0) (((fenv (scOf (topSt 22)) L [(("wire" : Str), wc), (("signs" : Str), sc), (("top" : Str), tc), (("delays" : Str), dc)] (nmOf (topSt 22)) fl cd).locals, .ns [(("script" : Str), .ref as)]) :: lc4 wc sc tc dc none none none none σ) Q := by
  have hsz := sizeLine_eq
  refine EX_AssignCompJ [] (by kernel_rfl) ⟨rfl, rfl, by decide +kernel, by decide +kernel⟩ (fun _ => by rfl) ?_
  refine EV_BinOp ?_
  refine EV_Sub ?_
  refine EV_loc (by kernel_rfl) (.head _) (.head _) ?_
  tm_at "Mgo"
  intro s1
  refine SUB_listB hbs (GI_list_sliceB (lo := none) (hi := some 6) hbs hes (.head _) (by simp; (first | lia | omega)) fun l1 => ?_)
  rw [slc_to (by decide), ← List.map_take, show (6 : Int).toNat = 6 from rfl]
  refine EV_Sub ?_
  refine EV_List ?_
  tm_at "Mgo"
  refine ⟨by simp; (first | lia | omega), fun l2 => ?_⟩
  refine EV_Slice ?_
  refine PT_some ?_
  refine EV_CallN (by rfl) ?_; refine EV_builtin F.bLen (by rfl) (by kernel_rfl) (by kernel_rfl) (by rfl) (by rfl) ?_; refine ⟨rfl, ?_⟩
  refine ES_con (by rfl) ?_
  refine EV_Sub ?_
  refine EV_loc (by kernel_rfl) me3 (.head _) ?_
  tm_at "Mgo"
  intro s2
  refine SUB_listB hbs (GI_list_sliceB (lo := none) (hi := some 6) hbs hes (.head _) (by simp; (first | lia | omega)) fun l3 => ?_)
  rw [slc_to (by decide), ← List.map_take, show (6 : Int).toNat = 6 from rfl]
  refine ES_nil ?_
  refine ⟨KP_builtin, CW_lenl (.head _) (by simp; (first | lia | omega)) ?_⟩
  rw [List.length_map]
  refine PT_none ?_
  refine PT_none ?_
  intro s3
  refine SUB_list me3 (GI_list_slice (lo := some (((ns.take 6).length : Nat) : Int)) (hi := none) me3 (.head _) (by simp; (first | lia | omega)) fun l4 => ?_)
  rw [slc_from (by (first | lia | omega)), Int.toNat_natCast]
  refine BIN_addl (xs := (ns.take 6).map I) (ys := (([2146, 10, 36, 4, 22721, 736] : List Int).drop (ns.take 6).length).map I) me5 (by rw [List.map_drop]; exact .head _) (by simp; (first | lia | omega)) fun l5 => ?_
  rw [← List.map_append]
  refine CompSrcJ_pick (σ' := (l5, .seq "list" ((ns.take 6 ++ ([2146, 10, 36, 4, 22721, 736] : List Int).drop (ns.take 6).length).map I)) :: ((fenv (scOf (topSt 22)) L [(("wire" : Str), wc), (("signs" : Str), sc), (("top" : Str), tc), (("delays" : Str), dc)] (nmOf (topSt 22)) fl cd).locals, .ns [(("script" : Str), .ref as)]) :: lc4 wc sc tc dc none none none none σ) (.take (.here) (.drop (.drop (.drop (.drop (.drop (.drop (.drop (.refl))))))))) ?_
  generalize hxs : ns.take 6 ++ ([2146, 10, 36, 4, 22721, 736] : List Int).drop (ns.take 6).length = xs
  have hxl : xs.length = 6 := by (first | (refine rwG hxs.symm ?_; try (with_reducible rfl)) | rw [← hxs]); simp; (first | lia | omega)
  have hnm : numsOf ns = xs.map fun x => (x.fmod 1000000000).toNat := by unfold numsOf; (first | (refine rwG hxs ?_; try (with_reducible rfl)) | rw [hxs])
  refine srcJ_list (l := l5) (xs := xs.map I) rm.handled rfl (by kernel_rfl) (fun i ys τ => ys = ((xs.take i).map fun x => I (((x.fmod 1000000000).toNat : Nat) : Int)) ∧ τ = (l5, .seq "list" (xs.map I)) :: ((fenv (scOf (topSt 22)) L [(("wire" : Str), wc), (("signs" : Str), sc), (("top" : Str), tc), (("delays" : Str), dc)] (nmOf (topSt 22)) fl cd).locals, .ns [(("script" : Str), .ref as)]) :: lc4 wc sc tc dc none none none none σ) ?_ (by simp; (first | lia | omega)) ⟨rfl, rfl⟩ ?_ ?_
  · rintro i ys τ ⟨_, rfl⟩
    exact .head _
  · rintro C R i hi ys τ ⟨rfl, rfl⟩ hl
    have hi' : i < xs.length := by simpa using hi
    have hv : (xs.map I)[i] = I xs[i] := by simp
    (first | (refine rwG hv ?_; try (with_reducible rfl)) | rw [hv])
    refine EV_BinOp ?_
    refine EV_loc (by kernel_rfl) (.head _) (.head _) ?_
    refine EV_BinOp ?_
    tm_at "Mgo"
    refine BIN_pow (by decide) (by decide) (by decide) ?_
    rw [show (10 : Int) ^ (9 : Int).toNat = 1000000000 from by decide]
    refine BIN_mod (by decide) ?_
    refine ⟨_, .refl, ?_, rfl⟩
    have h1 := Int.fmod_nonneg_of_pos xs[i] (show (0 : Int) < 1000000000 by decide)
    rw [List.take_succ_eq_append_getElem hi']; simp only [List.map_append, List.map_cons, List.map_nil]
    rw [Int.toNat_of_nonneg h1]
  · rintro D ys τ ⟨rfl, rfl⟩ hl R
    refine ST_loc (by kernel_rfl) (.there (.there (.here))) (by tm_at "Mp") ?_
    rw [List.take_of_length_le (by simp)]
    rw [show (xs.map fun x => I (((x.fmod 1000000000).toNat : Nat) : Int)) = nvs (numsOf ns) by rw [hnm]; simp]
    refine ⟨_, ?_, q D⟩
    exact (.take (.there (.there (.here))) (.take (.there (.there (.here))) (.take (.there (.there (.here))) (.take (.there (.there (.here))) (.take (.there (.there (.here))) (.take (.here) (.drop (.refl))))))))
end
theorem hiF_short {n : Nat} (h : n < 2 ^ 18) : (hiF n).length ≤ 2 := by
  have h0 : ∀ m, m < 64 → hiF m = [] := fun m hm => by ((first | (refine rwG hiF_eq ?_; try (with_reducible rfl)) | rw [hiF_eq]); (first | refine ifN (by (first | lia | omega)) ?_ | rw [if_neg (by (first | lia | omega))]))
  have h1 : ∀ m, m < 4096 → (hiF m).length ≤ 1 := fun m hm => by
    (first | (refine rwG hiF_eq ?_; try (with_reducible rfl)) | rw [hiF_eq])
    split
    · rw [List.length_cons, h0 _ (by (first | lia | omega))]; simp
    · simp
  (first | (refine rwG hiF_eq ?_; try (with_reducible rfl)) | rw [hiF_eq])
  split
  · rw [List.length_cons]
    have := h1 (n / 64) (by (first | lia | omega))
    (first | lia | omega)
  · simp
theorem octs_short {n : Nat} (h : n < 2 ^ 18) : (octs n).length ≤ 3 := by
  have := hiF_short h
  simp [octs]; omega
theorem octs_pos (n : Nat) : 0 < (octs n).length := by simp [octs]
theorem hiF_lt (n : Nat) : ∀ c ∈ hiF n, c < 128 := by
  induction n using Nat.strongRecOn with
  | ind n ih =>
    intro c hc
    rw [hiF_eq] at hc
    split at hc
    · rcases List.mem_cons.mp hc with rfl | hc
      · omega
      · exact ih _ (by omega) c hc
    · cases hc
theorem octs_lt (n : Nat) : ∀ c ∈ octs n, c < 128 := by
  intro c hc
  unfold octs at hc
  rcases List.mem_cons.mp (List.mem_reverse.mp hc) with rfl | hc
  · (first | lia | omega)
  · exact hiF_lt n c hc
theorem range_chs (l : List Nat) : (List.range l.length).map (fun j => T [l.getD j 0]) = chs l := by
  apply List.ext_getElem
  · simp
  · intro i h1 h2
    have hi : i < l.length := by simpa using h1
    simp [hi]
theorem range_chs' (l : List Nat) : (List.range l.length).map (fun j => T [(l[j]?).getD 0]) = chs l := by
  have := range_chs l
  simpa [List.getD_eq_getElem?_getD] using this
theorem nvs_at (l : List Nat) (j : Nat) (h : j < (nvs l).length) : (nvs l)[j] = I ((l.getD j 0 : Nat) : Int) := by
  have h' : j < l.length := by simpa using h
  simp [h']
theorem getD_mem {l : List Nat} {j : Nat} (h : j < l.length) : l.getD j 0 ∈ l := by
  have : l.getD j 0 = l[j] := by simp [h]
  (first | (refine rwG this ?_; try (with_reducible rfl)) | rw [this])
  exact List.getElem_mem h
section
variable {X : Cx} {A : Around} {σ : Hp} {E : Value → Shared → Prop} {env : Env}
noncomputable abbrev lw3 (as an a1 : Addr) : List (Str × Value) := [(("script" : Str), .ref as), (("numbers" : Str), .ref an), (("sent" : Str), .ref a1)]
noncomputable abbrev lw4 (as an a1 am : Addr) : List (Str × Value) := [(("script" : Str), .ref as), (("numbers" : Str), .ref an), (("sent" : Str), .ref a1), (("message" : Str), .ref am)]
noncomputable abbrev lw6 (as an a1 am : Addr) (tn : Nat) (asl : Addr) : List (Str × Value) := [(("script" : Str), .ref as), (("numbers" : Str), .ref an), (("sent" : Str), .ref a1), (("message" : Str), .ref am), (("turns" : Str), I (tn : Int)), (("slots" : Str), .ref asl)]
theorem law_12 (F : Facts X) {L wc sc tc dc fl as an : Addr} {cd : Value} {n0 n1 n2 n3 n4 n5 : Nat} {rest : List Stmt} {Q : Flow → Hp → Prop}
    (q : ∀ a1 ad, XS X A (fenv (scOf (topSt 22)) L [(("wire" : Str), wc), (("signs" : Str), sc), (("top" : Str), tc), (("delays" : Str), dc)] (nmOf (topSt 22)) fl cd) F0 rest (((fenv (scOf (topSt 22)) L [(("wire" : Str), wc), (("signs" : Str), sc), (("top" : Str), tc), (("delays" : Str), dc)] (nmOf (topSt 22)) fl cd).locals, .ns (lw3 as an a1)) :: lc4 wc sc tc dc none none none (some (.ref ad)) ((ad, .seq "list" [I ((n2 % 4 : Nat) : Int), I ((n2 / 4 % 4 : Nat) : Int), I ((n2 / 16 % 4 : Nat) : Int)]) :: (a1, .seq "list" [I ((n0 % 262144 : Nat) : Int), I ((n1 % 262144 : Nat) : Int)]) :: (an, .seq "list" (nvs [n0, n1, n2, n3, n4, n5])) :: σ)) Q) :
    XS X A (fenv (scOf (topSt 22)) L [(("wire" : Str), wc), (("signs" : Str), sc), (("top" : Str), tc), (("delays" : Str), dc)] (nmOf (topSt 22)) fl cd) F0 (nthSt (bodyOf (topSt 22)) 1 :: nthSt (bodyOf (topSt 22)) 2 :: rest) (((fenv (scOf (topSt 22)) L [(("wire" : Str), wc), (("signs" : Str), sc), (("top" : Str), tc), (("delays" : Str), dc)] (nmOf (topSt 22)) fl cd).locals, .ns [(("script" : Str), .ref as), (("numbers" : Str), .ref an)]) :: lc4 wc sc tc dc none none none none ((an, .seq "list" (nvs [n0, n1, n2, n3, n4, n5])) :: σ)) Q := by
  have hsz := sizeLine_eq
  have e18 : (2 : Int) ^ (18 : Int).toNat = ((262144 : Nat) : Int) := by decide
  refine XS_cons ?_
  refine EX_Assign (by kernel_rfl) ?_
  refine EV_List ?_
  refine ES_con (by rfl) ?_
  refine EV_BinOp ?_
  refine EV_Sub ?_
  tm_at "Mgo"
  refine SUB_list me5 (GI_list (v := I (n0 : Int)) me5 (by decide) rfl (by simp; (first | lia | omega)) ?_)
  refine EV_BinOp ?_
  tm_at "Mgo"
  refine BIN_pow (by decide) (by decide) (by decide) ?_
  (first | (refine rwG e18 ?_; try (with_reducible rfl)) | rw [e18])
  refine BIN_modN n0 262144 (by decide) ?_
  refine ES_con (by rfl) ?_
  refine EV_BinOp ?_
  refine EV_Sub ?_
  tm_at "Mgo"
  refine SUB_list me5 (GI_list (v := I (n1 : Int)) me5 (by decide) rfl (by simp; (first | lia | omega)) ?_)
  refine EV_BinOp ?_
  tm_at "Mgo"
  refine BIN_pow (by decide) (by decide) (by decide) ?_
  (first | (refine rwG e18 ?_; try (with_reducible rfl)) | rw [e18])
  refine BIN_modN n1 262144 (by decide) ?_
  refine ES_nil ?_
  refine ⟨by simp; (first | lia | omega), fun a1 => ?_⟩
  refine ST_loc (by kernel_rfl) (.there (.here)) (by tm_at "Mp") ?_
  refine XS_cons ?_
  refine EX_Assign (by kernel_rfl) ?_
  refine EV_List ?_
  refine ES_con (by rfl) ?_
  refine EV_BinOp ?_
  refine EV_Sub ?_
  tm_at "Mgo"
  refine SUB_list me6 (GI_list (v := I (n2 : Int)) me6 (by decide) rfl (by simp; (first | lia | omega)) ?_)
  tm_at "Mgo"
  refine BIN_modN n2 4 (by decide) ?_
  refine ES_con (by rfl) ?_
  refine EV_BinOp (EV_BinOp ?_)
  refine EV_Sub ?_
  tm_at "Mgo"
  refine SUB_list me6 (GI_list (v := I (n2 : Int)) me6 (by decide) rfl (by simp; (first | lia | omega)) ?_)
  tm_at "Mgo"
  refine BIN_divN n2 4 (by decide) (by decide) ?_
  tm_at "Mgo"
  refine BIN_modN (n2 / 4) 4 (by decide) ?_
  refine ES_con (by rfl) ?_
  refine EV_BinOp (EV_BinOp ?_)
  refine EV_Sub ?_
  tm_at "Mgo"
  refine SUB_list me6 (GI_list (v := I (n2 : Int)) me6 (by decide) rfl (by simp; (first | lia | omega)) ?_)
  tm_at "Mgo"
  refine BIN_divN n2 16 (by decide) (by decide) ?_
  tm_at "Mgo"
  refine BIN_modN (n2 / 16) 4 (by decide) ?_
  refine ES_nil ?_
  refine ⟨by simp; (first | lia | omega), fun ad => ?_⟩
  refine ST_cell rfl (by kernel_rfl) (by kernel_rfl) (.there (.there (.there (.there (.there (.there (.here))))))) ?_
  refine W_pick ?_ (q a1 ad)
  exact (.take (.there (.there (.here))) (.take (.there (.there (.here))) (.take (.there (.there (.here))) (.take (.there (.there (.here))) (.take (.there (.there (.here))) (.take (.here) (.take (.here) (.refl))))))))
theorem law_3 (F : Facts X) {L wc sc tc dc fl as an a1 : Addr} {cd : Value} {vd : Option Value} {s0 s1 : Nat} (h0 : s0 < 2 ^ 18) (h1 : s1 < 2 ^ 18) (hm : (a1, AO.seq "list" [I (s0 : Int), I (s1 : Int)]) ∈ σ) {n : Nat} (rm : Rm (n + 3) A) {Q : Flow → Hp → Prop}
    (q : ∀ am, Q .next (((fenv (scOf (topSt 22)) L [(("wire" : Str), wc), (("signs" : Str), sc), (("top" : Str), tc), (("delays" : Str), dc)] (nmOf (topSt 22)) fl cd).locals, .ns (lw4 as an a1 am)) :: lc4 wc sc tc dc none none none vd ((am, .seq "list" (chs (octs s0 ++ octs s1))) :: σ))) :
    EX X A (fenv (scOf (topSt 22)) L [(("wire" : Str), wc), (("signs" : Str), sc), (("top" : Str), tc), (("delays" : Str), dc)] (nmOf (topSt 22)) fl cd) F0 (nthSt (bodyOf (topSt 22)) 3) (((fenv (scOf (topSt 22)) L [(("wire" : Str), wc), (("signs" : Str), sc), (("top" : Str), tc), (("delays" : Str), dc)] (nmOf (topSt 22)) fl cd).locals, .ns (lw3 as an a1)) :: lc4 wc sc tc dc none none none vd σ) Q := by
  have hsz := sizeLine_eq
  have l0 := octs_short h0
  have l1 := octs_short h1
  have hac : ∀ i, i ≤ 2 → accOf (fun i => nvs (octs ([s0, s1].getD i 0))) (fun i j => T [(octs ([s0, s1].getD i 0)).getD j 0]) i = chs ((([s0, s1].take i).map octs).flatten) := by
    intro i hi
    unfold accOf
    match i, hi with
    | 0, _ => rfl
    | 1, _ => simp [List.range_succ, range_chs']
    | 2, _ => simp [List.range_succ, range_chs']
  refine EX_AssignComp2 [] rm.handled (by kernel_rfl) ⟨rfl, rfl, by decide +kernel, by decide +kernel⟩ (fun _ => by rfl) (fun _ _ => by rfl) (by kernel_rfl) (by kernel_rfl) (by decide +kernel) ?_
  refine EV_loc (by kernel_rfl) (.head _) me2 ?_
  refine ⟨a1, [I (s0 : Int), I (s1 : Int)], fun i => nvs (octs ([s0, s1].getD i 0)), fun i j => T [(octs ([s0, s1].getD i 0)).getD j 0], rfl, .tail _ (.tail _ (.tail _ (.tail _ (.tail _ hm)))), fun i hi => ?_, ?_, ?_, ?_⟩
  · rw [hac i (by simpa using hi)]
    match i, hi with
    | 0, _ => simp
    | 1, _ => simp; (first | lia | omega)
    | 2, _ => simp; (first | lia | omega)
  · intro C es i hi τ hx
    have hv : ∃ k : Nat, [I (s0 : Int), I (s1 : Int)][i] = I (k : Int) ∧ k < 2 ^ 20 ∧ [s0, s1].getD i 0 = k := by
      match i, hi with
      | 0, _ => exact ⟨s0, rfl, by (first | lia | omega), rfl⟩
      | 1, _ => exact ⟨s1, rfl, by (first | lia | omega), rfl⟩
    obtain ⟨k, hk, hk2, hk3⟩ := hv
    rw [hk] at hx
    refine EV_CallN (by rfl) ?_; refine EV_global F.dOct.glob (by rfl) (by kernel_rfl) (by kernel_rfl) (by rfl) ?_; refine ⟨rfl, ?_⟩
    refine ES_con (by rfl) ?_
    refine EV_loc (by kernel_rfl) (.head _) hx ?_
    refine ES_nil ?_
    refine ⟨KP_base F.dOct.bf.kp, CW_use (c_oct F hk2 (n := n + 1) rm).any ?_⟩
    rintro v σ' ⟨a, rfl, rfl⟩
    exact ⟨a, rfl, by (first | (refine rwG hk3.symm ?_; try (with_reducible rfl)) | rw [← hk3])⟩
  · intro C es i j hj τ hi hx
    have hj' : j < (octs ([s0, s1].getD i 0)).length := by simpa using hj
    have hx : (("octet" : Str), I (((octs ([s0, s1].getD i 0)).getD j 0 : Nat) : Int)) ∈ es := by rw [← nvs_at _ j hj]; exact hx
    have hlt := octs_lt _ _ (getD_mem hj')
    refine EV_CallN (by rfl) ?_; refine EV_builtin F.bChr (by rfl) (by kernel_rfl) (by kernel_rfl) (by rfl) (by rfl) ?_; refine ⟨rfl, ?_⟩
    refine ES_con (by rfl) ?_
    refine EV_loc (by kernel_rfl) (.head _) hx ?_
    refine ES_nil ?_
    refine ⟨KP_builtin, CW_chr (by (first | lia | omega)) (by (first | lia | omega)) ?_⟩
    exact ⟨by rw [Int.toNat_natCast], rfl⟩
  · intro D R
    refine ST_loc (by kernel_rfl) (.there (.here)) (by tm_at "Mp") ?_
    rw [show [I (s0 : Int), I (s1 : Int)].length = 2 from rfl, hac 2 (Nat.le_refl _)]
    refine ⟨_, ?_, q D⟩
    rw [show ((([s0, s1].take 2).map octs).flatten) = octs s0 ++ octs s1 by simp]
    exact (.take (.there (.here)) (.take (.there (.here)) (.take (.there (.here)) (.take (.there (.here)) (.take (.there (.here)) (.take (.here) (.refl)))))))
end
theorem flat_rep (n c : Nat) : (List.replicate n [T [c]]).flatten = chs (List.replicate n c) := by
  induction n with
  | zero => rfl
  | succ n ih => rw [List.replicate_succ, List.flatten_cons, ih]; rfl
section
variable {X : Cx} {A : Around} {σ : Hp} {E : Value → Shared → Prop} {env : Env}
theorem law_47 (F : Facts X) {L wc sc tc dc fl as an a1 am ad : Addr} {cd : Value} {d0 d1 d2 : Nat} {msg : List Nat} {rest : List Stmt} (b0 : d0 < 4) (b1 : d1 < 4) (b2 : d2 < 4) (zm : msg.length < 900) (hm : (am, AO.seq "list" (chs msg)) ∈ σ) (hd : (ad, AO.seq "list" [I (d0 : Int), I (d1 : Int), I (d2 : Int)]) ∈ σ) {n : Nat} (rm : Rm (n + 8) A) {Q : Flow → Hp → Prop}
    (q : ∀ asl asg, XS X A (fenv (scOf (topSt 22)) L [(("wire" : Str), wc), (("signs" : Str), sc), (("top" : Str), tc), (("delays" : Str), dc)] (nmOf (topSt 22)) fl cd) F0 rest (((fenv (scOf (topSt 22)) L [(("wire" : Str), wc), (("signs" : Str), sc), (("top" : Str), tc), (("delays" : Str), dc)] (nmOf (topSt 22)) fl cd).locals, .ns (lw6 as an a1 am (msg.length + max (max d0 d1) d2) asl)) :: lc4 wc sc tc dc none (some (.ref asg)) (some (I ((max (max d0 d1) d2 : Nat) : Int))) (some (.ref ad)) ((asl, .seq "list" (chs (sendL (msg ++ List.replicate (max (max d0 d1) d2) 64) (List.replicate d0 64) (List.replicate d1 64) (List.replicate d2 64)))) :: (asg, .seq "list" (chs (List.replicate (max (max d0 d1) d2) 64 ++ msg))) :: σ)) Q) :
    XS X A (fenv (scOf (topSt 22)) L [(("wire" : Str), wc), (("signs" : Str), sc), (("top" : Str), tc), (("delays" : Str), dc)] (nmOf (topSt 22)) fl cd) F0 (nthSt (bodyOf (topSt 22)) 4 :: nthSt (bodyOf (topSt 22)) 5 :: nthSt (bodyOf (topSt 22)) 6 :: nthSt (bodyOf (topSt 22)) 7 :: rest) (((fenv (scOf (topSt 22)) L [(("wire" : Str), wc), (("signs" : Str), sc), (("top" : Str), tc), (("delays" : Str), dc)] (nmOf (topSt 22)) fl cd).locals, .ns (lw4 as an a1 am)) :: lc4 wc sc tc dc none none none (some (.ref ad)) σ) Q := by
  have hsz := sizeLine_eq
  generalize ht : max (max d0 d1) d2 = top at q ⊢
  have hb : top < 4 := by (first | lia | omega)
  refine XS_cons ?_
  refine EX_Assign (by kernel_rfl) ?_
  refine EV_CallN (by rfl) ?_; refine EV_builtin F.bMax (by rfl) (by kernel_rfl) (by kernel_rfl) (by rfl) (by rfl) ?_; refine ⟨rfl, ?_⟩
  refine ES_con (by rfl) ?_
  refine EV_cell (c := dc) rfl (by kernel_rfl) (by kernel_rfl) (by kernel_rfl) (by kernel_rfl) me4 ?_
  refine ES_nil ?_
  refine ⟨KP_builtin, CW_max1 (ns := [(d0 : Int), (d1 : Int), (d2 : Int)]) rm.handled (.tail _ (.tail _ (.tail _ (.tail _ (.tail _ hd))))) (by simp) ?_⟩
  ((first | (refine rwG maxI3 ?_; try (with_reducible rfl)) | rw [maxI3]); (first | (refine rwG ht ?_; try (with_reducible rfl)) | rw [ht]))
  refine ST_cell rfl (by kernel_rfl) (by kernel_rfl) (.there (.there (.there (.here)))) ?_
  refine XS_cons ?_
  refine EX_Assign (by kernel_rfl) ?_
  refine EV_BinOp ?_
  refine EV_CallN (by rfl) ?_; refine EV_builtin F.bLen (by rfl) (by kernel_rfl) (by kernel_rfl) (by rfl) (by rfl) ?_; refine ⟨rfl, ?_⟩
  refine ES_con (by rfl) ?_
  refine EV_loc (by kernel_rfl) (.head _) me3 ?_
  refine ES_nil ?_
  refine ⟨KP_builtin, CW_lenl (.tail _ (.tail _ (.tail _ (.tail _ (.tail _ hm))))) (by simp; (first | lia | omega)) ?_⟩
  refine EV_cell (c := tc) rfl (by kernel_rfl) (by kernel_rfl) (by kernel_rfl) (by kernel_rfl) me3 ?_
  refine BIN_add ?_
  rw [show (((chs msg).length : Nat) : Int) + (top : Int) = ((msg.length + top : Nat) : Int) by simp]
  refine ST_loc (by kernel_rfl) .here (by tm_at "Mp") ?_
  refine XS_cons ?_
  refine EX_Assign (by kernel_rfl) ?_
  refine EV_BinOp (EV_BinOp ?_)
  refine EV_List ?_
  refine ES_con (by rfl) ?_
  refine EV_txt [64] (by kernel_rfl) ?_
  refine ES_nil ?_
  refine ⟨by simp; (first | lia | omega), fun b1 => ?_⟩
  refine EV_cell (c := tc) rfl (by kernel_rfl) (by kernel_rfl) (by kernel_rfl) (by kernel_rfl) me4 ?_
  refine BIN_mull (.head _) (by (first | lia | omega)) (by simp; (first | lia | omega)) fun b2 => ?_
  rw [Int.toNat_natCast, flat_rep]
  refine EV_loc (by kernel_rfl) me2 me3 ?_
  refine BIN_addl (.head _) (.tail _ (.tail _ (.tail _ (.tail _ (.tail _ (.tail _ (.tail _ hm))))))) (by simp; (first | lia | omega)) fun asg => ?_
  rw [show chs (List.replicate top 64) ++ chs msg = chs (List.replicate top 64 ++ msg) by simp [chs]]
  refine ST_cell rfl (by kernel_rfl) (by kernel_rfl) (.there (.there (.there (.there (.there (.here)))))) ?_
  refine W_pick (σ' := ((fenv (scOf (topSt 22)) L [(("wire" : Str), wc), (("signs" : Str), sc), (("top" : Str), tc), (("delays" : Str), dc)] (nmOf (topSt 22)) fl cd).locals, .ns [(("script" : Str), .ref as), (("numbers" : Str), .ref an), (("sent" : Str), .ref a1), (("message" : Str), .ref am), (("turns" : Str), I ((msg.length + top : Nat) : Int))]) :: lc4 wc sc tc dc none (some (.ref asg)) (some (I (top : Int))) (some (.ref ad)) ((asg, .seq "list" (chs (List.replicate top 64 ++ msg))) :: σ)) (.take (.there (.there (.there (.here)))) (.take (.there (.there (.there (.here)))) (.take (.there (.there (.there (.here)))) (.take (.there (.there (.there (.here)))) (.take (.there (.there (.there (.here)))) (.take (.here) (.drop (.drop (.refl))))))))) ?_
  refine XS_cons ?_
  refine EX_Assign (by kernel_rfl) ?_
  refine EV_CallN (by rfl) ?_; refine EV_global F.dSent.glob (by rfl) (by kernel_rfl) (by kernel_rfl) (by rfl) ?_; refine ⟨rfl, ?_⟩
  refine ES_con (by rfl) ?_
  refine EV_BinOp ?_
  refine EV_loc (by kernel_rfl) (.head _) me3 ?_
  refine EV_BinOp ?_
  refine EV_List ?_
  refine ES_con (by rfl) ?_
  refine EV_txt [64] (by kernel_rfl) ?_
  refine ES_nil ?_
  refine ⟨by simp; (first | lia | omega), fun b3 => ?_⟩
  refine EV_cell (c := tc) rfl (by kernel_rfl) (by kernel_rfl) (by kernel_rfl) (by kernel_rfl) me4 ?_
  refine BIN_mull (.head _) (by (first | lia | omega)) (by simp; (first | lia | omega)) fun b4 => ?_
  rw [Int.toNat_natCast, flat_rep]
  refine BIN_addl (.tail _ (.tail _ (.tail _ (.tail _ (.tail _ (.tail _ (.tail _ (.tail _ hm)))))))) (.head _) (by simp; (first | lia | omega)) fun b5 => ?_
  rw [show chs msg ++ chs (List.replicate top 64) = chs (msg ++ List.replicate top 64) by simp [chs]]
  refine ES_con (by rfl) ?_
  refine EV_cell (c := dc) rfl (by kernel_rfl) (by kernel_rfl) (by kernel_rfl) (by kernel_rfl) me7 ?_
  refine ES_nil ?_
  refine ⟨KP_base F.dSent.bf.kp, CW_use (c_sent F (.head _) (.tail _ (.tail _ (.tail _ (.tail _ (.tail _ (.tail _ (.tail _ (.tail _ (.tail _ hd))))))))) (by (first | lia | omega)) (by (first | lia | omega)) (by (first | lia | omega)) (by simp; (first | lia | omega)) rm).any ?_⟩
  rintro v σ' ⟨asl, rfl, rfl⟩
  refine ST_loc (by kernel_rfl) (.there (.there (.there (.there (.here))))) (by tm_at "Mp") ?_
  refine W_pick ?_ (q asl asg)
  exact (.take (.there (.there (.there (.there (.here))))) (.take (.there (.there (.there (.there (.here))))) (.take (.there (.there (.there (.there (.here))))) (.take (.there (.there (.there (.there (.here))))) (.take (.there (.there (.there (.there (.here))))) (.take (.here) (.drop (.drop (.drop (.refl))))))))))
end
noncomputable def slotAt (signs : List Nat) (top d0 d1 d2 : Nat) (k : Nat) : Nat := (signs ++ List.replicate top 64).getD (top + k / 3 - [d0, d1, d2].getD (k % 3) 0) 0
theorem chs_at {l : List Nat} {i : Nat} (h : i < l.length) : (chs l)[i]? = some (T [l.getD i 0]) := by
  simp [chs, h]
section
variable {X : Cx} {A : Around} {σ : Hp} {E : Value → Shared → Prop} {env : Env}
theorem law_8 (F : Facts X) {L wc sc tc dc fl as an a1 am ad asl asg : Addr} {cd : Value} {vw : Option Value} {d0 d1 d2 top tn : Nat} {signs slots : List Nat} (b0 : d0 ≤ top) (b1 : d1 ≤ top) (b2 : d2 ≤ top) (ht : top < 4) (zs : signs.length = tn) (ztn : tn < 900) (hl : (asl, AO.seq "list" (chs slots)) ∈ σ) (hg : (asg, AO.seq "list" (chs signs)) ∈ σ) (hd : (ad, AO.seq "list" [I (d0 : Int), I (d1 : Int), I (d2 : Int)]) ∈ σ)
    (h128 : ∀ c ∈ slots, c < 128) (heq : slots = (List.range (3 * tn)).map (slotAt signs top d0 d1 d2)) {n : Nat} (rm : Rm (n + 1) A) {Q : Flow → Hp → Prop}
    (q : Q .next (((fenv (scOf (topSt 22)) L [(("wire" : Str), wc), (("signs" : Str), sc), (("top" : Str), tc), (("delays" : Str), dc)] (nmOf (topSt 22)) fl cd).locals, .ns (lw6 as an a1 am tn asl)) :: lc4 wc sc tc dc vw (some (.ref asg)) (some (I (top : Int))) (some (.ref ad)) σ)) :
    EX X A (fenv (scOf (topSt 22)) L [(("wire" : Str), wc), (("signs" : Str), sc), (("top" : Str), tc), (("delays" : Str), dc)] (nmOf (topSt 22)) fl cd) F0 (nthSt (bodyOf (topSt 22)) 8) (((fenv (scOf (topSt 22)) L [(("wire" : Str), wc), (("signs" : Str), sc), (("top" : Str), tc), (("delays" : Str), dc)] (nmOf (topSt 22)) fl cd).locals, .ns (lw6 as an a1 am tn asl)) :: lc4 wc sc tc dc vw (some (.ref asg)) (some (I (top : Int))) (some (.ref ad)) σ) Q := by
  have hsz := sizeLine_eq
  refine EX_If ?_
  refine TE_Cmp (by kernel_rfl) ?_
  refine EV_loc (by kernel_rfl) (.head _) me5 ?_
  refine EV_CompJ [(("top" : Str), tc), (("signs" : Str), sc), (("delays" : Str), dc)] ⟨by kernel_rfl, rfl, by decide +kernel, by decide +kernel⟩ (fun _ => by rfl) ?_
  refine EV_CallN (by rfl) ?_; refine EV_builtin F.bRange (by rfl) (by kernel_rfl) (by kernel_rfl) (by rfl) (by rfl) ?_; refine ⟨rfl, ?_⟩
  refine ES_con (by rfl) ?_
  refine EV_BinOp ?_
  refine EV_int ?_
  refine EV_loc (by kernel_rfl) (.head _) me4 ?_
  refine BIN_mul (IntMulOk.of_left (by decide)) ?_
  rw [show (3 : Int) * (tn : Int) = ((3 * tn : Nat) : Int) by (first | lia | omega)]
  refine ES_nil ?_
  refine ⟨KP_type, CW_range1 fun r => ?_⟩
  refine srcJ_range (r := r) (a := 0) (b := ((3 * tn : Nat) : Int)) (c := 1) (n := 3 * tn) rm.handled rfl (by kernel_rfl) (fun i ys τ => ys = (List.range i).map (fun k => T [slotAt signs top d0 d1 d2 k]) ∧ τ = (r, .rng 0 ((3 * tn : Nat) : Int) 1) :: ((fenv (scOf (topSt 22)) L [(("wire" : Str), wc), (("signs" : Str), sc), (("top" : Str), tc), (("delays" : Str), dc)] (nmOf (topSt 22)) fl cd).locals, .ns (lw6 as an a1 am tn asl)) :: lc4 wc sc tc dc vw (some (.ref asg)) (some (I (top : Int))) (some (.ref ad)) σ) (.head _) (small_n (by (first | lia | omega))) (size_n _) (by (first | lia | omega)) ⟨rfl, rfl⟩ ?_ ?_
  · rintro C R i hi ys τ ⟨rfl, rfl⟩ hly
    rw [show (0 : Int) + (i : Int) * 1 = (i : Int) by (first | lia | omega)]
    have hi3 : i % 3 < 3 := Nat.mod_lt _ (by decide)
    have hd3 : ∃ d, [d0, d1, d2].getD (i % 3) 0 = d ∧ d ≤ top ∧ ([I (d0 : Int), I (d1 : Int), I (d2 : Int)])[i % 3]? = some (I (d : Int)) := by
      match i % 3, hi3 with
      | 0, _ => exact ⟨d0, rfl, b0, rfl⟩
      | 1, _ => exact ⟨d1, rfl, b1, rfl⟩
      | 2, _ => exact ⟨d2, rfl, b2, rfl⟩
    obtain ⟨d, hd1, hd2, hd3⟩ := hd3
    refine EV_Sub ?_
    refine EV_BinOp ?_
    refine EV_cell (c := sc) (v := .ref asg) rfl (by kernel_rfl) (by kernel_rfl) (by kernel_rfl) (by kernel_rfl) me4 ?_
    refine EV_BinOp ?_
    refine EV_List ?_
    refine ES_con (by rfl) ?_
    refine EV_txt [64] (by kernel_rfl) ?_
    refine ES_nil ?_
    refine ⟨by simp; (first | lia | omega), fun b1 => ?_⟩
    refine EV_cell (c := tc) (v := I (top : Int)) rfl (by kernel_rfl) (by kernel_rfl) (by kernel_rfl) (by kernel_rfl) me6 ?_
    refine BIN_mull (.head _) (by (first | lia | omega)) (by simp; (first | lia | omega)) fun b2 => ?_
    rw [Int.toNat_natCast, flat_rep]
    refine BIN_addl (.tail _ (.tail _ (.tail _ (List.mem_append_left _ (.tail _ (.tail _ (.tail _ (.tail _ (.tail _ (.tail _ hg)))))))))) (.head _) (by simp; (first | lia | omega)) fun b3 => ?_
    rw [show chs signs ++ chs (List.replicate top 64) = chs (signs ++ List.replicate top 64) by simp [chs]]
    refine EV_BinOp (EV_BinOp ?_)
    refine EV_cell (c := tc) (v := I (top : Int)) rfl (by kernel_rfl) (by kernel_rfl) (by kernel_rfl) (by kernel_rfl) me8 ?_
    refine EV_BinOp ?_
    refine EV_loc (by kernel_rfl) me3 (.head _) ?_
    refine EV_int ?_
    refine BIN_divN i 3 (by decide) (by decide) ?_
    refine BIN_add ?_
    refine EV_Sub ?_
    refine EV_cell (c := dc) (v := .ref ad) rfl (by kernel_rfl) (by kernel_rfl) (by kernel_rfl) (by kernel_rfl) me9 ?_
    refine EV_BinOp ?_
    refine EV_loc (by kernel_rfl) me3 (.head _) ?_
    refine EV_int ?_
    refine BIN_modN i 3 (by decide) ?_
    have hdm : (ad, AO.seq "list" [I (d0 : Int), I (d1 : Int), I (d2 : Int)]) ∈ ((b3, AO.seq "list" (chs (signs ++ List.replicate top 64))) :: (b2, AO.seq "list" (chs (List.replicate top 64))) :: (b1, AO.seq "list" [T [64]]) :: (C, AO.ns [(Str.ofString "k", I (i : Int))]) :: (((r, AO.rng 0 ((3 * tn : Nat) : Int) 1) :: ((fenv (scOf (topSt 22)) L [(("wire" : Str), wc), (("signs" : Str), sc), (("top" : Str), tc), (("delays" : Str), dc)] (nmOf (topSt 22)) fl cd).locals, AO.ns (lw6 as an a1 am tn asl)) :: lc4 wc sc tc dc vw (some (.ref asg)) (some (I (top : Int))) (some (.ref ad)) σ) ++ R)) :=
      .tail _ (.tail _ (.tail _ (.tail _ (List.mem_append_left _ (.tail _ (.tail _ (.tail _ (.tail _ (.tail _ (.tail _ hd))))))))))
    refine SUB_list hdm (GI_list (v := I (d : Int)) hdm (by (first | lia | omega)) (by rw [Int.toNat_natCast]; exact hd3) (by simp; (first | lia | omega)) ?_)
    refine BIN_sub ?_
    have hidx : (top : Int) + ((i / 3 : Nat) : Int) - (d : Int) = ((top + i / 3 - d : Nat) : Int) := by (first | lia | omega)
    (first | (refine rwG hidx ?_; try (with_reducible rfl)) | rw [hidx])
    have hlen : (signs ++ List.replicate top 64).length = tn + top := by simp [zs]
    have hlt : top + i / 3 - d < (signs ++ List.replicate top 64).length := by (first | (refine rwG hlen ?_; try (with_reducible rfl)) | rw [hlen]); (first | lia | omega)
    refine SUB_list (.head _) (GI_list (v := T [slotAt signs top d0 d1 d2 i]) (.head _) (by (first | lia | omega)) ?_ (by simp; (first | lia | omega)) ?_)
    · rw [Int.toNat_natCast]
      unfold slotAt
      (first | (refine rwG hd1 ?_; try (with_reducible rfl)) | rw [hd1])
      exact chs_at hlt
    refine ⟨_, .drop (.drop (.drop .refl)), ?_, rfl⟩
    rw [List.range_succ, List.map_append]; rfl
  · rintro D ys τ ⟨rfl, rfl⟩ hly
    have e1 : ((List.range (3 * tn)).map fun k => T [slotAt signs top d0 d1 d2 k]) = (slots.map fun c => [c]).map T := by (first | (refine rwG heq ?_; try (with_reducible rfl)) | rw [heq]); simp
    (first | (refine rwG e1 ?_; try (with_reducible rfl)) | rw [e1])
    refine CMP_neT (xs := slots.map fun c => [c]) (ys := slots.map fun c => [c]) rm (.tail _ (.tail _ (.tail _ (.tail _ (.tail _ (.tail _ (.tail _ (by (first | (refine rwG chs_eq.symm ?_; try (with_reducible rfl)) | rw [← chs_eq]); exact hl)))))))) (.head _) (lowT_chs h128) (lowT_chs h128) ?_
    refine TRU_bool ?_
    (first | refine ifN (by simp) ?_ | rw [if_neg (by simp)])
    exact W_pick (.drop (.drop .refl)) (XS_nil q)
end
noncomputable def vsOf (d0 d1 d2 : Nat) : Nat → Int × Int × Int
  | 0 => (((3 * ((d0 : Int) - d1) + 0 - 1).natAbs : Nat), 0, 1)
  | 1 => (((3 * ((d0 : Int) - d2) + 0 - 2).natAbs : Nat), 0, 2)
  | _ => (((3 * ((d1 : Int) - d2) + 1 - 2).natAbs : Nat), 1, 2)
noncomputable def bestOf (d0 d1 d2 : Nat) : Nat := argBest (fun i j => lt3 (vsOf d0 d1 d2 i) (vsOf d0 d1 d2 j)) 2
noncomputable def roomOf (d0 d1 d2 : Nat) : Nat := (vsOf d0 d1 d2 (bestOf d0 d1 d2)).1.toNat
noncomputable def oneOf (d0 d1 d2 : Nat) : Nat := (vsOf d0 d1 d2 (bestOf d0 d1 d2)).2.1.toNat
noncomputable def otherOf (d0 d1 d2 : Nat) : Nat := (vsOf d0 d1 d2 (bestOf d0 d1 d2)).2.2.toNat
theorem vsOf_nat (d0 d1 d2 k : Nat) : (vsOf d0 d1 d2 k).1 = (((vsOf d0 d1 d2 k).1.toNat : Nat) : Int) ∧ (vsOf d0 d1 d2 k).2.1 = (((vsOf d0 d1 d2 k).2.1.toNat : Nat) : Int) ∧ (vsOf d0 d1 d2 k).2.2 = (((vsOf d0 d1 d2 k).2.2.toNat : Nat) : Int) := by
  match k with
  | 0 => exact ⟨rfl, rfl, rfl⟩
  | 1 => exact ⟨rfl, rfl, rfl⟩
  | k + 2 => exact ⟨rfl, rfl, rfl⟩
noncomputable def tl3 (vs : Nat → Int × Int × Int) : List Addr → Hp → Hp
  | [], σ => σ
  | t :: r, σ => (t, .seq "tuple" [I (vs r.length).1, I (vs r.length).2.1, I (vs r.length).2.2]) :: tl3 vs r σ
theorem tl3_mem {vs : Nat → Int × Int × Int} {σ : Hp} {x : Addr × AO} (h : x ∈ σ) : ∀ r : List Addr, x ∈ tl3 vs r σ
  | [] => h
  | _ :: r => .tail _ (tl3_mem h r)
section
variable {X : Cx} {A : Around} {σ : Hp} {E : Value → Shared → Prop} {env : Env}
theorem AE_three {env : Env} {a b c : Expr} {u v w : Value} {Q : Hp → Prop} (h : AS X A env E a u σ (fun σ' => AS X A env E b v σ' (fun σ'' => AS X A env E c w σ'' Q))) : AE X A env E [a, b, c] [u, v, w] σ Q := h
noncomputable abbrev lw9 (as an a1 am : Addr) (tn : Nat) (asl : Addr) (room one other : Nat) : List (Str × Value) := [(("script" : Str), .ref as), (("numbers" : Str), .ref an), (("sent" : Str), .ref a1), (("message" : Str), .ref am), (("turns" : Str), I (tn : Int)), (("slots" : Str), .ref asl), (("room" : Str), I (room : Int)), (("one" : Str), I (one : Int)), (("other" : Str), I (other : Int))]
inductive BaseI (d0 d1 d2 : Nat) (base : Hp) (i : Nat) (ys : List Value) (τ : Hp) : Prop
  | mk (ts : List Addr) (e1 : ts.length = i) (e2 : ys = ts.reverse.map (fun t => .ref t)) (e3 : τ = tl3 (vsOf d0 d1 d2) ts base)
set_option maxHeartbeats 4000000 in
theorem law_9 (F : Facts X) {L wc sc tc dc fl as an a1 am ad asl asg : Addr} {cd : Value} {vw vs vt : Option Value} {d0 d1 d2 tn : Nat} {rest : List Stmt} (b0 : d0 < 4) (b1 : d1 < 4) (b2 : d2 < 4) (hd : (ad, AO.seq "list" [I (d0 : Int), I (d1 : Int), I (d2 : Int)]) ∈ σ) {n : Nat} (rm : Rm (n + 1) A) {Q : Flow → Hp → Prop}
    (q : XS X A (fenv (scOf (topSt 22)) L [(("wire" : Str), wc), (("signs" : Str), sc), (("top" : Str), tc), (("delays" : Str), dc)] (nmOf (topSt 22)) fl cd) F0 rest (((fenv (scOf (topSt 22)) L [(("wire" : Str), wc), (("signs" : Str), sc), (("top" : Str), tc), (("delays" : Str), dc)] (nmOf (topSt 22)) fl cd).locals, .ns (lw9 as an a1 am tn asl (roomOf d0 d1 d2) (oneOf d0 d1 d2) (otherOf d0 d1 d2))) :: lc4 wc sc tc dc vw vs vt (some (.ref ad)) σ) Q) :
    XS X A (fenv (scOf (topSt 22)) L [(("wire" : Str), wc), (("signs" : Str), sc), (("top" : Str), tc), (("delays" : Str), dc)] (nmOf (topSt 22)) fl cd) F0 (nthSt (bodyOf (topSt 22)) 9 :: rest) (((fenv (scOf (topSt 22)) L [(("wire" : Str), wc), (("signs" : Str), sc), (("top" : Str), tc), (("delays" : Str), dc)] (nmOf (topSt 22)) fl cd).locals, .ns (lw6 as an a1 am tn asl)) :: lc4 wc sc tc dc vw vs vt (some (.ref ad)) σ) Q := by
  have hsz := sizeLine_eq
  refine XS_cons ?_
  refine EX_AssignTuple (by rfl) (by kernel_rfl) ?_
  refine EV_CallN (by rfl) ?_; refine EV_builtin F.bMin (by rfl) (by kernel_rfl) (by kernel_rfl) (by rfl) (by rfl) ?_; refine ⟨rfl, ?_⟩
  refine ES_con (by rfl) ?_
  refine EV_CompJ [(("delays" : Str), dc)] ⟨by kernel_rfl, rfl, by decide +kernel, by decide +kernel⟩ (fun _ => by rfl) ?_
  refine EV_List ?_
  refine ES_con (by rfl) (EV_Tuple ?_)
  tm_at "Mgo"
  refine ⟨by simp; (first | lia | omega), fun u0 => ?_⟩
  refine ES_con (by rfl) (EV_Tuple ?_)
  tm_at "Mgo"
  refine ⟨by simp; (first | lia | omega), fun u1 => ?_⟩
  refine ES_con (by rfl) (EV_Tuple ?_)
  tm_at "Mgo"
  refine ⟨by simp; (first | lia | omega), fun u2 => ?_⟩
  refine ES_nil ?_
  refine ⟨by simp; (first | lia | omega), fun ul => ?_⟩
  let base : Hp := (ul, .seq "list" [.ref u0, .ref u1, .ref u2]) :: (u2, .seq "tuple" [I 1, I 2]) :: (u1, .seq "tuple" [I 0, I 2]) :: (u0, .seq "tuple" [I 0, I 1]) :: ((fenv (scOf (topSt 22)) L [(("wire" : Str), wc), (("signs" : Str), sc), (("top" : Str), tc), (("delays" : Str), dc)] (nmOf (topSt 22)) fl cd).locals, .ns (lw6 as an a1 am tn asl)) :: lc4 wc sc tc dc vw vs vt (some (.ref ad)) σ
  refine srcJ_tup2 (l := ul) (xs := [.ref u0, .ref u1, .ref u2]) (a := fun k => [I 0, I 0, I 1].getD k .none) (b := fun k => [I 1, I 2, I 2].getD k .none) rm.handled rfl (by kernel_rfl) (by kernel_rfl) (by decide +kernel) (BaseI d0 d1 d2 base) ?_ (by simp; (first | lia | omega)) ⟨[], rfl, rfl, rfl⟩ ?_ ?_
  · rintro i ys τ ⟨ts, _, _, rfl⟩
    refine ⟨tl3_mem (.head _) _, fun k hk => ?_⟩
    match k, hk with
    | 0, _ => exact ⟨u0, rfl, tl3_mem me3 _⟩
    | 1, _ => exact ⟨u1, rfl, tl3_mem me2 _⟩
    | 2, _ => exact ⟨u2, rfl, tl3_mem me1 _⟩
  · rintro C R i hi ys τ ⟨ts, hts, rfl, rfl⟩ hl
    have hdm : (ad, AO.seq "list" [I (d0 : Int), I (d1 : Int), I (d2 : Int)]) ∈ ((C, AO.ns [(Str.ofString "i", [I 0, I 0, I 1].getD i .none), (Str.ofString "j", [I 1, I 2, I 2].getD i .none)]) :: (tl3 (vsOf d0 d1 d2) ts base ++ R)) :=
      .tail _ (List.mem_append_left _ (tl3_mem (.tail _ (.tail _ (.tail _ (.tail _ (.tail _ (.tail _ (.tail _ (.tail _ (.tail _ hd))))))))) _))
    have hdc : (dc, AO.cell (some (.ref ad))) ∈ ((C, AO.ns [(Str.ofString "i", [I 0, I 0, I 1].getD i .none), (Str.ofString "j", [I 1, I 2, I 2].getD i .none)]) :: (tl3 (vsOf d0 d1 d2) ts base ++ R)) :=
      .tail _ (List.mem_append_left _ (tl3_mem me8 _))
    have hv : ∃ (p q : Nat) (dp dq : Nat), [I 0, I 0, I 1].getD i .none = I (p : Int) ∧ [I 1, I 2, I 2].getD i .none = I (q : Int) ∧ [I (d0 : Int), I (d1 : Int), I (d2 : Int)][p]? = some (I (dp : Int)) ∧ [I (d0 : Int), I (d1 : Int), I (d2 : Int)][q]? = some (I (dq : Int)) ∧
        vsOf d0 d1 d2 i = ((((3 * ((dp : Int) - dq) + p - q).natAbs : Nat) : Int), (p : Int), (q : Int)) := by
      match i, hi with
      | 0, _ => exact ⟨0, 1, d0, d1, rfl, rfl, rfl, rfl, rfl⟩
      | 1, _ => exact ⟨0, 2, d0, d2, rfl, rfl, rfl, rfl, rfl⟩
      | 2, _ => exact ⟨1, 2, d1, d2, rfl, rfl, rfl, rfl, rfl⟩
    obtain ⟨p, q, dp, dq, e1, e2, e3, e4, e5⟩ := hv
    rw [e1, e2] at hdm hdc
    ((first | (refine rwG e1 ?_; try (with_reducible rfl)) | rw [e1]); (first | (refine rwG e2 ?_; try (with_reducible rfl)) | rw [e2]))
    refine EV_Tuple ?_
    refine ES_con (by rfl) ?_
    refine EV_CallN (by rfl) ?_; refine EV_builtin F.bAbs (by rfl) (by kernel_rfl) (by kernel_rfl) (by rfl) (by rfl) ?_; refine ⟨rfl, ?_⟩
    refine ES_con (by rfl) ?_
    refine EV_BinOp (EV_BinOp (EV_BinOp ?_))
    refine EV_int ?_
    refine EV_BinOp ?_
    refine EV_Sub ?_
    refine EV_cell (c := dc) (v := .ref ad) rfl (by kernel_rfl) (by kernel_rfl) (by kernel_rfl) (by kernel_rfl) hdc ?_
    refine EV_loc (by kernel_rfl) (.head _) (.head _) ?_
    refine SUB_list hdm (GI_list hdm (by (first | lia | omega)) (by rw [Int.toNat_natCast]; exact e3) (by simp; (first | lia | omega)) ?_)
    refine EV_Sub ?_
    refine EV_cell (c := dc) (v := .ref ad) rfl (by kernel_rfl) (by kernel_rfl) (by kernel_rfl) (by kernel_rfl) hdc ?_
    refine EV_loc (by kernel_rfl) (.head _) me1 ?_
    refine SUB_list hdm (GI_list hdm (by (first | lia | omega)) (by rw [Int.toNat_natCast]; exact e4) (by simp; (first | lia | omega)) ?_)
    refine BIN_sub ?_
    refine BIN_mul (IntMulOk.of_left (by decide)) ?_
    refine EV_loc (by kernel_rfl) (.head _) (.head _) ?_
    refine BIN_add ?_
    refine EV_loc (by kernel_rfl) (.head _) me1 ?_
    refine BIN_sub ?_
    refine ES_nil ?_
    refine ⟨KP_builtin, CW_abs ?_⟩
    refine ES_con (by rfl) ?_
    refine EV_loc (by kernel_rfl) (.head _) (.head _) ?_
    refine ES_con (by rfl) ?_
    refine EV_loc (by kernel_rfl) (.head _) me1 ?_
    refine ES_nil ?_
    refine ⟨by simp; (first | lia | omega), fun t => ?_⟩
    refine ⟨tl3 (vsOf d0 d1 d2) (t :: ts) base, ?_, t :: ts, by simp [hts], by simp, rfl⟩
    have : tl3 (vsOf d0 d1 d2) (t :: ts) base = (t, .seq "tuple" [I (((3 * ((dp : Int) - dq) + p - q).natAbs : Nat) : Int), I (p : Int), I (q : Int)]) :: tl3 (vsOf d0 d1 d2) ts base := by
      show (t, AO.seq "tuple" [I (vsOf d0 d1 d2 ts.length).1, I (vsOf d0 d1 d2 ts.length).2.1, I (vsOf d0 d1 d2 ts.length).2.2]) :: _ = _
      ((first | (refine rwG hts ?_; try (with_reducible rfl)) | rw [hts]); (first | (refine rwG e5 ?_; try (with_reducible rfl)) | rw [e5]))
    (first | (refine rwG this ?_; try (with_reducible rfl)) | rw [this])
    exact (.take (.there (.here)) (.refl))
  · rintro D ys τ ⟨ts, hts, rfl, rfl⟩ hl
    obtain ⟨t2, t1, t0, rfl⟩ := len3 hts
    refine ES_nil ?_
    refine ⟨KP_builtin, CW_min3 (l := D) (t0 := t0) (t1 := t1) (t2 := t2) (vs := vsOf d0 d1 d2) rm (.head _) me3 me2 me1 ?_⟩
    have hk : bestOf d0 d1 d2 ≤ 2 := argBest_le _ _
    have hb : argBest (fun i j => lt3 (vsOf d0 d1 d2 i) (vsOf d0 d1 d2 j)) 2 = bestOf d0 d1 d2 := rfl
    (first | (refine rwG hb ?_; try (with_reducible rfl)) | rw [hb])
    obtain ⟨w1, w2, w3⟩ := vsOf_nat d0 d1 d2 (bestOf d0 d1 d2)
    have hmem : ([t0, t1, t2].getD (bestOf d0 d1 d2) 0, AO.seq "tuple" [I ((roomOf d0 d1 d2 : Nat) : Int), I ((oneOf d0 d1 d2 : Nat) : Int), I ((otherOf d0 d1 d2 : Nat) : Int)]) ∈ ((D, AO.seq "list" ([t2, t1, t0].reverse.map fun t => .ref t)) :: tl3 (vsOf d0 d1 d2) [t2, t1, t0] base) := by
      unfold roomOf oneOf otherOf
      ((first | (refine rwG w1.symm ?_; try (with_reducible rfl)) | rw [← w1]); (first | (refine rwG w2.symm ?_; try (with_reducible rfl)) | rw [← w2]); (first | (refine rwG w3.symm ?_; try (with_reducible rfl)) | rw [← w3]))
      generalize bestOf d0 d1 d2 = k at hk
      match k, hk with
      | 0, _ => exact me3
      | 1, _ => exact me2
      | 2, _ => exact me1
    refine AS_Tuple rm.handled hmem rfl rfl (AE_three (AS_Name ?_))
    refine ST_loc (by kernel_rfl) (.there (.there (.there (.there (.there (.there (.there (.there (.here))))))))) (by tm_at "Mp") (AS_Name ?_)
    refine ST_loc (by kernel_rfl) (.there (.there (.there (.there (.there (.there (.there (.there (.here))))))))) (by tm_at "Mp") (AS_Name ?_)
    refine ST_loc (by kernel_rfl) (.there (.there (.there (.there (.there (.there (.there (.there (.here))))))))) (by tm_at "Mp") ?_
    exact W_pick (.take (.there (.there (.there (.there (.there (.there (.there (.there (.here))))))))) (.take (.there (.there (.there (.there (.there (.there (.there (.there (.here))))))))) (.take (.there (.there (.there (.there (.there (.there (.there (.there (.here))))))))) (.take (.there (.there (.there (.there (.there (.there (.there (.there (.here))))))))) (.take (.there (.there (.there (.there (.there (.there (.there (.there (.here))))))))) (.drop (.drop (.drop (.drop (.drop (.drop (.drop (.drop (.refl)))))))))))))) q
end
noncomputable def chgd (signs : List Nat) (k g : Nat) : List Nat := signs.take k ++ [g] ++ signs.drop (k + 1)
noncomputable def beginOf (d0 d1 d2 one other lost : Nat) : Nat := min (3 * (lost + [d0, d1, d2].getD one 0) + one) (3 * (lost + [d0, d1, d2].getD other 0) + other)
theorem d3_at (d0 d1 d2 : Nat) {k : Nat} (h : k < 3) : ([I (d0 : Int), I (d1 : Int), I (d2 : Int)])[k]? = some (I (([d0, d1, d2].getD k 0 : Nat) : Int)) := by
  match k, h with
  | 0, _ => rfl
  | 1, _ => rfl
  | 2, _ => rfl
section
variable {X : Cx} {A : Around} {σ : Hp} {E : Value → Shared → Prop} {env : Env}
noncomputable abbrev lw13 (as an a1 am : Addr) (tn : Nat) (asl : Addr) (room one other lost tk bg : Nat) (ac : Addr) : List (Str × Value) := [(("script" : Str), .ref as), (("numbers" : Str), .ref an), (("sent" : Str), .ref a1), (("message" : Str), .ref am), (("turns" : Str), I (tn : Int)), (("slots" : Str), .ref asl), (("room" : Str), I (room : Int)), (("one" : Str), I (one : Int)), (("other" : Str), I (other : Int)), (("lost" : Str), I (lost : Int)), (("taken" : Str), T [tk]), (("begin" : Str), I (bg : Int)), (("changed" : Str), .ref ac)]
set_option maxHeartbeats 4000000 in
theorem law_1013 (F : Facts X) {L wc sc tc dc fl as an a1 am ad asl asg : Addr} {cd : Value} {vw : Option Value} {d0 d1 d2 tn top room one other n0 n1 n2 n3 n4 n5 : Nat} {m signs : List Nat} {rest : List Stmt} (ht : top < 4) (m0 : 0 < m.length) (mz : m.length < 900) (sz : signs.length < 1000) (h1 : one < 3) (h2 : other < 3)
    (hn : (an, AO.seq "list" (nvs [n0, n1, n2, n3, n4, n5])) ∈ σ) (hm : (am, AO.seq "list" (chs m)) ∈ σ) (hg : (asg, AO.seq "list" (chs signs)) ∈ σ)
    (hd : (ad, AO.seq "list" [I (d0 : Int), I (d1 : Int), I (d2 : Int)]) ∈ σ) {n : Nat} (rm : Rm (n + 1) A) {Q : Flow → Hp → Prop}
    (q : ∀ ac, XS X A (fenv (scOf (topSt 22)) L [(("wire" : Str), wc), (("signs" : Str), sc), (("top" : Str), tc), (("delays" : Str), dc)] (nmOf (topSt 22)) fl cd) F0 rest (((fenv (scOf (topSt 22)) L [(("wire" : Str), wc), (("signs" : Str), sc), (("top" : Str), tc), (("delays" : Str), dc)] (nmOf (topSt 22)) fl cd).locals, .ns (lw13 as an a1 am tn asl room one other (n5 % m.length) (n5 / 8 % 128) (beginOf d0 d1 d2 one other (n5 % m.length)) ac)) :: lc4 wc sc tc dc vw (some (.ref asg)) (some (I (top : Int))) (some (.ref ad)) ((ac, .seq "list" (chs (chgd signs (top + n5 % m.length) (n5 / 8 % 128)))) :: σ)) Q) :
    XS X A (fenv (scOf (topSt 22)) L [(("wire" : Str), wc), (("signs" : Str), sc), (("top" : Str), tc), (("delays" : Str), dc)] (nmOf (topSt 22)) fl cd) F0 (nthSt (bodyOf (topSt 22)) 10 :: nthSt (bodyOf (topSt 22)) 11 :: nthSt (bodyOf (topSt 22)) 12 :: nthSt (bodyOf (topSt 22)) 13 :: rest) (((fenv (scOf (topSt 22)) L [(("wire" : Str), wc), (("signs" : Str), sc), (("top" : Str), tc), (("delays" : Str), dc)] (nmOf (topSt 22)) fl cd).locals, .ns (lw9 as an a1 am tn asl room one other)) :: lc4 wc sc tc dc vw (some (.ref asg)) (some (I (top : Int))) (some (.ref ad)) σ) Q := by
  have hsz := sizeLine_eq
  have hm' : ∀ {x : Addr × AO}, x ∈ σ → ∀ es, x ∈ (((fenv (scOf (topSt 22)) L [(("wire" : Str), wc), (("signs" : Str), sc), (("top" : Str), tc), (("delays" : Str), dc)] (nmOf (topSt 22)) fl cd).locals, AO.ns es) :: lc4 wc sc tc dc vw (some (.ref asg)) (some (I (top : Int))) (some (.ref ad)) σ) := fun h _ => .tail _ (.tail _ (.tail _ (.tail _ (.tail _ h))))
  refine XS_cons ?_
  refine EX_Assign (by kernel_rfl) ?_
  refine EV_BinOp ?_
  refine EV_Sub ?_
  refine EV_loc (by kernel_rfl) (.head _) me1 ?_
  refine EV_int ?_
  refine SUB_list (hm' hn _) (GI_list (v := I (n5 : Int)) (hm' hn _) (by decide) rfl (by simp; (first | lia | omega)) ?_)
  refine EV_CallN (by rfl) ?_; refine EV_builtin F.bLen (by rfl) (by kernel_rfl) (by kernel_rfl) (by rfl) (by rfl) ?_; refine ⟨rfl, ?_⟩
  refine ES_con (by rfl) ?_
  refine EV_loc (by kernel_rfl) (.head _) me3 ?_
  refine ES_nil ?_
  refine ⟨KP_builtin, CW_lenl (hm' hm _) (by simp; (first | lia | omega)) ?_⟩
  rw [show ((chs m).length : Int) = (m.length : Int) by simp]
  refine BIN_modN n5 m.length m0 ?_
  refine ST_loc (by kernel_rfl) .here (by tm_at "Mp") ?_
  refine XS_cons ?_
  refine EX_Assign (by kernel_rfl) ?_
  refine EV_CallN (by rfl) ?_; refine EV_builtin F.bChr (by rfl) (by kernel_rfl) (by kernel_rfl) (by rfl) (by rfl) ?_; refine ⟨rfl, ?_⟩
  refine ES_con (by rfl) ?_
  refine EV_BinOp (EV_BinOp ?_)
  refine EV_Sub ?_
  refine EV_loc (by kernel_rfl) (.head _) me1 ?_
  refine EV_int ?_
  refine SUB_list (hm' hn _) (GI_list (v := I (n5 : Int)) (hm' hn _) (by decide) rfl (by simp; (first | lia | omega)) ?_)
  refine EV_int ?_
  refine BIN_divN n5 8 (by decide) (by decide) ?_
  refine EV_int ?_
  refine BIN_modN (n5 / 8) 128 (by decide) ?_
  refine ES_nil ?_
  refine ⟨KP_builtin, CW_chr (by (first | lia | omega)) (by (first | lia | omega)) ?_⟩
  rw [Int.toNat_natCast]
  refine ST_loc (by kernel_rfl) .here (by tm_at "Mp") ?_
  generalize n5 % m.length = lost at q ⊢
  generalize n5 / 8 % 128 = tk at q ⊢
  refine XS_cons ?_
  refine EX_Assign (by kernel_rfl) ?_
  refine EV_CallN (by rfl) ?_; refine EV_builtin F.bMin (by rfl) (by kernel_rfl) (by kernel_rfl) (by rfl) (by rfl) ?_; refine ⟨rfl, ?_⟩
  refine ES_con (by rfl) ?_
  refine EV_BinOp (EV_BinOp ?_)
  refine EV_int ?_
  refine EV_BinOp ?_
  refine EV_loc (by kernel_rfl) (.head _) me9 ?_
  refine EV_Sub ?_
  refine EV_cell (c := dc) (v := .ref ad) rfl (by kernel_rfl) (by kernel_rfl) (by kernel_rfl) (by kernel_rfl) me4 ?_
  refine EV_loc (by kernel_rfl) (.head _) me7 ?_
  refine SUB_list (hm' hd _) (GI_list (hm' hd _) (by (first | lia | omega)) (by rw [Int.toNat_natCast]; exact d3_at d0 d1 d2 h1) (by simp; (first | lia | omega)) ?_)
  refine BIN_add ?_
  refine BIN_mul (IntMulOk.of_left (by decide)) ?_
  refine EV_loc (by kernel_rfl) (.head _) me7 ?_
  refine BIN_add ?_
  refine ES_con (by rfl) ?_
  refine EV_BinOp (EV_BinOp ?_)
  refine EV_int ?_
  refine EV_BinOp ?_
  refine EV_loc (by kernel_rfl) (.head _) me9 ?_
  refine EV_Sub ?_
  refine EV_cell (c := dc) (v := .ref ad) rfl (by kernel_rfl) (by kernel_rfl) (by kernel_rfl) (by kernel_rfl) me4 ?_
  refine EV_loc (by kernel_rfl) (.head _) me8 ?_
  refine SUB_list (hm' hd _) (GI_list (hm' hd _) (by (first | lia | omega)) (by rw [Int.toNat_natCast]; exact d3_at d0 d1 d2 h2) (by simp; (first | lia | omega)) ?_)
  refine BIN_add ?_
  refine BIN_mul (IntMulOk.of_left (by decide)) ?_
  refine EV_loc (by kernel_rfl) (.head _) me8 ?_
  refine BIN_add ?_
  refine ES_nil ?_
  refine ⟨KP_builtin, CW_min2 rm.handled ?_⟩
  rw [show min ((3 : Int) * ((lost : Int) + (([d0, d1, d2].getD one 0 : Nat) : Int)) + (one : Int)) ((3 : Int) * ((lost : Int) + (([d0, d1, d2].getD other 0 : Nat) : Int)) + (other : Int)) = ((beginOf d0 d1 d2 one other lost : Nat) : Int) by unfold beginOf; (first | lia | omega)]
  refine ST_loc (by kernel_rfl) .here (by tm_at "Mp") ?_
  generalize beginOf d0 d1 d2 one other lost = bg at q ⊢
  refine XS_cons ?_
  refine EX_Assign (by kernel_rfl) ?_
  refine EV_BinOp (EV_BinOp ?_)
  refine EV_Sub ?_
  refine EV_cell (c := sc) (v := .ref asg) rfl (by kernel_rfl) (by kernel_rfl) (by kernel_rfl) (by kernel_rfl) me2 ?_
  refine EV_Slice ?_
  refine PT_none ?_
  refine PT_some ?_
  refine EV_BinOp ?_
  refine EV_cell (c := tc) (v := I (top : Int)) rfl (by kernel_rfl) (by kernel_rfl) (by kernel_rfl) (by kernel_rfl) me3 ?_
  refine EV_loc (by kernel_rfl) (.head _) me9 ?_
  refine BIN_add ?_
  refine PT_none ?_
  intro s1
  refine SUB_list (.tail _ (hm' hg _)) (GI_list_slice (lo := none) (hi := some ((top : Int) + (lost : Int))) (.tail _ (hm' hg _)) (.head _) (by simp; (first | lia | omega)) fun l1 => ?_)
  rw [slc_to (by (first | lia | omega)), show ((top : Int) + (lost : Int)).toNat = top + lost by (first | lia | omega)]
  refine EV_List ?_
  refine ES_con (by rfl) ?_
  refine EV_loc (by kernel_rfl) me2 me10 ?_
  refine ES_nil ?_
  refine ⟨by simp; (first | lia | omega), fun l2 => ?_⟩
  refine BIN_addl me1 (.head _) (by simp; (first | lia | omega)) fun l3 => ?_
  refine EV_Sub ?_
  refine EV_cell (c := sc) (v := .ref asg) rfl (by kernel_rfl) (by kernel_rfl) (by kernel_rfl) (by kernel_rfl) me6 ?_
  refine EV_Slice ?_
  refine PT_some ?_
  refine EV_BinOp (EV_BinOp ?_)
  refine EV_cell (c := tc) (v := I (top : Int)) rfl (by kernel_rfl) (by kernel_rfl) (by kernel_rfl) (by kernel_rfl) me7 ?_
  refine EV_loc (by kernel_rfl) me4 me9 ?_
  refine BIN_add ?_
  refine EV_int ?_
  refine BIN_add ?_
  refine PT_none ?_
  refine PT_none ?_
  intro s2
  refine SUB_list (.tail _ (.tail _ (.tail _ (.tail _ (.tail _ (hm' hg _)))))) (GI_list_slice (lo := some ((top : Int) + (lost : Int) + 1)) (hi := none) (.tail _ (.tail _ (.tail _ (.tail _ (.tail _ (hm' hg _)))))) (.head _) (by simp; (first | lia | omega)) fun l4 => ?_)
  rw [slc_from (by (first | lia | omega)), show ((top : Int) + (lost : Int) + 1).toNat = top + lost + 1 by (first | lia | omega)]
  refine BIN_addl me2 (.head _) (by simp; (first | lia | omega)) fun l5 => ?_
  rw [show (chs signs).take (top + lost) ++ [T [tk]] ++ (chs signs).drop (top + lost + 1) = chs (chgd signs (top + lost) tk) by unfold chgd; simp [chs]]
  refine ST_loc (by kernel_rfl) (.there (.there (.there (.there (.there (.there (.there (.here)))))))) (by tm_at "Mp") ?_
  refine W_pick ?_ (q l5)
  exact (.take (.there (.there (.there (.there (.there (.there (.there (.here)))))))) (.take (.there (.there (.there (.there (.there (.there (.there (.here)))))))) (.take (.there (.there (.there (.there (.there (.there (.there (.here)))))))) (.take (.there (.there (.there (.there (.there (.there (.there (.here)))))))) (.take (.there (.there (.there (.there (.there (.there (.there (.here)))))))) (.take (.here) (.drop (.drop (.drop (.drop (.drop (.drop (.refl)))))))))))))
end
section
variable {X : Cx} {A : Around} {σ : Hp} {E : Value → Shared → Prop} {env : Env}
noncomputable abbrev plansH (ap p0 p1 ar asg a1 ac : Addr) (st0 room n4 bg tk : Nat) (cg : List Nat) (σ : Hp) : Hp :=
  (ap, .seq "list" [.ref p0, .ref p1]) :: (p1, .seq "tuple" [I (bg : Int), I ((room + 1 : Nat) : Int), I ((2796160 + tk : Nat) : Int), .ref ac, .ref ar]) :: (ar, .seq "list" (nvs (toldGo 0 cg))) :: (p0, .seq "tuple" [I (st0 : Int), I (room : Int), I (n4 : Int), .ref asg, .ref a1]) :: σ
noncomputable abbrev lw15 (as an a1 am : Addr) (tn : Nat) (asl : Addr) (room one other lost tk bg : Nat) (ac ap : Addr) : List (Str × Value) := [(("script" : Str), .ref as), (("numbers" : Str), .ref an), (("sent" : Str), .ref a1), (("message" : Str), .ref am), (("turns" : Str), I (tn : Int)), (("slots" : Str), .ref asl), (("room" : Str), I (room : Int)), (("one" : Str), I (one : Int)), (("other" : Str), I (other : Int)), (("lost" : Str), I (lost : Int)), (("taken" : Str), T [tk]), (("begin" : Str), I (bg : Int)), (("changed" : Str), .ref ac), (("plans" : Str), .ref ap)]
set_option maxHeartbeats 4000000 in
theorem law_1415 (F : Facts X) {L wc sc tc dc fl as an a1 am asl asg ac : Addr} {cd : Value} {vw vt vd : Option Value} {tn room one other lost tk bg n0 n1 n2 n3 n4 n5 : Nat} {cg : List Nat} {rest : List Stmt} (cz : cg.length < 1000) (hr : room ≤ 3 * tn)
    (hn : (an, AO.seq "list" (nvs [n0, n1, n2, n3, n4, n5])) ∈ σ) (hc : (ac, AO.seq "list" (chs cg)) ∈ σ) {n : Nat} (rm : Rm (n + 3) A) {Q : Flow → Hp → Prop}
    (q : ∀ ap p0 p1 ar, XS X A (fenv (scOf (topSt 22)) L [(("wire" : Str), wc), (("signs" : Str), sc), (("top" : Str), tc), (("delays" : Str), dc)] (nmOf (topSt 22)) fl cd) F0 rest (((fenv (scOf (topSt 22)) L [(("wire" : Str), wc), (("signs" : Str), sc), (("top" : Str), tc), (("delays" : Str), dc)] (nmOf (topSt 22)) fl cd).locals, .ns (lw15 as an a1 am tn asl room one other lost tk bg ac ap)) :: lc4 wc sc tc dc vw (some (.ref asg)) vt vd (plansH ap p0 p1 ar asg a1 ac (n3 % (3 * tn - room + 1)) room n4 bg tk cg σ)) Q) :
    XS X A (fenv (scOf (topSt 22)) L [(("wire" : Str), wc), (("signs" : Str), sc), (("top" : Str), tc), (("delays" : Str), dc)] (nmOf (topSt 22)) fl cd) F0 (nthSt (bodyOf (topSt 22)) 14 :: nthSt (bodyOf (topSt 22)) 15 :: rest) (((fenv (scOf (topSt 22)) L [(("wire" : Str), wc), (("signs" : Str), sc), (("top" : Str), tc), (("delays" : Str), dc)] (nmOf (topSt 22)) fl cd).locals, .ns (lw13 as an a1 am tn asl room one other lost tk bg ac)) :: lc4 wc sc tc dc vw (some (.ref asg)) vt vd σ) Q := by
  have hsz := sizeLine_eq
  have hm' : ∀ {x : Addr × AO}, x ∈ σ → ∀ es, x ∈ (((fenv (scOf (topSt 22)) L [(("wire" : Str), wc), (("signs" : Str), sc), (("top" : Str), tc), (("delays" : Str), dc)] (nmOf (topSt 22)) fl cd).locals, AO.ns es) :: lc4 wc sc tc dc vw (some (.ref asg)) vt vd σ) := fun h _ => .tail _ (.tail _ (.tail _ (.tail _ (.tail _ h))))
  refine XS_cons ?_
  refine EX_Assign (by kernel_rfl) ?_
  refine EV_List ?_
  refine ES_con (by rfl) (EV_Tuple ?_)
  refine ES_con (by rfl) ?_
  refine EV_BinOp ?_
  refine EV_Sub ?_
  refine EV_loc (by kernel_rfl) (.head _) me1 ?_
  refine EV_int ?_
  refine SUB_list (hm' hn _) (GI_list (v := I (n3 : Int)) (hm' hn _) (by decide) rfl (by simp; (first | lia | omega)) ?_)
  refine EV_BinOp (EV_BinOp (EV_BinOp ?_))
  refine EV_int ?_
  refine EV_loc (by kernel_rfl) (.head _) me4 ?_
  refine BIN_mul (IntMulOk.of_left (by decide)) ?_
  refine EV_loc (by kernel_rfl) (.head _) me6 ?_
  refine BIN_sub ?_
  refine EV_int ?_
  refine BIN_add ?_
  rw [show (3 : Int) * (tn : Int) - (room : Int) + 1 = ((3 * tn - room + 1 : Nat) : Int) by (first | lia | omega)]
  refine BIN_modN n3 _ (by (first | lia | omega)) ?_
  refine ES_con (by rfl) ?_
  refine EV_loc (by kernel_rfl) (.head _) me6 ?_
  refine ES_con (by rfl) ?_
  refine EV_Sub ?_
  refine EV_loc (by kernel_rfl) (.head _) me1 ?_
  refine EV_int ?_
  refine SUB_list (hm' hn _) (GI_list (v := I (n4 : Int)) (hm' hn _) (by decide) rfl (by simp; (first | lia | omega)) ?_)
  refine ES_con (by rfl) ?_
  refine EV_cell (c := sc) (v := .ref asg) rfl (by kernel_rfl) (by kernel_rfl) (by kernel_rfl) (by kernel_rfl) me2 ?_
  refine ES_con (by rfl) ?_
  refine EV_loc (by kernel_rfl) (.head _) me2 ?_
  refine ES_nil ?_
  refine ⟨by simp; (first | lia | omega), fun p0 => ?_⟩
  refine ES_nil ?_
  refine ⟨by simp; (first | lia | omega), fun ap => ?_⟩
  refine ST_loc (by kernel_rfl) (.there (.there (.here))) (by tm_at "Mp") ?_
  refine XS_cons ?_
  refine EX_Expr (by rfl) (by kernel_rfl) ?_
  refine EV_Meth (by rfl) (by rfl) ?_
  refine EV_loc (by kernel_rfl) me2 me13 ?_
  refine GM_list (.head _) PySem.F.slot_list_append PySem.F.type_list_append ?_
  refine ⟨rfl, ?_⟩
  refine ES_con (by rfl) (EV_Tuple ?_)
  refine ES_con (by rfl) ?_
  refine EV_loc (by kernel_rfl) me2 me11 ?_
  refine ES_con (by rfl) ?_
  refine EV_BinOp ?_
  refine EV_loc (by kernel_rfl) me2 me6 ?_
  refine EV_int ?_
  refine BIN_add ?_
  refine ES_con (by rfl) ?_
  refine EV_BinOp (EV_BinOp ?_)
  refine EV_int ?_
  refine EV_int ?_
  refine BIN_mul (IntMulOk.of_left (by decide)) ?_
  refine EV_CallN (by rfl) ?_; refine EV_builtin F.bOrd (by rfl) (by kernel_rfl) (by kernel_rfl) (by rfl) (by rfl) ?_; refine ⟨rfl, ?_⟩
  refine ES_con (by rfl) ?_
  refine EV_loc (by kernel_rfl) me2 me10 ?_
  refine ES_nil ?_
  refine ⟨KP_builtin, CW_ord ?_⟩
  refine BIN_add ?_
  refine ES_con (by rfl) ?_
  refine EV_loc (by kernel_rfl) me2 me12 ?_
  refine ES_con (by rfl) ?_
  refine EV_CallN (by rfl) ?_; refine EV_global F.dTold.glob (by rfl) (by kernel_rfl) (by kernel_rfl) (by rfl) ?_; refine ⟨rfl, ?_⟩
  refine ES_con (by rfl) ?_
  refine EV_loc (by kernel_rfl) me2 me12 ?_
  refine ES_nil ?_
  refine ⟨KP_base F.dTold.bf.kp, CW_use (c_told F (.tail _ (.tail _ (hm' hc _))) (by (first | lia | omega)) (n := n + 1) rm).any ?_⟩
  rintro v σ' ⟨ar, rfl, rfl⟩
  refine ES_nil ?_
  refine ⟨by simp; (first | lia | omega), fun p1 => ?_⟩
  refine ES_nil ?_
  refine ⟨KP_builtin, CW_append (.there (.there (.here))) (by simp; (first | lia | omega)) ?_⟩
  refine ⟨rfl, ?_⟩
  rw [show (room : Int) + 1 = ((room + 1 : Nat) : Int) by (first | lia | omega), show (128 : Int) * 21845 + (tk : Int) = ((2796160 + tk : Nat) : Int) by (first | lia | omega)]
  refine W_pick ?_ (q ap p0 p1 ar)
  exact (.take (.there (.there (.there (.there (.here))))) (.take (.there (.there (.there (.there (.here))))) (.take (.there (.there (.there (.there (.here))))) (.take (.there (.there (.there (.there (.here))))) (.take (.there (.there (.there (.there (.here))))) (.take (.there (.there (.here))) (.take (.here) (.take (.here) (.take (.here) (.refl))))))))))
end
theorem Put.ex (n : Str) (v : Value) : ∀ es : List (Str × Value), ∃ es', Put n v es es'
  | [] => ⟨_, .nil⟩
  | (m, w) :: r => by
    by_cases h : (m == n) = true
    · rw [beq_iff_eq] at h; subst h; exact ⟨_, .here⟩
    · obtain ⟨es', h'⟩ := Put.ex n v r
      exact ⟨_, .there (by simpa using h) h'⟩
theorem Put.put {n : Str} {v : Value} {es es' : List (Str × Value)} (h : Put n v es es') : (n, v) ∈ es' := by
  induction h with
  | nil => exact .head _
  | here => exact .head _
  | there _ _ ih => exact .tail _ ih
theorem Put.stay {n : Str} {v : Value} {es es' : List (Str × Value)} (h : Put n v es es') {x : Str × Value} (hx : x ∈ es) (hn : (x.1 == n) = false) : x ∈ es' := by
  induction h with
  | nil => cases hx
  | here =>
    cases hx with
    | head => simp at hn
    | tail _ h => exact .tail _ h
  | there _ _ ih =>
    cases hx with
    | head => exact .head _
    | tail _ h => exact .tail _ (ih h)
theorem Put.grow {n : Str} {v : Value} {es es' b : List (Str × Value)} (h : Put n v es es') (hb : ∀ x ∈ b, x ∈ es) (hn : (b.all fun x => !(x.1 == n)) = true) : ∀ x ∈ b ++ [(n, v)], x ∈ es' := by
  intro x hx
  rcases List.mem_append.mp hx with hx | hx
  · have := List.all_eq_true.mp hn x hx
    exact h.stay (hb x hx) (by simpa using this)
  · cases hx with
    | head => exact h.put
    | tail _ h => cases h
noncomputable def lawB (i : Nat) : Stmt := nthSt (forBody (nthSt (bodyOf (topSt 22)) 16)) i
noncomputable abbrev bL (asl : Addr) (tn : Nat) (an am : Addr) (st sz dd : Nat) (adu ard : Addr) : List (Str × Value) := [(("slots" : Str), .ref asl), (("turns" : Str), I (tn : Int)), (("numbers" : Str), .ref an), (("message" : Str), .ref am), (("start" : Str), I (st : Int)), (("size" : Str), I (sz : Int)), (("deed" : Str), I (dd : Int)), (("due" : Str), .ref adu), (("read" : Str), .ref ard)]
section
variable {X : Cx} {A : Around} {σ : Hp} {E : Value → Shared → Prop} {env : Env}
theorem law_b0 (F : Facts X) {L wc sc tc dc fl asl an am adu ard : Addr} {cd : Value} {vw vs vt vd : Option Value} {tn st sz dd : Nat} {ss : List Nat} {es : List (Str × Value)} {rest : List Stmt} (hb : ∀ x ∈ bL asl tn an am st sz dd adu ard, x ∈ es)
    (hl : (asl, AO.seq "list" (chs ss)) ∈ σ) (hz : ss.length < 100000) (hsz : sz < 15) {n : Nat} (rm : Rm (n + 3) A) {Q : Flow → Hp → Prop}
    (q : ∀ aw, XS X A (fenv (scOf (topSt 22)) L [(("wire" : Str), wc), (("signs" : Str), sc), (("top" : Str), tc), (("delays" : Str), dc)] (nmOf (topSt 22)) fl cd) F0 rest (((fenv (scOf (topSt 22)) L [(("wire" : Str), wc), (("signs" : Str), sc), (("top" : Str), tc), (("delays" : Str), dc)] (nmOf (topSt 22)) fl cd).locals, .ns es) :: lc4 wc sc tc dc (some (.ref aw)) vs vt vd ((aw, .seq "list" (tws (spoilL ss st sz dd))) :: σ)) Q) :
    XS X A (fenv (scOf (topSt 22)) L [(("wire" : Str), wc), (("signs" : Str), sc), (("top" : Str), tc), (("delays" : Str), dc)] (nmOf (topSt 22)) fl cd) F0 (lawB 0 :: rest) (((fenv (scOf (topSt 22)) L [(("wire" : Str), wc), (("signs" : Str), sc), (("top" : Str), tc), (("delays" : Str), dc)] (nmOf (topSt 22)) fl cd).locals, .ns es) :: lc4 wc sc tc dc vw vs vt vd σ) Q := by
  refine XS_cons ?_
  refine EX_Assign (by kernel_rfl) ?_
  refine EV_CallN (by rfl) ?_; refine EV_global F.dSpoilt.glob (by rfl) (by kernel_rfl) (by kernel_rfl) (by rfl) ?_; refine ⟨rfl, ?_⟩
  refine ES_con (by rfl) ?_
  refine EV_loc (by kernel_rfl) (.head _) (hb _ (.head _)) ?_
  refine ES_con (by rfl) ?_
  refine EV_loc (by kernel_rfl) (.head _) (hb _ me4) ?_
  refine ES_con (by rfl) ?_
  refine EV_loc (by kernel_rfl) (.head _) (hb _ me5) ?_
  refine ES_con (by rfl) ?_
  refine EV_loc (by kernel_rfl) (.head _) (hb _ me6) ?_
  refine ES_nil ?_
  refine ⟨KP_base F.dSpoilt.bf.kp, CW_use (c_spoilt F (ss := ss) (.tail _ (.tail _ (.tail _ (.tail _ (.tail _ hl))))) hz hsz (n := n + 1) rm).any ?_⟩
  rintro v σ' ⟨aw, rfl, rfl⟩
  refine ST_cell rfl (by kernel_rfl) (by kernel_rfl) (.there (.there (.here))) ?_
  refine W_pick ?_ (q aw)
  exact (.take (.there (.here)) (.take (.there (.here)) (.take (.there (.here)) (.take (.there (.here)) (.take (.there (.here)) (.take (.here) (.refl)))))))
theorem law_b1 (F : Facts X) {L wc sc tc dc fl asl an am adu ard : Addr} {cd : Value} {vw vs vt vd : Option Value} {tn st sz dd n0 n1 n2 n3 n4 n5 : Nat} {es : List (Str × Value)} {rest : List Stmt} (hb : ∀ x ∈ bL asl tn an am st sz dd adu ard, x ∈ es)
    (hn : (an, AO.seq "list" (nvs [n0, n1, n2, n3, n4, n5])) ∈ σ) (htn : tn < 1000) {n : Nat} (rm : Rm (n + 3) A) {Q : Flow → Hp → Prop}
    (q : ∀ ap es', (∀ x ∈ bL asl tn an am st sz dd adu ard ++ [(("pieces" : Str), .ref ap)], x ∈ es') → XS X A (fenv (scOf (topSt 22)) L [(("wire" : Str), wc), (("signs" : Str), sc), (("top" : Str), tc), (("delays" : Str), dc)] (nmOf (topSt 22)) fl cd) F0 rest (((fenv (scOf (topSt 22)) L [(("wire" : Str), wc), (("signs" : Str), sc), (("top" : Str), tc), (("delays" : Str), dc)] (nmOf (topSt 22)) fl cd).locals, .ns es') :: lc4 wc sc tc dc vw vs vt vd ((ap, .seq "list" (chs (octs (64 * tn + n2 % 64)))) :: σ)) Q) :
    XS X A (fenv (scOf (topSt 22)) L [(("wire" : Str), wc), (("signs" : Str), sc), (("top" : Str), tc), (("delays" : Str), dc)] (nmOf (topSt 22)) fl cd) F0 (lawB 1 :: rest) (((fenv (scOf (topSt 22)) L [(("wire" : Str), wc), (("signs" : Str), sc), (("top" : Str), tc), (("delays" : Str), dc)] (nmOf (topSt 22)) fl cd).locals, .ns es) :: lc4 wc sc tc dc vw vs vt vd σ) Q := by
  have hsz := sizeLine_eq
  have hk : 64 * tn + n2 % 64 < 2 ^ 18 := by (first | lia | omega)
  have hsh := octs_short hk
  have hm' : ∀ {x : Addr × AO}, x ∈ σ → ∀ es, x ∈ (((fenv (scOf (topSt 22)) L [(("wire" : Str), wc), (("signs" : Str), sc), (("top" : Str), tc), (("delays" : Str), dc)] (nmOf (topSt 22)) fl cd).locals, AO.ns es) :: lc4 wc sc tc dc vw vs vt vd σ) := fun h _ => .tail _ (.tail _ (.tail _ (.tail _ (.tail _ h))))
  refine XS_cons ?_
  refine EX_AssignCompJ [] (by kernel_rfl) ⟨rfl, rfl, by decide +kernel, by decide +kernel⟩ (fun _ => by rfl) ?_
  refine EV_CallN (by rfl) ?_; refine EV_global F.dOct.glob (by rfl) (by kernel_rfl) (by kernel_rfl) (by rfl) ?_; refine ⟨rfl, ?_⟩
  refine ES_con (by rfl) ?_
  refine EV_BinOp (EV_BinOp ?_)
  refine EV_int ?_
  refine EV_loc (by kernel_rfl) (.head _) (hb _ me1) ?_
  refine BIN_mul (IntMulOk.of_left (by decide)) ?_
  refine EV_BinOp ?_
  refine EV_Sub ?_
  refine EV_loc (by kernel_rfl) (.head _) (hb _ me2) ?_
  refine EV_int ?_
  refine SUB_list (hm' hn _) (GI_list (v := I (n2 : Int)) (hm' hn _) (by decide) rfl (by simp; (first | lia | omega)) ?_)
  refine EV_int ?_
  refine BIN_modN n2 64 (by decide) ?_
  refine BIN_add ?_
  rw [show (64 : Int) * (tn : Int) + ((n2 % 64 : Nat) : Int) = ((64 * tn + n2 % 64 : Nat) : Int) by (first | lia | omega)]
  refine ES_nil ?_
  refine ⟨KP_base F.dOct.bf.kp, CW_use (c_oct F (by (first | lia | omega)) (n := n + 1) rm).any ?_⟩
  rintro v σ' ⟨ao, rfl, rfl⟩
  generalize 64 * tn + n2 % 64 = k at q hk hsh ⊢
  refine srcJ_list (l := ao) (xs := nvs (octs k)) rm.handled rfl (by kernel_rfl) (fun i ys τ => ys = chs ((octs k).take i) ∧ τ = (ao, .seq "list" (nvs (octs k))) :: ((fenv (scOf (topSt 22)) L [(("wire" : Str), wc), (("signs" : Str), sc), (("top" : Str), tc), (("delays" : Str), dc)] (nmOf (topSt 22)) fl cd).locals, .ns es) :: lc4 wc sc tc dc vw vs vt vd σ) ?_ (by simp; (first | lia | omega)) ⟨rfl, rfl⟩ ?_ ?_
  · rintro i ys τ ⟨_, rfl⟩
    exact .head _
  · rintro C R i hi ys τ ⟨rfl, rfl⟩ hl
    have hi' : i < (octs k).length := by simpa using hi
    have hv : (nvs (octs k))[i] = I (((octs k)[i] : Nat) : Int) := by simp
    have hlt := octs_lt k _ (List.getElem_mem hi')
    (first | (refine rwG hv ?_; try (with_reducible rfl)) | rw [hv])
    refine EV_CallN (by rfl) ?_; refine EV_builtin F.bChr (by rfl) (by kernel_rfl) (by kernel_rfl) (by rfl) (by rfl) ?_; refine ⟨rfl, ?_⟩
    refine ES_con (by rfl) ?_
    refine EV_loc (by kernel_rfl) (.head _) (.head _) ?_
    refine ES_nil ?_
    refine ⟨KP_builtin, CW_chr (by (first | lia | omega)) (by (first | lia | omega)) ?_⟩
    rw [Int.toNat_natCast]
    refine ⟨_, .refl, ?_, rfl⟩
    rw [List.take_succ_eq_append_getElem hi']; simp only [chs, List.map_append, List.map_cons, List.map_nil]
  · rintro D ys τ ⟨rfl, rfl⟩ hl R
    rw [List.take_of_length_le (by simp)]
    obtain ⟨es', hp⟩ := Put.ex "pieces" (.ref D) es
    refine ST_loc (by kernel_rfl) (.there (.there (.here))) hp ?_
    refine ⟨_, ?_, q D es' (hp.grow hb (by kernel_rfl))⟩
    exact (.take (.there (.there (.here))) (.take (.there (.there (.here))) (.take (.there (.there (.here))) (.take (.there (.there (.here))) (.take (.there (.there (.here))) (.take (.here) (.drop (.refl))))))))
end
noncomputable def wrAt (ws : List (List Nat)) (k : Nat) : List Nat := writ (ws.getD k []) ((k + k / 3 + 1) % 3) ([10, 9, 13, 32].getD (k % 4) 0)
noncomputable def wrs (ws : List (List Nat)) : List (List Nat) := (List.range ws.length).map (wrAt ws)
noncomputable def fullT (k : Nat) (ws : List (List Nat)) : List Nat := octs k ++ (wrs ws).flatten
theorem flat_one (l : List Nat) : (l.map fun c => [c]).flatten = l := by
  induction l with
  | nil => rfl
  | cons c r ih => simp [ih]
section
variable {X : Cx} {A : Around} {σ : Hp} {E : Value → Shared → Prop} {env : Env}
set_option maxHeartbeats 2000000 in
theorem law_b2 (F : Facts X) {L wc sc tc dc fl asl an am adu ard ap aw : Addr} {cd : Value} {vs vt vd : Option Value} {tn st sz dd k : Nat} {ws : List (List Nat)} {es : List (Str × Value)} {rest : List Stmt} (hb : ∀ x ∈ bL asl tn an am st sz dd adu ard ++ [(("pieces" : Str), .ref ap)], x ∈ es)
    (hw : (aw, AO.seq "list" (tws ws)) ∈ σ) (hz : ws.length < 1000) (ho : (octs k).length < 1000) (h128 : ∀ w ∈ ws, ∀ c ∈ w, c < 128) (hlen : ∀ w ∈ ws, w.length < 1000) {n : Nat} (rm : Rm (n + 3) A) {Q : Flow → Hp → Prop}
    (q : ∀ ax, XS X A (fenv (scOf (topSt 22)) L [(("wire" : Str), wc), (("signs" : Str), sc), (("top" : Str), tc), (("delays" : Str), dc)] (nmOf (topSt 22)) fl cd) F0 rest (((fenv (scOf (topSt 22)) L [(("wire" : Str), wc), (("signs" : Str), sc), (("top" : Str), tc), (("delays" : Str), dc)] (nmOf (topSt 22)) fl cd).locals, .ns es) :: lc4 wc sc tc dc (some (.ref aw)) vs vt vd ((ap, .seq "list" (tws ((octs k).map (fun c => [c]) ++ wrs ws))) :: (ax, .seq "list" (tws (wrs ws))) :: σ)) Q) :
    XS X A (fenv (scOf (topSt 22)) L [(("wire" : Str), wc), (("signs" : Str), sc), (("top" : Str), tc), (("delays" : Str), dc)] (nmOf (topSt 22)) fl cd) F0 (lawB 2 :: rest) (((fenv (scOf (topSt 22)) L [(("wire" : Str), wc), (("signs" : Str), sc), (("top" : Str), tc), (("delays" : Str), dc)] (nmOf (topSt 22)) fl cd).locals, .ns es) :: lc4 wc sc tc dc (some (.ref aw)) vs vt vd ((ap, .seq "list" (chs (octs k))) :: σ)) Q := by
  have hsz := sizeLine_eq
  refine XS_cons ?_
  refine EX_Expr (by rfl) (by kernel_rfl) ?_
  refine EV_Meth (by rfl) (by rfl) ?_
  refine EV_loc (by kernel_rfl) (.head _) (hb _ me9) ?_
  refine GM_list me5 PySem.F.slot_list_extend PySem.F.type_list_extend ?_
  refine ⟨rfl, ?_⟩
  refine ES_con (by rfl) ?_
  refine EV_CompJ [] ⟨rfl, rfl, by decide +kernel, by decide +kernel⟩ (fun _ => by rfl) ?_
  refine EV_CallN (by rfl) ?_; refine EV_builtin F.bEnum (by rfl) (by kernel_rfl) (by kernel_rfl) (by rfl) (by rfl) ?_; refine ⟨rfl, ?_⟩
  refine ES_con (by rfl) ?_
  refine EV_cell (c := wc) (v := .ref aw) rfl (by kernel_rfl) (by kernel_rfl) (by kernel_rfl) (by kernel_rfl) me1 ?_
  refine ES_nil ?_
  refine ⟨KP_type, CW_enum (l := aw) (.tail _ (.tail _ (.tail _ (.tail _ (.tail _ (.tail _ hw)))))) fun e it => ?_⟩
  refine srcJ_enum (e := e) (it := it) (l := aw) (xs := tws ws) rm.handled rfl (by kernel_rfl) (by kernel_rfl) (by decide +kernel) (fun i ys τ => ys = tws ((List.range i).map (wrAt ws)) ∧ τ = ((fenv (scOf (topSt 22)) L [(("wire" : Str), wc), (("signs" : Str), sc), (("top" : Str), tc), (("delays" : Str), dc)] (nmOf (topSt 22)) fl cd).locals, .ns es) :: lc4 wc sc tc dc (some (.ref aw)) vs vt vd ((ap, .seq "list" (chs (octs k))) :: σ)) ?_ (by simp; (first | lia | omega)) rfl ⟨rfl, rfl⟩ ?_ ?_
  · rintro i ys τ ⟨_, rfl⟩
    exact .tail _ (.tail _ (.tail _ (.tail _ (.tail _ (.tail _ hw)))))
  · rintro C R i hi ys τ ⟨rfl, rfl⟩ hl
    have hi' : i < ws.length := by simpa using hi
    have hv : (tws ws)[i] = T (ws.getD i []) := by simp [hi']
    have hmw : ws.getD i [] ∈ ws := by
      have : ws.getD i [] = ws[i] := by simp [hi']
      (first | (refine rwG this ?_; try (with_reducible rfl)) | rw [this]); exact List.getElem_mem hi'
    (first | (refine rwG hv ?_; try (with_reducible rfl)) | rw [hv])
    refine EV_CallN (by rfl) ?_; refine EV_global F.dWrit.glob (by rfl) (by kernel_rfl) (by kernel_rfl) (by rfl) ?_; refine ⟨rfl, ?_⟩
    refine ES_con (by rfl) ?_
    refine EV_loc (by kernel_rfl) (.head _) me1 ?_
    refine ES_con (by rfl) ?_
    refine EV_BinOp (EV_BinOp (EV_BinOp ?_))
    refine EV_loc (by kernel_rfl) (.head _) (.head _) ?_
    refine EV_BinOp ?_
    refine EV_loc (by kernel_rfl) (.head _) (.head _) ?_
    refine EV_int ?_
    refine BIN_divN i 3 (by decide) (by decide) ?_
    refine BIN_add ?_
    refine EV_int ?_
    refine BIN_add ?_
    refine EV_int ?_
    rw [show (i : Int) + ((i / 3 : Nat) : Int) + 1 = ((i + i / 3 + 1 : Nat) : Int) by (first | lia | omega)]
    refine BIN_modN (i + i / 3 + 1) 3 (by decide) ?_
    refine ES_con (by rfl) ?_
    refine EV_Sub ?_
    refine EV_txt [10, 9, 13, 32] (by kernel_rfl) ?_
    refine EV_BinOp ?_
    refine EV_loc (by kernel_rfl) (.head _) (.head _) ?_
    refine EV_int ?_
    refine BIN_modN i 4 (by decide) ?_
    have h4 : i % 4 < 4 := Nat.mod_lt _ (by decide)
    have hblk : ([10, 9, 13, 32] : List Nat)[i % 4]? = some ([10, 9, 13, 32].getD (i % 4) 0) := by
      match i % 4, h4 with
      | 0, _ => rfl
      | 1, _ => rfl
      | 2, _ => rfl
      | 3, _ => rfl
    refine SUB_str (GI_str (seqIdx_pos (show i % 4 < 4 from h4)) hblk (by (first | lia | omega)) ?_)
    refine ES_nil ?_
    refine ⟨KP_base F.dWrit.bf.kp, CW_use (c_writ F (h128 _ hmw) (hlen _ hmw) (n := n + 1) rm).any ?_⟩
    rintro v σ' ⟨rfl, rfl⟩
    refine ⟨_, .refl, ?_, rfl⟩
    rw [List.range_succ]; simp only [tws, List.map_append, List.map_cons, List.map_nil]; rfl
  · rintro D ys τ ⟨rfl, rfl⟩ hl
    rw [show (tws ws).length = ws.length by simp]
    refine ES_nil ?_
    have e1 : chs (octs k) ++ tws ((List.range ws.length).map (wrAt ws)) = tws ((octs k).map (fun c => [c]) ++ wrs ws) := by
      (first | (refine rwG chs_eq ?_; try (with_reducible rfl)) | rw [chs_eq]); simp only [tws, List.map_append, wrs]
    refine ⟨KP_builtin, CW_extend (xs := chs (octs k)) (ys := tws ((List.range ws.length).map (wrAt ws))) (.head _) (by (first | (refine rwG e1 ?_; try (with_reducible rfl)) | rw [e1]); exact (.there (.there (.there (.there (.there (.there (.here)))))))) (by simp; (first | lia | omega)) ?_⟩
    refine ⟨rfl, ?_⟩
    refine W_pick ?_ (q D)
    exact (.take (.there (.here)) (.take (.there (.here)) (.take (.there (.here)) (.take (.there (.here)) (.take (.there (.here)) (.take (.there (.here)) (.take (.here) (.refl))))))))
theorem law_b3 (F : Facts X) {L wc sc tc dc fl asl an am adu ard ap : Addr} {cd : Value} {vw vs vt vd : Option Value} {tn st sz dd k : Nat} {ws : List (List Nat)} {es : List (Str × Value)} {rest : List Stmt} (hb : ∀ x ∈ bL asl tn an am st sz dd adu ard ++ [(("pieces" : Str), .ref ap)], x ∈ es)
    (hp : (ap, AO.seq "list" (tws ((octs k).map (fun c => [c]) ++ wrs ws))) ∈ σ) (hz : (fullT k ws).length < 1000) {n : Nat} (rm : Rm (n + 3) A) {Q : Flow → Hp → Prop}
    (q : ∀ es', (∀ x ∈ bL asl tn an am st sz dd adu ard ++ [(("pieces" : Str), .ref ap)] ++ [(("text" : Str), T ((fullT k ws).take ((fullT k ws).length - 1)))], x ∈ es') → XS X A (fenv (scOf (topSt 22)) L [(("wire" : Str), wc), (("signs" : Str), sc), (("top" : Str), tc), (("delays" : Str), dc)] (nmOf (topSt 22)) fl cd) F0 rest (((fenv (scOf (topSt 22)) L [(("wire" : Str), wc), (("signs" : Str), sc), (("top" : Str), tc), (("delays" : Str), dc)] (nmOf (topSt 22)) fl cd).locals, .ns es') :: lc4 wc sc tc dc vw vs vt vd σ) Q) :
    XS X A (fenv (scOf (topSt 22)) L [(("wire" : Str), wc), (("signs" : Str), sc), (("top" : Str), tc), (("delays" : Str), dc)] (nmOf (topSt 22)) fl cd) F0 (lawB 3 :: rest) (((fenv (scOf (topSt 22)) L [(("wire" : Str), wc), (("signs" : Str), sc), (("top" : Str), tc), (("delays" : Str), dc)] (nmOf (topSt 22)) fl cd).locals, .ns es) :: lc4 wc sc tc dc vw vs vt vd σ) Q := by
  have hsz := sizeLine_eq
  have hfl : ((octs k).map (fun c => [c]) ++ wrs ws).flatten = fullT k ws := by unfold fullT; rw [List.flatten_append, flat_one]
  refine XS_cons ?_
  refine EX_Assign (by kernel_rfl) ?_
  refine EV_Sub ?_
  refine EV_Meth (by rfl) (by rfl) ?_
  refine EV_txt [] (by kernel_rfl) ?_
  refine GM_str PySem.F.slot_str_join PySem.F.type_str_join ?_
  refine ⟨rfl, ?_⟩
  refine ES_con (by rfl) ?_
  refine EV_loc (by kernel_rfl) (.head _) (hb _ me9) ?_
  refine ES_nil ?_
  refine ⟨KP_builtin, CW_join (ys := (octs k).map (fun c => [c]) ++ wrs ws) (.tail _ (.tail _ (.tail _ (.tail _ (.tail _ hp))))) (by (first | (refine rwG hfl ?_; try (with_reducible rfl)) | rw [hfl]); (first | lia | omega)) ?_⟩
  (first | (refine rwG hfl ?_; try (with_reducible rfl)) | rw [hfl])
  generalize hft : fullT k ws = ft at q hz ⊢
  refine EV_Slice ?_
  refine PT_none ?_
  refine PT_some ?_
  refine EV_Unary ?_
  refine EV_int ?_
  refine UNA_neg ?_
  refine PT_none ?_
  intro s1
  refine SUB_str (GI_str_slice (x := ft) (lo := none) (hi := some (-1)) (.head _) (by (first | lia | omega)) ?_)
  rw [show (-1 : Int) = -((1 : Nat) : Int) from rfl, slc_back (by decide)]
  obtain ⟨es', hpt⟩ := Put.ex "text" (T (ft.take (ft.length - 1))) es
  refine ST_loc (by kernel_rfl) (.there (.here)) hpt ?_
  refine W_pick ?_ (q es' (hpt.grow hb (by kernel_rfl)))
  exact (.take (.there (.here)) (.take (.there (.here)) (.take (.there (.here)) (.take (.there (.here)) (.take (.there (.here)) (.drop (.refl)))))))
end
noncomputable def wlL (ps : List (Addr × List (List Nat))) : Hp := ps.map fun p => (p.1, AO.seq "list" (tws p.2))
theorem wl_app (σ : Hp) : ∀ ps, wl ps σ = wlL ps ++ σ
  | [] => rfl
  | p :: r => by show (p.1, AO.seq "list" (tws p.2)) :: wl r σ = _; rw [wl_app σ r]; rfl
section
variable {X : Cx} {A : Around} {σ : Hp} {E : Value → Shared → Prop} {env : Env}
theorem CW_pick {f : Value} {vs : List Value} {σ' : Hp} {Q : Value → Hp → Prop} (p : Pick σ' σ) (h : CW X A E f vs σ' Q) : CW X A E f vs σ Q := fun v' e => W_pick p (h v' e)
set_option maxHeartbeats 2000000 in
theorem law_b45 (F : Facts X) {L wc sc tc dc fl asl an am adu ard ap : Addr} {cd : Value} {vw vs vt vd : Option Value} {tn st sz dd : Nat} {text : List Nat} {es : List (Str × Value)} {rest : List Stmt} (hb : ∀ x ∈ bL asl tn an am st sz dd adu ard ++ [(("pieces" : Str), .ref ap)] ++ [(("text" : Str), T text)], x ∈ es)
    (h128 : ∀ c ∈ text, c < 128) (hz : text.length < 1000) {l rst : List Nat} {ts : List (List Nat)} {hd m : Nat} (hv : vint text = some (hd, l)) (htoks : Toks l ts rst) (hlen : ts.length = 3 * (hd / 64)) (hhd : hd < 2 ^ 20) (hm : m = max (max (hd % 4) (hd / 4 % 4)) (hd / 16 % 4)) {n : Nat} (rm : Rm (n + 10) A) {Q : Flow → Hp → Prop}
    (q : ∀ (es' : List (Str × Value)) (lx ldx st' pb aW : Addr) (ps : List (Addr × List (List Nat))) (ln' : Nat), (∀ x ∈ bL asl tn an am st sz dd adu ard ++ [(("pieces" : Str), .ref ap)] ++ [(("text" : Str), T text)] ++ [(("lexer" : Str), .ref lx)] ++ [(("words" : Str), .ref aW)], x ∈ es') → ps.map (·.2) = comeL ts (rep64 (m - hd % 4)) (rep64 (m - hd / 4 % 4)) (rep64 (m - hd / 16 % 4)) → ln' + c10 rst = 1 + c10 text →
      XS X A (fenv (scOf (topSt 22)) L [(("wire" : Str), wc), (("signs" : Str), sc), (("top" : Str), tc), (("delays" : Str), dc)] (nmOf (topSt 22)) fl cd) F0 rest (((fenv (scOf (topSt 22)) L [(("wire" : Str), wc), (("signs" : Str), sc), (("top" : Str), tc), (("delays" : Str), dc)] (nmOf (topSt 22)) fl cd).locals, .ns es') :: lc4 wc sc tc dc vw vs vt vd ((lx, inst adC ldx) :: (ldx, AO.ns (lexD ln' (.ref st') (.ref pb))) :: (aW, .seq "list" (ps.map fun p : Addr × List (List Nat) => Value.ref p.1)) :: (wlL ps.reverse ++ σ))) Q) :
    XS X A (fenv (scOf (topSt 22)) L [(("wire" : Str), wc), (("signs" : Str), sc), (("top" : Str), tc), (("delays" : Str), dc)] (nmOf (topSt 22)) fl cd) F0 (lawB 4 :: lawB 5 :: rest) (((fenv (scOf (topSt 22)) L [(("wire" : Str), wc), (("signs" : Str), sc), (("top" : Str), tc), (("delays" : Str), dc)] (nmOf (topSt 22)) fl cd).locals, .ns es) :: lc4 wc sc tc dc vw vs vt vd σ) Q := by
  have hsz := sizeLine_eq
  refine XS_cons ?_
  refine EX_Assign (by kernel_rfl) ?_
  refine EV_Call (by rfl) (by rfl) ?_
  refine EV_global F.cls (by rfl) (by kernel_rfl) (by kernel_rfl) (by rfl) ?_
  refine ⟨rfl, ?_⟩
  refine ES_con (by rfl) ?_
  refine EV_CallN (by rfl) ?_; refine EV_global F.dStream.glob (by rfl) (by kernel_rfl) (by kernel_rfl) (by rfl) ?_; refine ⟨rfl, ?_⟩
  refine ES_con (by rfl) ?_
  refine EV_CallN (by rfl) ?_; refine EV_builtin F.bList (by rfl) (by kernel_rfl) (by kernel_rfl) (by rfl) (by rfl) ?_; refine ⟨rfl, ?_⟩
  refine ES_con (by rfl) ?_
  refine EV_loc (by kernel_rfl) (.head _) (hb _ me10) ?_
  refine ES_nil ?_
  refine ⟨KP_type, CW_list_str rm.handled (by (first | lia | omega)) fun ll => ?_⟩
  refine ES_nil ?_
  refine ⟨KP_base F.dStream.bf.kp, CW_use (c_stream F (n := n + 8) rm).any ?_⟩
  rintro v σ' ⟨st', sd, rd, lc, q1, q2, q3, q4, q5, rfl, rfl⟩
  refine ES_nil ?_
  refine ⟨KP_base F.kpC, CW_use (c_lex F rfl (n := n + 6) rm).any ?_⟩
  rintro v σ' ⟨lx, ldx, pb, rfl, rfl⟩
  obtain ⟨es1, hp1⟩ := Put.ex "lexer" (.ref lx) es
  refine ST_loc (by kernel_rfl) (.there (.there (.there (.there (.there (.there (.there (.there (.here))))))))) hp1 ?_
  have hb1 := hp1.grow hb (by kernel_rfl)
  refine XS_cons ?_
  refine EX_Assign (by kernel_rfl) ?_
  refine EV_CallN (by rfl) ?_; refine EV_global F.dCome.glob (by rfl) (by kernel_rfl) (by kernel_rfl) (by rfl) ?_; refine ⟨rfl, ?_⟩
  refine ES_con (by rfl) ?_
  refine EV_loc (by kernel_rfl) me8 (hb1 _ me11) ?_
  refine ES_nil ?_
  let base : Hp := (sd, AO.ns [(("read" : Str), .ref rd)]) :: (st', AO.fn q1 q2 q3 q4 q5 (some sd)) :: (rd, AO.fn "_law_stream.<locals>._law_read" (plainPs (asOf rdSt)) (.stmts (bodyOf rdSt)) (scOf rdSt) [(("left" : Str), lc)] none) :: (lc, AO.cell (some (.ref ll))) :: ((fenv (scOf (topSt 22)) L [(("wire" : Str), wc), (("signs" : Str), sc), (("top" : Str), tc), (("delays" : Str), dc)] (nmOf (topSt 22)) fl cd).locals, .ns es1) :: lc4 wc sc tc dc vw vs vt vd σ
  have S : StIn base st' sd rd lc ll := ⟨⟨q1, q2, q3, q4, q5, me1⟩, (.head _), me2, me3⟩
  refine ⟨KP_base F.dCome.bf.kp, ?_⟩
  refine CW_pick (σ' := LX adC lx ldx st' pb ll 1 text base) (.take (.here) (.take (.here) (.take (.here) (.take (.there (.there (.there (.there (.here))))) (.refl))))) ?_
  refine CW_use (c_come F (K := 1 + c10 text) S hv htoks hlen hhd h128 hz rfl hm (n := n) rm).any ?_
  rintro v σ' ⟨aW, ps, ln', rfl, hps, hln, rfl⟩
  (first | (refine rwG wl_app ?_; try (with_reducible rfl)) | rw [wl_app])
  obtain ⟨es2, hp2⟩ := Put.ex "words" (.ref aW) es1
  refine ST_loc (by kernel_rfl) (.there (.there (.there (.there (.there (Chg_app (.there (.there (.there (.there (.here))))) (wlL ps.reverse))))))) hp2 ?_
  refine W_pick ?_ (q es2 lx ldx st' pb aW ps ln' (hp2.grow hb1 (by kernel_rfl)) hps hln)
  refine Pick.trans (b := (lx, inst adC ldx) :: (ldx, AO.ns (lexD ln' (.ref st') (.ref pb))) :: (aW, .seq "list" (ps.map fun p : Addr × List (List Nat) => Value.ref p.1)) :: (wlL ps.reverse ++ (((fenv (scOf (topSt 22)) L [(("wire" : Str), wc), (("signs" : Str), sc), (("top" : Str), tc), (("delays" : Str), dc)] (nmOf (topSt 22)) fl cd).locals, .ns es2) :: lc4 wc sc tc dc vw vs vt vd σ))) ?_ ?_
  · exact Pick.of_spec (List.perm_append_comm_assoc ((lx, inst adC ldx) :: (ldx, AO.ns (lexD ln' (.ref st') (.ref pb))) :: (aW, .seq "list" (ps.map fun p : Addr × List (List Nat) => Value.ref p.1)) :: wlL ps.reverse) (((fenv (scOf (topSt 22)) L [(("wire" : Str), wc), (("signs" : Str), sc), (("top" : Str), tc), (("delays" : Str), dc)] (nmOf (topSt 22)) fl cd).locals, .ns es2) :: lc4 wc sc tc dc vw vs vt vd []) σ) (List.Sublist.refl _)
  · refine .take .here (.take .here (.take ((.there (.there (.here)))) ?_))
    refine .drop (.drop (Pick.of_spec (List.Perm.refl _) ?_))
    exact List.Sublist.append (List.Sublist.refl _) (.cons _ (.cons _ (.cons _ (.cons _ (List.Sublist.refl _)))))
end
noncomputable def wAt (ws : List (List Nat)) (top d k i : Nat) : List Nat := if top ≤ i + d then ws.getD (3 * (i + d - top) + k) [] else [64]
noncomputable def rowAt (ws : List (List Nat)) (top d0 d1 d2 i : Nat) : List (List Nat) := [wAt ws top d0 0 i, wAt ws top d1 1 i, wAt ws top d2 2 i]
theorem LLs_of {σ : Hp} : ∀ {ps : List (Addr × List (List Nat))}, (∀ p ∈ ps, (p.1, AO.seq "list" (tws p.2)) ∈ σ) → LLs σ (ps.map (·.1)) (ps.map (·.2))
  | [], _ => trivial
  | p :: r, h => ⟨h p (.head _), LLs_of fun q hq => h q (.tail _ hq)⟩
theorem mem_wlL {p : Addr × List (List Nat)} {ps : List (Addr × List (List Nat))} (h : p ∈ ps) : (p.1, AO.seq "list" (tws p.2)) ∈ wlL ps := List.mem_map.mpr ⟨p, h, rfl⟩
theorem wAt_low {ws : List (List Nat)} (h : ∀ w ∈ ws, ∀ c ∈ w, c < 128) (top d k i : Nat) : ∀ c ∈ wAt ws top d k i, c < 128 := by
  intro c hc
  unfold wAt at hc
  split at hc
  · rcases Nat.lt_or_ge (3 * (i + d - top) + k) ws.length with hl | hl
    · have e : ws.getD (3 * (i + d - top) + k) [] = ws[3 * (i + d - top) + k] := by simp [hl]
      rw [e] at hc
      exact h _ (List.getElem_mem hl) c hc
    · rw [List.getD_eq_getElem?_getD, List.getElem?_eq_none hl] at hc; cases hc
  · simp at hc; (first | lia | omega)
theorem row_low {ws : List (List Nat)} (h : ∀ w ∈ ws, ∀ c ∈ w, c < 128) (top d0 d1 d2 i : Nat) : lowT (rowAt ws top d0 d1 d2 i) := by
  intro x hx c hc
  unfold rowAt at hx
  simp only [List.mem_cons, List.not_mem_nil, or_false] at hx
  rcases hx with rfl | rfl | rfl <;> exact wAt_low h _ _ _ _ c hc
section
variable {X : Cx} {A : Around} {σ : Hp} {E : Value → Shared → Prop} {env : Env}
set_option maxHeartbeats 4000000 in
theorem law_b6 (F : Facts X) {L wc sc tc dc fl asl an am adu ard ap aw ad lx aW : Addr} {cd : Value} {vs : Option Value} {tn st sz dd d0 d1 d2 top : Nat} {text msg : List Nat} {ws : List (List Nat)} {ps : List (Addr × List (List Nat))} {es : List (Str × Value)} {rest : List Stmt} (hb : ∀ x ∈ bL asl tn an am st sz dd adu ard ++ [(("pieces" : Str), .ref ap)] ++ [(("text" : Str), T text)] ++ [(("lexer" : Str), .ref lx)] ++ [(("words" : Str), .ref aW)], x ∈ es)
    (hW : (aW, AO.seq "list" (ps.map fun p : Addr × List (List Nat) => Value.ref p.1)) ∈ σ) (hps : ∀ p ∈ ps, (p.1, AO.seq "list" (tws p.2)) ∈ σ) (hw : (aw, AO.seq "list" (tws ws)) ∈ σ) (hd : (ad, AO.seq "list" [I (d0 : Int), I (d1 : Int), I (d2 : Int)]) ∈ σ) (hm : (am, AO.seq "list" (chs msg)) ∈ σ)
    (h128 : ∀ w ∈ ws, ∀ c ∈ w, c < 128) (htop : top < 4) (b0 : d0 ≤ top) (b1 : d1 ≤ top) (b2 : d2 ≤ top) (mz : msg.length < 900) (hwl : ws.length = 3 * (msg.length + top)) (heq : ps.map (·.2) = (List.range (msg.length + top)).map (rowAt ws top d0 d1 d2)) {n : Nat} (rm : Rm (n + 3) A) {Q : Flow → Hp → Prop}
    (q : XS X A (fenv (scOf (topSt 22)) L [(("wire" : Str), wc), (("signs" : Str), sc), (("top" : Str), tc), (("delays" : Str), dc)] (nmOf (topSt 22)) fl cd) F0 rest (((fenv (scOf (topSt 22)) L [(("wire" : Str), wc), (("signs" : Str), sc), (("top" : Str), tc), (("delays" : Str), dc)] (nmOf (topSt 22)) fl cd).locals, .ns es) :: lc4 wc sc tc dc (some (.ref aw)) vs (some (I (top : Int))) (some (.ref ad)) σ) Q) :
    XS X A (fenv (scOf (topSt 22)) L [(("wire" : Str), wc), (("signs" : Str), sc), (("top" : Str), tc), (("delays" : Str), dc)] (nmOf (topSt 22)) fl cd) F0 (lawB 6 :: rest) (((fenv (scOf (topSt 22)) L [(("wire" : Str), wc), (("signs" : Str), sc), (("top" : Str), tc), (("delays" : Str), dc)] (nmOf (topSt 22)) fl cd).locals, .ns es) :: lc4 wc sc tc dc (some (.ref aw)) vs (some (I (top : Int))) (some (.ref ad)) σ) Q := by
  have hsz := sizeLine_eq
  have hm' : ∀ {x : Addr × AO}, x ∈ σ → ∀ es, x ∈ (((fenv (scOf (topSt 22)) L [(("wire" : Str), wc), (("signs" : Str), sc), (("top" : Str), tc), (("delays" : Str), dc)] (nmOf (topSt 22)) fl cd).locals, AO.ns es) :: lc4 wc sc tc dc (some (.ref aw)) vs (some (I (top : Int))) (some (.ref ad)) σ) := fun h _ => .tail _ (.tail _ (.tail _ (.tail _ (.tail _ h))))
  refine XS_cons ?_
  refine EX_If ?_
  refine TE_Cmp (by kernel_rfl) ?_
  refine EV_loc (by kernel_rfl) (.head _) (hb _ me12) ?_
  refine EV_CompRC [(("wire" : Str), wc), (("delays" : Str), dc)] rm.handled (by kernel_rfl) rfl (by decide +kernel) (fun _ => by rfl) (fun τ K h => CK_skip rfl (CK_cell fun tc => CK_plain (by decide +kernel) (h tc))) (fun _ _ => by kernel_rfl) ?_
  refine EV_CallN (by rfl) ?_; refine EV_builtin F.bRange (by rfl) (by kernel_rfl) (by kernel_rfl) (by rfl) (by rfl) ?_; refine ⟨rfl, ?_⟩
  refine ES_con (by rfl) ?_
  refine EV_BinOp ?_
  refine EV_int ?_
  refine EV_cell (c := tc) (v := I (top : Int)) rfl (by kernel_rfl) (by kernel_rfl) (by kernel_rfl) (by kernel_rfl) me3 ?_
  refine BIN_sub ?_
  refine ES_con (by rfl) ?_
  refine EV_CallN (by rfl) ?_; refine EV_builtin F.bLen (by rfl) (by kernel_rfl) (by kernel_rfl) (by rfl) (by rfl) ?_; refine ⟨rfl, ?_⟩
  refine ES_con (by rfl) ?_
  refine EV_loc (by kernel_rfl) (.head _) (hb _ me3) ?_
  refine ES_nil ?_
  refine ⟨KP_builtin, CW_lenl (hm' hm _) (by simp; (first | lia | omega)) ?_⟩
  rw [show ((chs msg).length : Int) = (msg.length : Int) by simp]
  refine ES_nil ?_
  refine ⟨KP_type, CW_range2 fun r => ?_⟩
  refine ⟨r, 0 - (top : Int), (msg.length : Int), 1, msg.length + top, fun i ys τ => ∃ bs : List (Addr × List (List Nat)), bs.length = i ∧ ys = bs.reverse.map (fun p : Addr × List (List Nat) => Value.ref p.1) ∧ bs.reverse.map (·.2) = (List.range i).map (rowAt ws top d0 d1 d2) ∧ τ = wlL bs ++ ((r, .rng (0 - (top : Int)) (msg.length : Int) 1) :: ((fenv (scOf (topSt 22)) L [(("wire" : Str), wc), (("signs" : Str), sc), (("top" : Str), tc), (("delays" : Str), dc)] (nmOf (topSt 22)) fl cd).locals, .ns es) :: lc4 wc sc tc dc (some (.ref aw)) vs (some (I (top : Int))) (some (.ref ad)) σ), rfl, (.head _), small_one (by (first | lia | omega)) (by (first | lia | omega)) (by (first | lia | omega)) (by (first | lia | omega)), by rw [rangeSize_one]; split <;> (first | lia | omega), by (first | lia | omega), ⟨[], rfl, rfl, rfl, rfl⟩, ?_, ?_⟩
  · rintro C tc' R i hi ys τ ⟨bs, hbl, rfl, hbr, rfl⟩ hly
    refine EV_CompJ [(("wire" : Str), wc), (("t" : Str), tc')] ⟨by kernel_rfl, rfl, by decide +kernel, by decide +kernel⟩ (fun _ => by rfl) ?_
    have hbase : ∀ {x : Addr × AO}, x ∈ (r, .rng (0 - (top : Int)) (msg.length : Int) 1) :: ((fenv (scOf (topSt 22)) L [(("wire" : Str), wc), (("signs" : Str), sc), (("top" : Str), tc), (("delays" : Str), dc)] (nmOf (topSt 22)) fl cd).locals, .ns es) :: lc4 wc sc tc dc (some (.ref aw)) vs (some (I (top : Int))) (some (.ref ad)) σ → x ∈ ((tc', AO.cell (some (I (0 - (top : Int) + (i : Nat) * 1)))) :: (C, .ns []) :: ((wlL bs ++ ((r, .rng (0 - (top : Int)) (msg.length : Int) 1) :: ((fenv (scOf (topSt 22)) L [(("wire" : Str), wc), (("signs" : Str), sc), (("top" : Str), tc), (("delays" : Str), dc)] (nmOf (topSt 22)) fl cd).locals, .ns es) :: lc4 wc sc tc dc (some (.ref aw)) vs (some (I (top : Int))) (some (.ref ad)) σ)) ++ R)) :=
      fun h => .tail _ (.tail _ (List.mem_append_left _ (List.mem_append_right _ h)))
    refine EV_CallN (by rfl) ?_; refine EV_builtin F.bEnum (by rfl) (by kernel_rfl) (by kernel_rfl) (by rfl) (by rfl) ?_; refine ⟨rfl, ?_⟩
    refine ES_con (by rfl) ?_
    refine EV_cell (c := dc) (v := .ref ad) rfl (by kernel_rfl) (by kernel_rfl) (by kernel_rfl) (by kernel_rfl) (hbase me5) ?_
    refine ES_nil ?_
    refine ⟨KP_type, CW_enum (l := ad) (hbase (.tail _ (hm' hd _))) fun e it => ?_⟩
    refine srcJ_enum (e := e) (it := it) (l := ad) (xs := [I (d0 : Int), I (d1 : Int), I (d2 : Int)]) rm.handled rfl (by kernel_rfl) (by kernel_rfl) (by decide +kernel) (fun j ys τ => ys = tws ((rowAt ws top d0 d1 d2 i).take j) ∧ τ = ((tc', AO.cell (some (I (0 - (top : Int) + (i : Nat) * 1)))) :: (C, .ns []) :: ((wlL bs ++ ((r, .rng (0 - (top : Int)) (msg.length : Int) 1) :: ((fenv (scOf (topSt 22)) L [(("wire" : Str), wc), (("signs" : Str), sc), (("top" : Str), tc), (("delays" : Str), dc)] (nmOf (topSt 22)) fl cd).locals, .ns es) :: lc4 wc sc tc dc (some (.ref aw)) vs (some (I (top : Int))) (some (.ref ad)) σ)) ++ R))) ?_ (by simp; (first | lia | omega)) rfl ⟨rfl, rfl⟩ ?_ ?_
    · rintro j ys τ ⟨_, rfl⟩
      exact hbase (.tail _ (hm' hd _))
    · rintro C2 R2 j hj ys τ ⟨rfl, rfl⟩ hl
      have hj3 : j < 3 := by simpa using hj
      have hv : ∃ d : Nat, [I (d0 : Int), I (d1 : Int), I (d2 : Int)][j] = I (d : Int) ∧ d ≤ top ∧ tws ((rowAt ws top d0 d1 d2 i).take j) ++ [T (wAt ws top d j i)] = tws ((rowAt ws top d0 d1 d2 i).take (j + 1)) := by
        match j, hj3 with
        | 0, _ => exact ⟨d0, rfl, b0, rfl⟩
        | 1, _ => exact ⟨d1, rfl, b1, rfl⟩
        | 2, _ => exact ⟨d2, rfl, b2, rfl⟩
      obtain ⟨d, e1, hdt, e2⟩ := hv
      (first | (refine rwG e1 ?_; try (with_reducible rfl)) | rw [e1])
      refine EV_IfExp ?_
      refine TE_Cmp (by kernel_rfl) ?_
      refine EV_BinOp ?_
      refine EV_cell (c := tc') (v := I (0 - (top : Int) + (i : Nat) * 1)) rfl (by kernel_rfl) (by kernel_rfl) (by kernel_rfl) (by kernel_rfl) me1 ?_
      refine EV_loc (by kernel_rfl) (.head _) me1 ?_
      refine BIN_add ?_
      refine EV_int ?_
      refine CMP_ge ?_
      refine TRU_bool ?_
      by_cases h : top ≤ i + d
      · (first | refine ifP (by simp; (first | lia | omega)) ?_ | rw [if_pos (by simp; (first | lia | omega))])
        have hw' : (aw, AO.seq "list" (tws ws)) ∈ ((C2, AO.ns [(Str.ofString "k", I (j : Int)), (Str.ofString "delay", I (d : Int))]) :: ((((tc', AO.cell (some (I (0 - (top : Int) + (i : Nat) * 1)))) :: (C, .ns []) :: ((wlL bs ++ ((r, .rng (0 - (top : Int)) (msg.length : Int) 1) :: ((fenv (scOf (topSt 22)) L [(("wire" : Str), wc), (("signs" : Str), sc), (("top" : Str), tc), (("delays" : Str), dc)] (nmOf (topSt 22)) fl cd).locals, .ns es) :: lc4 wc sc tc dc (some (.ref aw)) vs (some (I (top : Int))) (some (.ref ad)) σ)) ++ R))) ++ R2)) :=
          .tail _ (List.mem_append_left _ (hbase (.tail _ (hm' hw _))))
        refine EV_Sub ?_
        refine EV_cell (c := wc) (v := .ref aw) rfl (by kernel_rfl) (by kernel_rfl) (by kernel_rfl) (by kernel_rfl) (.tail _ (List.mem_append_left _ (hbase me2))) ?_
        refine EV_BinOp (EV_BinOp ?_)
        refine EV_int ?_
        refine EV_BinOp ?_
        refine EV_cell (c := tc') (v := I (0 - (top : Int) + (i : Nat) * 1)) rfl (by kernel_rfl) (by kernel_rfl) (by kernel_rfl) (by kernel_rfl) me1 ?_
        refine EV_loc (by kernel_rfl) (.head _) me1 ?_
        refine BIN_add ?_
        refine BIN_mul (IntMulOk.of_left (by decide)) ?_
        refine EV_loc (by kernel_rfl) (.head _) (.head _) ?_
        refine BIN_add ?_
        rw [show (3 : Int) * (0 - (top : Int) + (i : Nat) * 1 + (d : Int)) + (j : Int) = ((3 * (i + d - top) + j : Nat) : Int) by (first | lia | omega)]
        have hidx : 3 * (i + d - top) + j < ws.length := by (first | lia | omega)
        refine SUB_list hw' (GI_list (v := T (ws.getD (3 * (i + d - top) + j) [])) hw' (by (first | lia | omega)) (by rw [Int.toNat_natCast]; simp [hidx]) (by simp; (first | lia | omega)) ?_)
        refine ⟨_, .refl, ?_, rfl⟩
        (first | (refine rwG e2.symm ?_; try (with_reducible rfl)) | rw [← e2]); unfold wAt; (first | refine ifP h ?_ | rw [if_pos h])
      · (first | refine ifN (by simp; (first | lia | omega)) ?_ | rw [if_neg (by simp; (first | lia | omega))])
        refine EV_txt [64] (by kernel_rfl) ?_
        refine ⟨_, .refl, ?_, rfl⟩
        (first | (refine rwG e2.symm ?_; try (with_reducible rfl)) | rw [← e2]); unfold wAt; (first | refine ifN h ?_ | rw [if_neg h])
    · rintro D ys τ ⟨rfl, rfl⟩ hl
      refine ⟨wlL ((D, rowAt ws top d0 d1 d2 i) :: bs) ++ ((r, .rng (0 - (top : Int)) (msg.length : Int) 1) :: ((fenv (scOf (topSt 22)) L [(("wire" : Str), wc), (("signs" : Str), sc), (("top" : Str), tc), (("delays" : Str), dc)] (nmOf (topSt 22)) fl cd).locals, .ns es) :: lc4 wc sc tc dc (some (.ref aw)) vs (some (I (top : Int))) (some (.ref ad)) σ), (.take (.there (.here)) (.take (.there (.here)) (.refl))), (D, rowAt ws top d0 d1 d2 i) :: bs, by simp [hbl], by simp, by rw [List.range_succ]; simp only [List.reverse_cons, List.map_append, hbr, List.map_cons, List.map_nil], rfl⟩
  · rintro D ys τ ⟨bs, hbl, rfl, hbr, rfl⟩ hly
    refine CMP_neTT (as := ps.map (·.1)) (bs := bs.reverse.map (·.1)) (xs := ps.map (·.2)) (ys := bs.reverse.map (·.2)) (n := n + 2) rm ?_ ?_ (LLs_of fun p hp => ?_) (LLs_of fun p hp => ?_) ?_ ?_ ?_
    · rw [List.map_map]; exact .tail _ (List.mem_append_right _ (.tail _ (hm' hW _)))
    · rw [List.map_map]; exact .head _
    · exact .tail _ (List.mem_append_right _ (.tail _ (hm' (hps p hp) _)))
    · exact .tail _ (List.mem_append_left _ (mem_wlL (List.mem_reverse.mp hp)))
    · (first | (refine rwG heq ?_; try (with_reducible rfl)) | rw [heq]); intro x hx; obtain ⟨i, _, rfl⟩ := List.mem_map.mp hx; exact row_low h128 _ _ _ _ _
    · (first | (refine rwG hbr ?_; try (with_reducible rfl)) | rw [hbr]); intro x hx; obtain ⟨i, _, rfl⟩ := List.mem_map.mp hx; exact row_low h128 _ _ _ _ _
    · refine TRU_bool ?_
      ((first | (refine rwG heq ?_; try (with_reducible rfl)) | rw [heq]); (first | (refine rwG hbr ?_; try (with_reducible rfl)) | rw [hbr]); (first | refine ifN (by simp) ?_ | rw [if_neg (by simp)]))
      refine XS_nil (W_pick ?_ q)
      exact .drop (Pick.of_spec (List.Perm.refl _) (((List.Sublist.refl _).cons _).trans (List.sublist_append_right _ _)))
end
noncomputable def TellsT (text : List Nat) (turn s : Nat) : Prop := (∀ c ∈ text, c < 128) ∧ text.length ≤ 40 ∧
  (∀ s ∈ text, lev text [s, s, s] ((dueOf text s : Int) + (((turn + 2) % 3 : Nat) : Int) - 1) = dueOf text s) ∧
  ∀ cs : List Nat, cs.Pairwise (· < ·) → (∀ c, c ∈ cs ↔ c ∈ text) → nearGo text cs 99 [] = [s]
theorem cnt_c10 (l : List Nat) : cnt 10 l = (c10 l : Int) := by
  induction l with
  | nil => rfl
  | cons c r ih => rw [cnt_cons, c10_cons, ih]; split <;> (first | lia | omega)
theorem nvs_ints (l : List Nat) : nvs l = (l.map fun n : Nat => (n : Int)).map I := by simp
theorem bne_self {α : Type} [BEq α] [LawfulBEq α] (a : α) : (a != a) = false := by simp
section
variable {X : Cx} {A : Around} {σ : Hp} {E : Value → Shared → Prop} {env : Env}
noncomputable abbrev bW (asl : Addr) (tn : Nat) (an am : Addr) (st sz dd : Nat) (adu ard ap : Addr) (text : List Nat) (lx aW : Addr) : List (Str × Value) := bL asl tn an am st sz dd adu ard ++ [(("pieces" : Str), .ref ap)] ++ [(("text" : Str), T text)] ++ [(("lexer" : Str), .ref lx)] ++ [(("words" : Str), .ref aW)]
set_option maxHeartbeats 2000000 in
theorem law_b7 (F : Facts X) {L wc sc tc dc fl asl an am adu ard ap lx aW : Addr} {cd : Value} {vw vs vt vd : Option Value} {tn st sz dd : Nat} {text due : List Nat} {ps : List (Addr × List (List Nat))} {es : List (Str × Value)} {rest : List Stmt} (hb : ∀ x ∈ bW asl tn an am st sz dd adu ard ap text lx aW, x ∈ es)
    (hW : (aW, AO.seq "list" (ps.map fun p : Addr × List (List Nat) => Value.ref p.1)) ∈ σ) (hps : ∀ p ∈ ps, (p.1, AO.seq "list" (tws p.2)) ∈ σ) (hz : ps.length < 1000) (hdl : due.length = ps.length)
    (htell : ∀ i (hi : i < ps.length), TellsT (ps[i].2.flatten) i (due.getD i 0)) {n : Nat} (rm : Rm (n + 6) A) {Q : Flow → Hp → Prop}
    (q : ∀ aT es', (∀ x ∈ bW asl tn an am st sz dd adu ard ap text lx aW ++ [(("told" : Str), .ref aT)], x ∈ es') → XS X A (fenv (scOf (topSt 22)) L [(("wire" : Str), wc), (("signs" : Str), sc), (("top" : Str), tc), (("delays" : Str), dc)] (nmOf (topSt 22)) fl cd) F0 rest (((fenv (scOf (topSt 22)) L [(("wire" : Str), wc), (("signs" : Str), sc), (("top" : Str), tc), (("delays" : Str), dc)] (nmOf (topSt 22)) fl cd).locals, .ns es') :: lc4 wc sc tc dc vw vs vt vd ((aT, .seq "list" (chs due)) :: σ)) Q) :
    XS X A (fenv (scOf (topSt 22)) L [(("wire" : Str), wc), (("signs" : Str), sc), (("top" : Str), tc), (("delays" : Str), dc)] (nmOf (topSt 22)) fl cd) F0 (lawB 7 :: rest) (((fenv (scOf (topSt 22)) L [(("wire" : Str), wc), (("signs" : Str), sc), (("top" : Str), tc), (("delays" : Str), dc)] (nmOf (topSt 22)) fl cd).locals, .ns es) :: lc4 wc sc tc dc vw vs vt vd σ) Q := by
  have hsz := sizeLine_eq
  have hm' : ∀ {x : Addr × AO}, x ∈ σ → ∀ es, x ∈ (((fenv (scOf (topSt 22)) L [(("wire" : Str), wc), (("signs" : Str), sc), (("top" : Str), tc), (("delays" : Str), dc)] (nmOf (topSt 22)) fl cd).locals, AO.ns es) :: lc4 wc sc tc dc vw vs vt vd σ) := fun h _ => .tail _ (.tail _ (.tail _ (.tail _ (.tail _ h))))
  refine XS_cons ?_
  refine EX_AssignCompJ [] (by kernel_rfl) ⟨rfl, rfl, by decide +kernel, by decide +kernel⟩ (fun _ => by rfl) ?_
  refine EV_CallN (by rfl) ?_; refine EV_builtin F.bEnum (by rfl) (by kernel_rfl) (by kernel_rfl) (by rfl) (by rfl) ?_; refine ⟨rfl, ?_⟩
  refine ES_con (by rfl) ?_
  refine EV_loc (by kernel_rfl) (.head _) (hb _ me12) ?_
  refine ES_nil ?_
  refine ⟨KP_type, CW_enum (l := aW) (hm' hW _) fun e it => ?_⟩
  refine srcJ_enum (e := e) (it := it) (l := aW) (xs := ps.map fun p : Addr × List (List Nat) => Value.ref p.1) rm.handled rfl (by kernel_rfl) (by kernel_rfl) (by decide +kernel) (fun i ys τ => ys = chs (due.take i) ∧ τ = ((fenv (scOf (topSt 22)) L [(("wire" : Str), wc), (("signs" : Str), sc), (("top" : Str), tc), (("delays" : Str), dc)] (nmOf (topSt 22)) fl cd).locals, .ns es) :: lc4 wc sc tc dc vw vs vt vd σ) ?_ (by simp; (first | lia | omega)) rfl ⟨rfl, rfl⟩ ?_ ?_
  · rintro i ys τ ⟨_, rfl⟩
    exact hm' hW _
  · rintro C R i hi ys τ ⟨rfl, rfl⟩ hl
    have hi' : i < ps.length := by simpa using hi
    have hid : i < due.length := by (first | lia | omega)
    have hv : (ps.map fun p : Addr × List (List Nat) => Value.ref p.1)[i] = .ref ps[i].1 := by simp
    obtain ⟨t1, t2, t3, t4⟩ := htell i hi'
    (first | (refine rwG hv ?_; try (with_reducible rfl)) | rw [hv])
    refine EV_CallN (by rfl) ?_; refine EV_global F.dNear.glob (by rfl) (by kernel_rfl) (by kernel_rfl) (by rfl) ?_; refine ⟨rfl, ?_⟩
    refine ES_con (by rfl) ?_
    refine EV_Meth (by rfl) (by rfl) ?_
    refine EV_txt [] (by kernel_rfl) ?_
    refine GM_str PySem.F.slot_str_join PySem.F.type_str_join ?_
    refine ⟨rfl, ?_⟩
    refine ES_con (by rfl) ?_
    refine EV_loc (by kernel_rfl) (.head _) me1 ?_
    refine ES_nil ?_
    refine ⟨KP_builtin, CW_join (ys := ps[i].2) (.tail _ (List.mem_append_left _ (hm' (hps _ (List.getElem_mem hi')) _))) (by (first | lia | omega)) ?_⟩
    refine ES_con (by rfl) ?_
    refine EV_loc (by kernel_rfl) (.head _) (.head _) ?_
    refine ES_nil ?_
    refine ⟨KP_base F.dNear.bf.kp, CW_use (c_near F t1 t2 t3 (n := n + 1) rm).any ?_⟩
    rintro v σ' ⟨cs, c1, c2, rfl, rfl⟩
    rw [t4 cs c1 c2]
    refine ⟨_, .refl, ?_, rfl⟩
    rw [List.take_succ_eq_append_getElem hid]; simp only [chs, List.map_append, List.map_cons, List.map_nil]
    simp [hid]
  · rintro D ys τ ⟨rfl, rfl⟩ hl R
    rw [List.take_of_length_le (by simp [hdl])]
    obtain ⟨es', hp⟩ := Put.ex "told" (.ref D) es
    refine ST_loc (by kernel_rfl) (.there (.here)) hp ?_
    refine ⟨_, ?_, q D es' (hp.grow hb (by kernel_rfl))⟩
    exact (.take (.there (.here)) (.take (.there (.here)) (.take (.there (.here)) (.take (.there (.here)) (.take (.there (.here)) (.take (.here) (.refl)))))))
theorem law_b8 (F : Facts X) {L wc sc tc dc fl asl an am adu ard ap lx aW aT : Addr} {cd : Value} {vw vs vt vd : Option Value} {tn st sz dd : Nat} {text due read : List Nat} {es : List (Str × Value)} {rest : List Stmt} {outer : List Env} (hb : ∀ x ∈ bW asl tn an am st sz dd adu ard ap text lx aW ++ [(("told" : Str), .ref aT)], x ∈ es)
    (hT : (aT, AO.seq "list" (chs due)) ∈ σ) (hD : (adu, AO.seq "list" (chs due)) ∈ σ) (hR : (ard, AO.seq "list" (nvs read)) ∈ σ) (h128 : ∀ c ∈ due, c < 128) (hz : due.length < 1000) (hoff : offs due = read) (hfr : A.frames = some outer) (hF : FrIn outer (((fenv (scOf (topSt 22)) L [(("wire" : Str), wc), (("signs" : Str), sc), (("top" : Str), tc), (("delays" : Str), dc)] (nmOf (topSt 22)) fl cd).locals, .ns es) :: lc4 wc sc tc dc vw vs vt vd σ)) {n : Nat} (rm : Rm (n + 6) A) {Q : Flow → Hp → Prop}
    (q : XS X A (fenv (scOf (topSt 22)) L [(("wire" : Str), wc), (("signs" : Str), sc), (("top" : Str), tc), (("delays" : Str), dc)] (nmOf (topSt 22)) fl cd) F0 rest (((fenv (scOf (topSt 22)) L [(("wire" : Str), wc), (("signs" : Str), sc), (("top" : Str), tc), (("delays" : Str), dc)] (nmOf (topSt 22)) fl cd).locals, .ns es) :: lc4 wc sc tc dc vw vs vt vd σ) Q) :
    XS X A (fenv (scOf (topSt 22)) L [(("wire" : Str), wc), (("signs" : Str), sc), (("top" : Str), tc), (("delays" : Str), dc)] (nmOf (topSt 22)) fl cd) F0 (lawB 8 :: rest) (((fenv (scOf (topSt 22)) L [(("wire" : Str), wc), (("signs" : Str), sc), (("top" : Str), tc), (("delays" : Str), dc)] (nmOf (topSt 22)) fl cd).locals, .ns es) :: lc4 wc sc tc dc vw vs vt vd σ) Q := by
  have hsz := sizeLine_eq
  have hm' : ∀ {x : Addr × AO}, x ∈ σ → ∀ es, x ∈ (((fenv (scOf (topSt 22)) L [(("wire" : Str), wc), (("signs" : Str), sc), (("top" : Str), tc), (("delays" : Str), dc)] (nmOf (topSt 22)) fl cd).locals, AO.ns es) :: lc4 wc sc tc dc vw vs vt vd σ) := fun h _ => .tail _ (.tail _ (.tail _ (.tail _ (.tail _ h))))
  refine XS_cons ?_
  refine EX_If ?_
  refine TE_Or ?_
  refine ANY_cons ?_
  refine TE_Cmp (by kernel_rfl) ?_
  refine EV_loc (by kernel_rfl) (.head _) (hb _ me13) ?_
  refine EV_loc (by kernel_rfl) (.head _) (hb _ me7) ?_
  refine CMP_neT (xs := due.map fun c => [c]) (ys := due.map fun c => [c]) (n := n + 5) rm (by (first | (refine rwG chs_eq.symm ?_; try (with_reducible rfl)) | rw [← chs_eq]); exact hm' hT _) (by (first | (refine rwG chs_eq.symm ?_; try (with_reducible rfl)) | rw [← chs_eq]); exact hm' hD _) (lowT_chs h128) (lowT_chs h128) ?_
  refine TRU_bool ?_
  rw [bne_self]
  refine ANY_cons ?_
  refine TE_Cmp (by kernel_rfl) ?_
  refine EV_CallN (by rfl) ?_; refine EV_global F.dOff.glob (by rfl) (by kernel_rfl) (by kernel_rfl) (by rfl) ?_; refine ⟨rfl, ?_⟩
  refine ES_con (by rfl) ?_
  refine EV_loc (by kernel_rfl) (.head _) (hb _ me13) ?_
  refine ES_nil ?_
  refine ⟨KP_base F.dOff.bf.kp, CW_use (c_off F (hm' hT _) h128 hz hfr hF (n := n + 1) rm).any ?_⟩
  rintro v σ' ⟨ao, rfl, rfl⟩
  refine EV_loc (by kernel_rfl) me1 (hb _ me8) ?_
  (first | (refine rwG hoff ?_; try (with_reducible rfl)) | rw [hoff])
  refine CMP_neI (xs := read.map fun n : Nat => (n : Int)) (ys := read.map fun n : Nat => (n : Int)) (n := n + 5) rm (by rw [← nvs_ints]; exact .head _) (by rw [← nvs_ints]; exact .tail _ (hm' hR _)) ?_
  refine TRU_bool ?_
  (first | refine ifN (by simp) ?_ | rw [if_neg (by simp)])
  refine ANY_nil ?_
  (first | refine ifN (by simp) ?_ | rw [if_neg (by simp)])
  exact W_pick (.drop .refl) (XS_nil q)
theorem law_b9 (F : Facts X) {L wc sc tc dc fl asl an am adu ard ap lx ldx st' pb aW aT : Addr} {cd : Value} {vw vs vt vd : Option Value} {tn st sz dd ln : Nat} {text : List Nat} {es : List (Str × Value)} (hb : ∀ x ∈ bW asl tn an am st sz dd adu ard ap text lx aW ++ [(("told" : Str), .ref aT)], x ∈ es)
    (hx : (lx, inst adC ldx) ∈ σ) (hdx : (ldx, AO.ns (lexD ln (.ref st') (.ref pb))) ∈ σ) (hln : ln = 1 + c10 text) {n : Nat} (rm : Rm (n + 6) A) {Q : Flow → Hp → Prop}
    (q : Q .next (((fenv (scOf (topSt 22)) L [(("wire" : Str), wc), (("signs" : Str), sc), (("top" : Str), tc), (("delays" : Str), dc)] (nmOf (topSt 22)) fl cd).locals, .ns es) :: lc4 wc sc tc dc vw vs vt vd σ)) :
    XS X A (fenv (scOf (topSt 22)) L [(("wire" : Str), wc), (("signs" : Str), sc), (("top" : Str), tc), (("delays" : Str), dc)] (nmOf (topSt 22)) fl cd) F0 [lawB 9] (((fenv (scOf (topSt 22)) L [(("wire" : Str), wc), (("signs" : Str), sc), (("top" : Str), tc), (("delays" : Str), dc)] (nmOf (topSt 22)) fl cd).locals, .ns es) :: lc4 wc sc tc dc vw vs vt vd σ) Q := by
  have hsz := sizeLine_eq
  have hm' : ∀ {x : Addr × AO}, x ∈ σ → ∀ es, x ∈ (((fenv (scOf (topSt 22)) L [(("wire" : Str), wc), (("signs" : Str), sc), (("top" : Str), tc), (("delays" : Str), dc)] (nmOf (topSt 22)) fl cd).locals, AO.ns es) :: lc4 wc sc tc dc vw vs vt vd σ) := fun h _ => .tail _ (.tail _ (.tail _ (.tail _ (.tail _ h))))
  refine XS_cons ?_
  refine EX_If ?_
  refine TE_Cmp (by kernel_rfl) ?_
  refine EV_Attr (by rfl) ?_
  refine EV_loc (by kernel_rfl) (.head _) (hb _ me11) ?_
  refine GA_own F.pc (F.own _ (by simp)) (hm' hx _) (hm' hdx _) (.head _) rfl ?_
  refine EV_BinOp ?_
  refine EV_int ?_
  refine EV_Meth (by rfl) (by rfl) ?_
  refine EV_loc (by kernel_rfl) (.head _) (hb _ me10) ?_
  refine GM_str PySem.F.slot_str_count PySem.F.type_str_count ?_
  refine ⟨rfl, ?_⟩
  refine ES_con (by rfl) ?_
  refine EV_txt [10] (by kernel_rfl) ?_
  refine ES_nil ?_
  refine ⟨KP_builtin, CW_count ?_⟩
  refine BIN_add ?_
  refine CMP_ne ?_
  refine TRU_bool ?_
  (first | refine ifN (by rw [hln, cnt_c10]; simp) ?_ | rw [if_neg (by rw [hln, cnt_c10]; simp)])
  exact XS_nil (XS_nil q)
end
noncomputable def textOf (k : Nat) (ws : List (List Nat)) : List Nat := (fullT k ws).take ((fullT k ws).length - 1)
structure PlanOk (slots : List Nat) (tn k top d0 d1 d2 st sz dd : Nat) (due read : List Nat) : Prop where
  size : sz < 15
  full : (fullT k (spoilL slots st sz dd)).length < 1000
  ws128 : ∀ w ∈ spoilL slots st sz dd, ∀ c ∈ w, c < 128
  wsLen : ∀ w ∈ spoilL slots st sz dd, w.length < 1000
  t128 : ∀ c ∈ textOf k (spoilL slots st sz dd), c < 128
  come : ∃ l ts, vint (textOf k (spoilL slots st sz dd)) = some (k, l) ∧ Toks l ts [] ∧ ts.length = 3 * (k / 64) ∧ comeL ts (rep64 (top - d0)) (rep64 (top - d1)) (rep64 (top - d2)) = (List.range tn).map (rowAt (spoilL slots st sz dd) top d0 d1 d2)
  len : due.length = tn
  tell : ∀ i, i < tn → TellsT ((rowAt (spoilL slots st sz dd) top d0 d1 d2 i).flatten) i (due.getD i 0)
  due128 : ∀ c ∈ due, c < 128
  read : offs due = read
section
variable {X : Cx} {A : Around} {σ : Hp} {E : Value → Shared → Prop} {env : Env}
theorem law_turn (F : Facts X) {L wc sc tc dc fl asl an am adu ard ad : Addr} {cd : Value} {vw vs : Option Value} {tn st sz dd n0 n1 n2 n3 n4 n5 d0 d1 d2 top : Nat} {msg slots due read : List Nat} {es : List (Str × Value)} {outer : List Env} (hb : ∀ x ∈ bL asl tn an am st sz dd adu ard, x ∈ es)
    (hl : (asl, AO.seq "list" (chs slots)) ∈ σ) (hn : (an, AO.seq "list" (nvs [n0, n1, n2, n3, n4, n5])) ∈ σ) (hm : (am, AO.seq "list" (chs msg)) ∈ σ) (hd : (ad, AO.seq "list" [I (d0 : Int), I (d1 : Int), I (d2 : Int)]) ∈ σ) (hD : (adu, AO.seq "list" (chs due)) ∈ σ) (hR : (ard, AO.seq "list" (nvs read)) ∈ σ)
    (e0 : d0 = n2 % 4) (e1 : d1 = n2 / 4 % 4) (e2 : d2 = n2 / 16 % 4) (et : top = max (max d0 d1) d2) (etn : tn = msg.length + top) (mz : msg.length ≤ 6) (sl : slots.length = 3 * tn)
    (P : PlanOk slots tn (64 * tn + n2 % 64) top d0 d1 d2 st sz dd due read) (hfr : A.frames = some ((fenv (scOf (topSt 22)) L [(("wire" : Str), wc), (("signs" : Str), sc), (("top" : Str), tc), (("delays" : Str), dc)] (nmOf (topSt 22)) fl cd) :: outer)) (hF : FrIn outer σ) {n : Nat} (rm : Rm (n + 10) A) {Q : Flow → Hp → Prop}
    (q : ∀ es' vw τ, (∀ x ∈ bL asl tn an am st sz dd adu ard, x ∈ es') → Pick (((fenv (scOf (topSt 22)) L [(("wire" : Str), wc), (("signs" : Str), sc), (("top" : Str), tc), (("delays" : Str), dc)] (nmOf (topSt 22)) fl cd).locals, .ns es') :: lc4 wc sc tc dc vw vs (some (I (top : Int))) (some (.ref ad)) σ) τ → Q .next τ) :
    XS X A (fenv (scOf (topSt 22)) L [(("wire" : Str), wc), (("signs" : Str), sc), (("top" : Str), tc), (("delays" : Str), dc)] (nmOf (topSt 22)) fl cd) F0 [lawB 0, lawB 1, lawB 2, lawB 3, lawB 4, lawB 5, lawB 6, lawB 7, lawB 8, lawB 9] (((fenv (scOf (topSt 22)) L [(("wire" : Str), wc), (("signs" : Str), sc), (("top" : Str), tc), (("delays" : Str), dc)] (nmOf (topSt 22)) fl cd).locals, .ns es) :: lc4 wc sc tc dc vw vs (some (I (top : Int))) (some (.ref ad)) σ) Q := by
  obtain ⟨l, ts, hv, htk, hts, hcm⟩ := P.come
  have hk0 : (64 * tn + n2 % 64) % 4 = d0 := (hd0' tn n2).trans e0.symm
  have hk1 : (64 * tn + n2 % 64) / 4 % 4 = d1 := (hd1' tn n2).trans e1.symm
  have hk2 : (64 * tn + n2 % 64) / 16 % 4 = d2 := (hd2' tn n2).trans e2.symm
  have hk3 : (64 * tn + n2 % 64) / 64 = tn := hd3' tn n2
  have htop : top < 4 := max4 et (mod4 e0) (mod4 e1) (mod4 e2)
  refine law_b0 F hb hl (by (first | lia | omega)) P.size (n := n + 7) rm fun aw => ?_
  refine law_b1 F hb (.tail _ hn) (by (first | lia | omega)) (n := n + 7) rm fun ap es1 hb1 => ?_
  have ho : (octs (64 * tn + n2 % 64)).length < 1000 := by have := octs_short (n := 64 * tn + n2 % 64) (by (first | lia | omega)); (first | lia | omega)
  refine law_b2 F hb1 (.head _) (by simp [spoilL]; (first | lia | omega)) ho P.ws128 P.wsLen (n := n + 7) rm fun ax => ?_
  refine law_b3 F hb1 (.head _) P.full (n := n + 7) rm fun es2 hb2 => ?_
  have htz : (textOf (64 * tn + n2 % 64) (spoilL slots st sz dd)).length < 1000 := by have := P.full; unfold textOf; rw [List.length_take]; exact Nat.lt_of_le_of_lt (Nat.min_le_right ..) this
  refine law_b45 F hb2 P.t128 htz hv htk hts (by (first | lia | omega)) (m := top) (by ((first | (refine rwG hk0 ?_; try (with_reducible rfl)) | rw [hk0]); (first | (refine rwG hk1 ?_; try (with_reducible rfl)) | rw [hk1]); (first | (refine rwG hk2 ?_; try (with_reducible rfl)) | rw [hk2])); exact et) (n := n) rm fun es3 lx ldx st' pb aW ps ln' hb3 hps hln => ?_
  rw [hk0, hk1, hk2, hcm] at hps
  have hpl : ps.length = tn := by have := congrArg List.length hps; simpa using this
  have hlnn : ln' = 1 + c10 (textOf (64 * tn + n2 % 64) (spoilL slots st sz dd)) := by have : c10 [] = 0 := rfl; unfold textOf; (first | lia | omega)
  have up : ∀ {x : Addr × AO}, x ∈ σ → x ∈ ((lx, inst adC ldx) :: (ldx, AO.ns (lexD ln' (.ref st') (.ref pb))) :: (aW, .seq "list" (ps.map fun p : Addr × List (List Nat) => Value.ref p.1)) :: (wlL ps.reverse ++ ((ap, .seq "list" (tws ((octs (64 * tn + n2 % 64)).map (fun c => [c]) ++ wrs (spoilL slots st sz dd)))) :: (ax, .seq "list" (tws (wrs (spoilL slots st sz dd)))) :: (aw, .seq "list" (tws (spoilL slots st sz dd))) :: σ))) :=
    fun h => .tail _ (.tail _ (.tail _ (List.mem_append_right _ (.tail _ (.tail _ (.tail _ h))))))
  have hpm : ∀ p ∈ ps, (p.1, AO.seq "list" (tws p.2)) ∈ ((lx, inst adC ldx) :: (ldx, AO.ns (lexD ln' (.ref st') (.ref pb))) :: (aW, .seq "list" (ps.map fun p : Addr × List (List Nat) => Value.ref p.1)) :: (wlL ps.reverse ++ ((ap, .seq "list" (tws ((octs (64 * tn + n2 % 64)).map (fun c => [c]) ++ wrs (spoilL slots st sz dd)))) :: (ax, .seq "list" (tws (wrs (spoilL slots st sz dd)))) :: (aw, .seq "list" (tws (spoilL slots st sz dd))) :: σ))) :=
    fun p hp => .tail _ (.tail _ (.tail _ (List.mem_append_left _ (mem_wlL (List.mem_reverse.mpr hp)))))
  refine law_b6 F hb3 (ws := spoilL slots st sz dd) (d0 := d0) (d1 := d1) (d2 := d2) me2 hpm (.tail _ (.tail _ (.tail _ (List.mem_append_right _ me2)))) (up hd) (up hm) P.ws128 htop (max0 et) (max1 et) (max2 et) (by (first | lia | omega)) (by simp [spoilL]; (first | lia | omega)) (by ((first | (refine rwG hps ?_; try (with_reducible rfl)) | rw [hps]); (first | (refine rwG etn ?_; try (with_reducible rfl)) | rw [etn]))) (n := n + 7) rm ?_
  refine law_b7 F hb3 (due := due) me2 hpm (by (first | lia | omega)) (by rw [P.len, hpl]) (fun i hi => ?_) (n := n + 4) rm fun aT es4 hb4 => ?_
  · have h2 : ps[i].2 = rowAt (spoilL slots st sz dd) top d0 d1 d2 i := by
      have h3 : (ps.map (·.2))[i]'(by simpa using hi) = ((List.range tn).map (rowAt (spoilL slots st sz dd) top d0 d1 d2))[i]'(by simpa using (hpl ▸ hi)) := by simp only [hps]
      simpa using h3
    (first | (refine rwG h2 ?_; try (with_reducible rfl)) | rw [h2])
    exact P.tell i (by (first | lia | omega))
  refine law_b8 F hb4 (.head _) (.tail _ (up hD)) (.tail _ (up hR)) P.due128 (by rw [P.len]; (first | lia | omega)) P.read hfr ?_ (n := n + 4) rm ?_
  · intro env he
    rcases List.mem_cons.mp he with rfl | he
    · exact ⟨by rw [show ((fenv (scOf (topSt 22)) L [(("wire" : Str), wc), (("signs" : Str), sc), (("top" : Str), tc), (("delays" : Str), dc)] (nmOf (topSt 22)) fl cd)).scope.kind = .function by kernel_rfl]; decide, L, es4, rfl, .head _⟩
    · obtain ⟨a, L', es', b, c⟩ := hF env he
      exact ⟨a, L', es', b, .tail _ (.tail _ (.tail _ (.tail _ (.tail _ (.tail _ (up c))))))⟩
  refine law_b9 F hb4 me1 me2 hlnn (n := n + 4) rm ?_
  refine q es4 (some (.ref aw)) _ (fun x hx => hb4 x (List.mem_append_left _ (List.mem_append_left _ (List.mem_append_left _ (List.mem_append_left _ (List.mem_append_left _ hx)))))) ?_
  refine .take .here (.take .here (.take .here (.take .here (.take .here (.drop (.drop (.drop (.drop (Pick.of_spec (List.Perm.refl _) ?_)))))))))
  exact ((((List.Sublist.refl _).cons _).cons _).cons _).trans (List.sublist_append_right _ _)
end
noncomputable abbrev sentOf (msg : List Nat) (top d0 d1 d2 : Nat) : List Nat := sendL (msg ++ List.replicate top 64) (List.replicate d0 64) (List.replicate d1 64) (List.replicate d2 64)
structure LawOk (d0 d1 d2 top : Nat) (msg : List Nat) (s0 s1 n2 n3 n4 n5 : Nat) : Prop where
  slots : sentOf msg top d0 d1 d2 = (List.range (3 * (msg.length + top))).map (slotAt (List.replicate top 64 ++ msg) top d0 d1 d2)
  s128 : ∀ c ∈ sentOf msg top d0 d1 d2, c < 128
  one : oneOf d0 d1 d2 < 3
  other : otherOf d0 d1 d2 < 3
  room : roomOf d0 d1 d2 ≤ 3 * (msg.length + top)
  p0 : PlanOk (sentOf msg top d0 d1 d2) (msg.length + top) (64 * (msg.length + top) + n2 % 64) top d0 d1 d2 (n3 % (3 * (msg.length + top) - roomOf d0 d1 d2 + 1)) (roomOf d0 d1 d2) n4 (List.replicate top 64 ++ msg) [s0, s1]
  p1 : PlanOk (sentOf msg top d0 d1 d2) (msg.length + top) (64 * (msg.length + top) + n2 % 64) top d0 d1 d2 (beginOf d0 d1 d2 (oneOf d0 d1 d2) (otherOf d0 d1 d2) (n5 % msg.length)) (roomOf d0 d1 d2 + 1) (2796160 + n5 / 8 % 128)
    (chgd (List.replicate top 64 ++ msg) (top + n5 % msg.length) (n5 / 8 % 128)) (toldGo 0 (chgd (List.replicate top 64 ++ msg) (top + n5 % msg.length) (n5 / 8 % 128)))
section
variable {X : Cx} {A : Around} {σ : Hp} {E : Value → Shared → Prop} {env : Env}
theorem AE_five {env : Env} {a b c d e : Expr} {u v w x y : Value} {Q : Hp → Prop} (h : AS X A env E a u σ (fun σ₁ => AS X A env E b v σ₁ (fun σ₂ => AS X A env E c w σ₂ (fun σ₃ => AS X A env E d x σ₃ (fun σ₄ => AS X A env E e y σ₄ Q))))) : AE X A env E [a, b, c, d, e] [u, v, w, x, y] σ Q := h
noncomputable abbrev bQ (asl : Addr) (tn : Nat) (an am : Addr) : List (Str × Value) := [(("slots" : Str), .ref asl), (("turns" : Str), I (tn : Int)), (("numbers" : Str), .ref an), (("message" : Str), .ref am)]
set_option maxHeartbeats 4000000 in
theorem law_16 (F : Facts X) {L wc sc tc dc fl asl an am ad ap p0 p1 u0 r0 u1 r1 : Addr} {cd : Value} {vw vs : Option Value} {tn n0 n1 n2 n3 n4 n5 d0 d1 d2 top st0 sz0 dd0 st1 sz1 dd1 : Nat} {msg slots due0 read0 due1 read1 : List Nat} {es : List (Str × Value)} {outer : List Env} (hb : ∀ x ∈ bQ asl tn an am, x ∈ es) (hp : (("plans" : Str), Value.ref ap) ∈ es)
    (hap : (ap, AO.seq "list" [.ref p0, .ref p1]) ∈ σ) (hp0 : (p0, AO.seq "tuple" [I (st0 : Int), I (sz0 : Int), I (dd0 : Int), .ref u0, .ref r0]) ∈ σ) (hp1 : (p1, AO.seq "tuple" [I (st1 : Int), I (sz1 : Int), I (dd1 : Int), .ref u1, .ref r1]) ∈ σ)
    (hu0 : (u0, AO.seq "list" (chs due0)) ∈ σ) (hr0 : (r0, AO.seq "list" (nvs read0)) ∈ σ) (hu1 : (u1, AO.seq "list" (chs due1)) ∈ σ) (hr1 : (r1, AO.seq "list" (nvs read1)) ∈ σ)
    (hl : (asl, AO.seq "list" (chs slots)) ∈ σ) (hn : (an, AO.seq "list" (nvs [n0, n1, n2, n3, n4, n5])) ∈ σ) (hm : (am, AO.seq "list" (chs msg)) ∈ σ) (hd : (ad, AO.seq "list" [I (d0 : Int), I (d1 : Int), I (d2 : Int)]) ∈ σ)
    (e0 : d0 = n2 % 4) (e1 : d1 = n2 / 4 % 4) (e2 : d2 = n2 / 16 % 4) (et : top = max (max d0 d1) d2) (etn : tn = msg.length + top) (mz : msg.length ≤ 6) (sl : slots.length = 3 * tn)
    (P0 : PlanOk slots tn (64 * tn + n2 % 64) top d0 d1 d2 st0 sz0 dd0 due0 read0) (P1 : PlanOk slots tn (64 * tn + n2 % 64) top d0 d1 d2 st1 sz1 dd1 due1 read1) (hfr : A.frames = some ((fenv (scOf (topSt 22)) L [(("wire" : Str), wc), (("signs" : Str), sc), (("top" : Str), tc), (("delays" : Str), dc)] (nmOf (topSt 22)) fl cd) :: outer)) (hF : FrIn outer σ) {n : Nat} (rm : Rm (n + 10) A) {Q : Flow → Hp → Prop}
    (q : ∀ τ, Q (.ret (.bool true)) τ) :
    XS X A (fenv (scOf (topSt 22)) L [(("wire" : Str), wc), (("signs" : Str), sc), (("top" : Str), tc), (("delays" : Str), dc)] (nmOf (topSt 22)) fl cd) F0 [nthSt (bodyOf (topSt 22)) 16, nthSt (bodyOf (topSt 22)) 17] (((fenv (scOf (topSt 22)) L [(("wire" : Str), wc), (("signs" : Str), sc), (("top" : Str), tc), (("delays" : Str), dc)] (nmOf (topSt 22)) fl cd).locals, .ns es) :: lc4 wc sc tc dc vw vs (some (I (top : Int))) (some (.ref ad)) σ) Q := by
  have hsz := sizeLine_eq
  have hbody : forBody (nthSt (bodyOf (topSt 22)) 16) = [lawB 0, lawB 1, lawB 2, lawB 3, lawB 4, lawB 5, lawB 6, lawB 7, lawB 8, lawB 9] := by rfl
  refine XS_cons ?_
  refine EX_ForList rm.handled (fun _ => by rfl) (fun l xs i τ => ∃ es vw, l = ap ∧ xs = [.ref p0, .ref p1] ∧ (∀ x ∈ bQ asl tn an am, x ∈ es) ∧ τ = ((fenv (scOf (topSt 22)) L [(("wire" : Str), wc), (("signs" : Str), sc), (("top" : Str), tc), (("delays" : Str), dc)] (nmOf (topSt 22)) fl cd).locals, .ns es) :: lc4 wc sc tc dc vw vs (some (I (top : Int))) (some (.ref ad)) σ) ?_
  refine EV_loc (by kernel_rfl) (.head _) hp ?_
  refine ⟨ap, [.ref p0, .ref p1], rfl, ?_, ⟨es, vw, rfl, rfl, hb, rfl⟩, ?_, ?_⟩
  · rintro i τ ⟨es', vw', _, _, _, rfl⟩
    exact .tail _ (.tail _ (.tail _ (.tail _ (.tail _ hap))))
  · rintro τ ⟨es', vw', _, _, _, rfl⟩
    refine XS_cons ?_
    refine EX_Return ?_
    refine EV_bool ?_
    exact q _
  · rintro i hi τ it ⟨es', vw', _, _, hb', rfl⟩
    have hv : ∃ (p u r : Addr) (st sz dd : Nat) (due read : List Nat), [Value.ref p0, Value.ref p1][i] = .ref p ∧ (p, AO.seq "tuple" [I (st : Int), I (sz : Int), I (dd : Int), .ref u, .ref r]) ∈ σ ∧ (u, AO.seq "list" (chs due)) ∈ σ ∧ (r, AO.seq "list" (nvs read)) ∈ σ ∧ PlanOk slots tn (64 * tn + n2 % 64) top d0 d1 d2 st sz dd due read := by
      match i, hi with
      | 0, _ => exact ⟨p0, u0, r0, st0, sz0, dd0, due0, read0, rfl, hp0, hu0, hr0, P0⟩
      | 1, _ => exact ⟨p1, u1, r1, st1, sz1, dd1, due1, read1, rfl, hp1, hu1, hr1, P1⟩
    obtain ⟨p, u, r, st, sz, dd, due, read, ev, hpp, hu, hr, P⟩ := hv
    (first | (refine rwG ev ?_; try (with_reducible rfl)) | rw [ev])
    refine LG_tupL (.head _) ?_
    refine AS_Tuple rm.handled (.tail _ (.tail _ (.tail _ (.tail _ (.tail _ (.tail _ hpp)))))) rfl rfl (AE_five (AS_Name ?_))
    obtain ⟨f1, q1⟩ := Put.ex "start" (I (st : Int)) es'
    refine ST_loc (by kernel_rfl) (.there (.here)) q1 (AS_Name ?_)
    obtain ⟨f2, q2⟩ := Put.ex "size" (I (sz : Int)) f1
    refine ST_loc (by kernel_rfl) (.there (.here)) q2 (AS_Name ?_)
    obtain ⟨f3, q3⟩ := Put.ex "deed" (I (dd : Int)) f2
    refine ST_loc (by kernel_rfl) (.there (.here)) q3 (AS_Name ?_)
    obtain ⟨f4, q4⟩ := Put.ex "due" (.ref u) f3
    refine ST_loc (by kernel_rfl) (.there (.here)) q4 (AS_Name ?_)
    obtain ⟨f5, q5⟩ := Put.ex "read" (.ref r) f4
    refine ST_loc (by kernel_rfl) (.there (.here)) q5 ?_
    have k5 := q5.grow (q4.grow (q3.grow (q2.grow (q1.grow hb' (by kernel_rfl)) (by kernel_rfl)) (by kernel_rfl)) (by kernel_rfl)) (by kernel_rfl)
    have k6 : ∀ x ∈ bL asl tn an am st sz dd u r, x ∈ f5 := k5
    refine W_pick (σ' := ((fenv (scOf (topSt 22)) L [(("wire" : Str), wc), (("signs" : Str), sc), (("top" : Str), tc), (("delays" : Str), dc)] (nmOf (topSt 22)) fl cd).locals, .ns f5) :: lc4 wc sc tc dc vw' vs (some (I (top : Int))) (some (.ref ad)) ((it, LI ap (i + 1)) :: σ)) (.take (.there (.here)) (.take (.there (.here)) (.take (.there (.here)) (.take (.there (.here)) (.take (.there (.here)) (.refl)))))) ?_
    refine law_turn F k6 (.tail _ hl) (.tail _ hn) (.tail _ hm) (.tail _ hd) (.tail _ hu) (.tail _ hr) e0 e1 e2 et etn mz sl P hfr (fun e he => ?_) (n := n) rm ?_
    · obtain ⟨a, L', g, b, c⟩ := hF e he
      exact ⟨a, L', g, b, .tail _ c⟩
    intro es'' vw'' τ hb'' hpk
    refine ⟨_, Pick.trans (b := ((fenv (scOf (topSt 22)) L [(("wire" : Str), wc), (("signs" : Str), sc), (("top" : Str), tc), (("delays" : Str), dc)] (nmOf (topSt 22)) fl cd).locals, .ns es'') :: lc4 wc sc tc dc vw'' vs (some (I (top : Int))) (some (.ref ad)) ((it, LI ap (i + 1)) :: σ)) ((.take (.there (.there (.there (.there (.there (.here)))))) (.refl))) hpk, es'', vw'', rfl, rfl, fun x hx => hb'' x ?_, rfl⟩
    exact List.mem_append_left [(("start" : Str), I (st : Int)), (("size" : Str), I (sz : Int)), (("deed" : Str), I (dd : Int)), (("due" : Str), .ref u), (("read" : Str), .ref r)] hx
end
section
variable {X : Cx} {A : Around} {σ : Hp} {E : Value → Shared → Prop} {env : Env}
theorem six_of {l : List Nat} (h : l.length = 6) : ∃ a b c d e f, l = [a, b, c, d, e, f] := by
  match l, h with
  | [a, b, c, d, e, f], _ => exact ⟨a, b, c, d, e, f, rfl⟩
set_option maxHeartbeats 4000000 in
theorem c_law (F : Facts X) {fl as : Addr} {ns : List Int} {items : Array Value} {outer : List Env} (B : BF X fl (nmOf (topSt 22)) (asOf (topSt 22)) (bodyOf (topSt 22)) (scOf (topSt 22))) (hbs : X.h₀.IsList as items) (hes : items.toList.map er = ns.map I) (hz : ns.length < 1000)
    (M : ∀ n0 n1 n2 n3 n4 n5, numsOf ns = [n0, n1, n2, n3, n4, n5] → LawOk (n2 % 4) (n2 / 4 % 4) (n2 / 16 % 4) (max (max (n2 % 4) (n2 / 4 % 4)) (n2 / 16 % 4)) (octs (n0 % 262144) ++ octs (n1 % 262144)) (n0 % 262144) (n1 % 262144) n2 n3 n4 n5)
    (hfr : A.frames = some outer) (hF : FrIn outer σ) {n : Nat} (rm : Rm (n + 11) A) :
    CC X A F0 (.ref fl) [.ref as] σ (fun v σ' => v = .bool true) := by
  obtain ⟨n0, n1, n2, n3, n4, n5, hns⟩ := six_of (numsOf_len ns)
  have K := M _ _ _ _ _ _ hns
  have hl0 := octs_short (show n0 % 262144 < 2 ^ 18 by omega)
  have hl1 := octs_short (show n1 % 262144 < 2 ^ 18 by omega)
  have hl2 := octs_pos (n0 % 262144)
  generalize hmsg : octs (n0 % 262144) ++ octs (n1 % 262144) = msg at K
  have hml : msg.length ≤ 6 ∧ 0 < msg.length := by rw [← hmsg, List.length_append]; omega
  refine CC_def rm B.fn rfl rfl (by decide +kernel) rfl fun cd L => ?_
  refine CK_skip rfl (CK_skip rfl (CK_skip rfl (CK_cell fun dc => CK_skip rfl (CK_cell fun tc => CK_skip rfl (CK_cell fun sc => ?_)))))
  refine CK_skip rfl (CK_skip rfl (CK_skip rfl (CK_skip rfl (CK_skip rfl (CK_skip rfl (CK_skip rfl (CK_skip rfl (CK_skip rfl (CK_skip rfl (CK_skip rfl (CK_skip rfl (CK_skip rfl (CK_skip rfl ?_)))))))))))))
  refine CK_cell fun wc => CK_plain (by decide +kernel) ?_
  refine BD_cons ?_
  refine ST_loc (by kernel_rfl) (.there (.there (.there (.there (.here))))) .nil ?_
  refine BD_nil ?_
  have hfr' := Around.frames_deeper (env := (fenv (scOf (topSt 22)) L [(("wire" : Str), wc), (("signs" : Str), sc), (("top" : Str), tc), (("delays" : Str), dc)] (nmOf (topSt 22)) fl cd)) hfr
  have rm' : Rm (n + 10) (A.deeper (fenv (scOf (topSt 22)) L [(("wire" : Str), wc), (("signs" : Str), sc), (("top" : Str), tc), (("delays" : Str), dc)] (nmOf (topSt 22)) fl cd)) := rm.deeper _
  refine W_pick (σ' := ((fenv (scOf (topSt 22)) L [(("wire" : Str), wc), (("signs" : Str), sc), (("top" : Str), tc), (("delays" : Str), dc)] (nmOf (topSt 22)) fl cd).locals, .ns [(("script" : Str), .ref as)]) :: lc4 wc sc tc dc none none none none σ) (.take (.there (.there (.there (.there (.here))))) (.refl)) ?_
  have hbody : bodyOf (topSt 22) = [nthSt (bodyOf (topSt 22)) 0, nthSt (bodyOf (topSt 22)) 1, nthSt (bodyOf (topSt 22)) 2, nthSt (bodyOf (topSt 22)) 3, nthSt (bodyOf (topSt 22)) 4, nthSt (bodyOf (topSt 22)) 5, nthSt (bodyOf (topSt 22)) 6, nthSt (bodyOf (topSt 22)) 7, nthSt (bodyOf (topSt 22)) 8, nthSt (bodyOf (topSt 22)) 9, nthSt (bodyOf (topSt 22)) 10, nthSt (bodyOf (topSt 22)) 11, nthSt (bodyOf (topSt 22)) 12, nthSt (bodyOf (topSt 22)) 13, nthSt (bodyOf (topSt 22)) 14, nthSt (bodyOf (topSt 22)) 15, nthSt (bodyOf (topSt 22)) 16, nthSt (bodyOf (topSt 22)) 17] := by rfl
  (first | (refine rwG hbody ?_; try (with_reducible rfl)) | rw [hbody])
  refine XS_cons ?_
  refine law_0 F hbs hes hz (n := n + 8) rm' fun an => ?_
  (first | (refine rwG hns ?_; try (with_reducible rfl)) | rw [hns])
  refine law_12 F fun a1 ad => ?_
  refine XS_cons ?_
  refine law_3 F (by omega) (by omega) me1 (n := n + 7) rm' fun am => ?_
  (first | (refine rwG hmsg ?_; try (with_reducible rfl)) | rw [hmsg])
  refine law_47 F (msg := msg) (by omega) (by omega) (by omega) (by omega) (.head _) me1 (n := n + 2) rm' fun asl asg => ?_
  generalize ht : max (max (n2 % 4) (n2 / 4 % 4)) (n2 / 16 % 4) = top at K ⊢
  generalize hd0 : n2 % 4 = d0 at K ht ⊢
  generalize hd1 : n2 / 4 % 4 = d1 at K ht ⊢
  generalize hd2 : n2 / 16 % 4 = d2 at K ht ⊢
  have b0 : d0 < 4 := hd0 ▸ Nat.mod_lt _ (by decide)
  have b1 : d1 < 4 := hd1 ▸ Nat.mod_lt _ (by decide)
  have b2 : d2 < 4 := hd2 ▸ Nat.mod_lt _ (by decide)
  have bt : top < 4 := max4 ht.symm b0 b1 b2
  have hsl : (sentOf msg top d0 d1 d2).length = 3 * (msg.length + top) := by rw [K.slots]; simp
  refine XS_cons ?_
  refine law_8 F (d0 := d0) (d1 := d1) (d2 := d2) (slots := sentOf msg top d0 d1 d2) (signs := List.replicate top 64 ++ msg) (max0 ht.symm) (max1 ht.symm) (max2 ht.symm) bt (by simp; omega) (by omega) (.head _) me1 me3 K.s128 K.slots (n := n + 9) rm' ?_
  refine law_9 F (asg := asg) b0 b1 b2 me3 (n := n + 9) rm' ?_
  refine law_1013 F (d0 := d0) (d1 := d1) (d2 := d2) (m := msg) (signs := List.replicate top 64 ++ msg) bt hml.2 (by omega) (by simp; omega) K.one K.other me5 me2 me1 me3 (n := n + 9) rm' fun ac => ?_
  refine law_1415 F (cg := chgd (List.replicate top 64 ++ msg) (top + n5 % msg.length) (n5 / 8 % 128)) (by simp [chgd]; omega) K.room me6 (.head _) (n := n + 7) rm' fun ap p0 p1 ar => ?_
  refine law_16 F (p0 := p0) (p1 := p1) (d0 := d0) (d1 := d1) (d2 := d2) (outer := outer) (fun x hx => ?_) me13 (.head _) me3 me1 me6 me9 me4 me2 me5 me10 me7 me8 hd0.symm hd1.symm hd2.symm ht.symm rfl hml.1 hsl K.p0 K.p1 hfr' (fun e he => ?_) (n := n) rm' fun τ => ⟨τ, .refl, rfl⟩
  · simp only [List.mem_cons, List.not_mem_nil, or_false] at hx
    rcases hx with rfl | rfl | rfl | rfl
    · exact me5
    · exact me4
    · exact me1
    · exact me3
  · obtain ⟨a, L', g, b, c⟩ := hF e he
    exact ⟨a, L', g, b, List.mem_append_right [_, _, _, _, _, _, _, _, _, _, _] c⟩
end
theorem vac_hi (n : Nat) : ∀ r, vac 0 ((hiF n).reverse ++ r) = vac (n / 64) r := by
  induction n using Nat.strongRecOn with
  | ind n ih =>
    intro r
    (first | (refine rwG hiF_eq ?_; try (with_reducible rfl)) | rw [hiF_eq])
    split
    · rw [List.reverse_cons, List.append_assoc, List.singleton_append, ih _ (by (first | lia | omega)), vac_cons, if_pos (by (first | lia | omega))]
      congr 1; (first | lia | omega)
    · rw [show n / 64 = 0 by (first | lia | omega)]; rfl
theorem vint_octs (n : Nat) (r : List Nat) : vint (octs n ++ r) = some (n, r) := by
  rw [vint_vac]
  show vac 0 ((n % 64 :: hiF n).reverse ++ r) = _
  rw [List.reverse_cons, List.append_assoc, List.singleton_append, vac_hi, vac_cons, if_neg (by (first | lia | omega))]
  congr 2; (first | lia | omega)
theorem told_hi (n : Nat) : ∀ r, toldGo 0 ((hiF n).reverse ++ r) = toldGo (n / 64) r := by
  induction n using Nat.strongRecOn with
  | ind n ih =>
    intro r
    (first | (refine rwG hiF_eq ?_; try (with_reducible rfl)) | rw [hiF_eq])
    split
    · rw [List.reverse_cons, List.append_assoc, List.singleton_append, ih _ (by (first | lia | omega)), toldGo_cons, if_neg (by (first | lia | omega)), Nat.add_mod_left, Nat.mod_mod, Nat.div_add_mod]
    · rw [show n / 64 = 0 by (first | lia | omega)]; rfl
theorem told_octs (n : Nat) (r : List Nat) : toldGo 0 (octs n ++ r) = n :: toldGo 0 r := by
  show toldGo 0 ((n % 64 :: hiF n).reverse ++ r) = _
  rw [List.reverse_cons, List.append_assoc, List.singleton_append, told_hi, toldGo_cons, if_pos (by (first | lia | omega))]
  congr 1; (first | lia | omega)
theorem told_rep (n : Nat) (r : List Nat) : toldGo 0 (List.replicate n 64 ++ r) = toldGo 0 r := by
  induction n with
  | zero => rfl
  | succ n ih => rw [List.replicate_succ, List.cons_append, toldGo_cons, if_neg (by omega)]; exact ih
theorem offs_eq (l : List Nat) : offs l = toldGo 0 l := rfl
theorem offs_sent (top s0 s1 : Nat) : offs (List.replicate top 64 ++ (octs s0 ++ octs s1)) = [s0, s1] := by
  rw [offs_eq, told_rep, told_octs]
  have := told_octs s1 []
  rw [List.append_nil] at this
  (first | (refine rwG this ?_; try (with_reducible rfl)) | rw [this]); rfl
noncomputable def core (w : List Nat) (m : Nat) : List Nat := if m = 0 ∨ w = [] then [34] ++ esc [34, 92] w ++ [34] else lead34 (esc (if m = 1 then [92, 10, 9, 13, 32] else w) w)
theorem quo_34 (acc r : List Nat) : quo acc (34 :: r) = some (acc, r) := by rw [quo.eq_def]; dsimp only; (first | refine ifP rfl ?_ | rw [if_pos rfl])
theorem quo_92 (acc r : List Nat) (d : Nat) : quo acc (92 :: d :: r) = quo (acc ++ [d]) r := by rw [quo.eq_def]; dsimp only; ((first | refine ifN (by decide) ?_ | rw [if_neg (by decide)]); (first | refine ifP rfl ?_ | rw [if_pos rfl]))
theorem quo_o (acc r : List Nat) {c : Nat} (h1 : c ≠ 34) (h2 : c ≠ 92) : quo acc (c :: r) = quo (acc ++ [c]) r := by rw [quo.eq_def]; dsimp only; ((first | refine ifN h1 ?_ | rw [if_neg h1]); (first | refine ifN h2 ?_ | rw [if_neg h2]))
theorem bare_w (acc r : List Nat) {c : Nat} (h : isW c = true) : bare' acc (c :: r) = some (acc, r) := by rw [bare'.eq_def]; dsimp only; (first | refine ifP h ?_ | rw [if_pos h])
theorem bare_92 (acc r : List Nat) (d : Nat) : bare' acc (92 :: d :: r) = bare' (acc ++ [d]) r := by rw [bare'.eq_def]; dsimp only; ((first | refine ifN (by decide) ?_ | rw [if_neg (by decide)]); (first | refine ifP rfl ?_ | rw [if_pos rfl]))
theorem bare_o (acc r : List Nat) {c : Nat} (h1 : isW c = false) (h2 : c ≠ 92) : bare' acc (c :: r) = bare' (acc ++ [c]) r := by rw [bare'.eq_def]; dsimp only; ((first | refine ifN (by rw [h1]; decide) ?_ | rw [if_neg (by rw [h1]; decide)]); (first | refine ifN h2 ?_ | rw [if_neg h2]))
theorem tok_w (r : List Nat) {c : Nat} (h : isW c = true) : tok (c :: r) = tok r := by rw [tok.eq_def]; dsimp only; (first | refine ifP h ?_ | rw [if_pos h])
theorem tok_34 (r : List Nat) : tok (34 :: r) = quo [] r := by rw [tok.eq_def]; dsimp only; ((first | refine ifN (by decide) ?_ | rw [if_neg (by decide)]); (first | refine ifP rfl ?_ | rw [if_pos rfl]))
theorem tok_92 (r : List Nat) (d : Nat) : tok (92 :: d :: r) = bare' [d] r := by rw [tok.eq_def]; dsimp only; ((first | refine ifN (by decide) ?_ | rw [if_neg (by decide)]); (first | refine ifN (by decide) ?_ | rw [if_neg (by decide)]); (first | refine ifP rfl ?_ | rw [if_pos rfl]))
theorem tok_o (r : List Nat) {c : Nat} (h1 : isW c = false) (h2 : c ≠ 34) (h3 : c ≠ 92) : tok (c :: r) = bare' [c] r := by rw [tok.eq_def]; dsimp only; ((first | refine ifN (by rw [h1]; decide) ?_ | rw [if_neg (by rw [h1]; decide)]); (first | refine ifN h2 ?_ | rw [if_neg h2]); (first | refine ifN h3 ?_ | rw [if_neg h3]))
theorem esc_cons (r : List Nat) (c : Nat) (w : List Nat) : esc r (c :: w) = esc1 r c ++ esc r w := rfl
theorem esc1_ne (r : List Nat) (c : Nat) : esc1 r c ≠ [] := by unfold esc1; split <;> simp
theorem lead34_app {l : List Nat} (h : l ≠ []) (b : List Nat) : lead34 (l ++ b) = lead34 l ++ b := by
  cases l with
  | nil => exact absurd rfl h
  | cons c r =>
    have e : ∀ l : List Nat, lead34 (c :: l) = if c = 34 then 92 :: c :: l else c :: l := fun l => rfl
    rw [List.cons_append, e, e]
    split <;> rfl
set_option tactic.hygienic true in
theorem writ_core (w : List Nat) (m b : Nat) : writ w m b = core w m ++ [b] := by
  unfold writ core
  split
  · rfl
  · rename_i h
    have hw : w ≠ [] := fun e => h (.inr e)
    refine lead34_app ?_ _
    cases w with
    | nil => exact absurd rfl hw
    | cons c r => rw [esc_cons]; intro e; exact esc1_ne _ _ (List.append_eq_nil_iff.mp e).1
theorem quo_esc : ∀ (w acc rest : List Nat), quo acc (esc [34, 92] w ++ 34 :: rest) = some (acc ++ w, rest)
  | [], acc, rest => by
    show quo acc (34 :: rest) = _
    rw [quo_34, List.append_nil]
  | c :: w, acc, rest => by
    rw [esc_cons]
    unfold esc1
    by_cases h : c ∈ [34, 92]
    · rw [if_pos h, List.append_assoc]
      show quo acc (92 :: c :: (esc [34, 92] w ++ 34 :: rest)) = _
      rw [quo_92, quo_esc w]; simp
    · rw [if_neg h, List.append_assoc]
      show quo acc (c :: (esc [34, 92] w ++ 34 :: rest)) = _
      simp only [List.mem_cons, List.not_mem_nil, or_false, not_or] at h
      rw [quo_o _ _ h.1 h.2, quo_esc w]; simp
theorem bare_esc (r : List Nat) : ∀ (w acc tl : List Nat), (∀ c ∈ w, c ∈ r ∨ (isW c = false ∧ c ≠ 92)) → bare' acc (esc r w ++ tl) = bare' (acc ++ w) tl
  | [], acc, tl, _ => by show bare' acc tl = _; rw [List.append_nil]
  | c :: w, acc, tl, h => by
    rw [esc_cons]
    unfold esc1
    by_cases hc : c ∈ r
    · rw [if_pos hc, List.append_assoc]
      show bare' acc (92 :: c :: (esc r w ++ tl)) = _
      rw [bare_92, bare_esc r w _ _ fun d hd => h d (.tail _ hd)]; simp
    · rw [if_neg hc, List.append_assoc]
      show bare' acc (c :: (esc r w ++ tl)) = _
      obtain ⟨h1, h2⟩ := (h c (.head _)).resolve_left hc
      rw [bare_o _ _ h1 h2, bare_esc r w _ _ fun d hd => h d (.tail _ hd)]; simp
theorem tok_bare (r : List Nat) (w tl : List Nat) (hw : w ≠ []) (h : ∀ c ∈ w, c ∈ r ∨ (isW c = false ∧ c ≠ 92)) : tok (lead34 (esc r w) ++ tl) = bare' w tl := by
  cases w with
  | nil => exact absurd rfl hw
  | cons c w =>
    have hr := fun d hd => h d (List.mem_cons_of_mem c hd)
    rw [esc_cons]
    unfold esc1
    by_cases hc : c ∈ r
    · (first | refine ifP hc ?_ | rw [if_pos hc])
      show tok (92 :: c :: (esc r w ++ tl)) = _
      rw [tok_92, bare_esc r w _ _ hr]; rfl
    · (first | refine ifN hc ?_ | rw [if_neg hc])
      obtain ⟨h1, h2⟩ := (h c (.head _)).resolve_left hc
      by_cases h34 : c = 34
      · subst h34
        show tok (92 :: 34 :: (esc r w ++ tl)) = _
        rw [tok_92, bare_esc r w _ _ hr]; rfl
      · have e : lead34 ([c] ++ esc r w) = c :: esc r w := by unfold lead34; (first | refine ifN (by simpa using h34) ?_ | rw [if_neg (by simpa using h34)]); rfl
        (first | (refine rwG e ?_; try (with_reducible rfl)) | rw [e])
        show tok (c :: (esc r w ++ tl)) = _
        rw [tok_o _ h1 h34 h2, bare_esc r w _ _ hr]; rfl
theorem tok_core (w : List Nat) (m : Nat) (tl : List Nat) : tok (core w m ++ tl) = if m = 0 ∨ w = [] then some (w, tl) else bare' w tl := by
  unfold core
  by_cases h : m = 0 ∨ w = []
  · ((first | refine ifP h ?_ | rw [if_pos h]); (first | refine ifP h ?_ | rw [if_pos h]))
    show tok (34 :: (esc [34, 92] w ++ [34] ++ tl)) = _
    rw [tok_34, List.append_assoc, List.singleton_append, quo_esc]; rfl
  · ((first | refine ifN h ?_ | rw [if_neg h]); (first | refine ifN h ?_ | rw [if_neg h]))
    refine tok_bare _ w tl (fun e => h (.inr e)) fun c hc => ?_
    by_cases hm : m = 1
    · (first | refine ifP hm ?_ | rw [if_pos hm])
      by_cases hi : c ∈ [92, 10, 9, 13, 32]
      · exact .inl hi
      · simp only [List.mem_cons, List.not_mem_nil, or_false, not_or] at hi
        exact .inr ⟨by simp [isW, hi], hi.1⟩
    · (first | refine ifN hm ?_ | rw [if_neg hm]); exact .inl hc
theorem tok_ws : ∀ (pre l : List Nat), (∀ c ∈ pre, isW c = true) → tok (pre ++ l) = tok l
  | [], l, _ => rfl
  | c :: pre, l, h => by
    show tok (c :: (pre ++ l)) = _
    rw [tok_w _ (h c (.head _))]
    exact tok_ws pre l fun d hd => h d (.tail _ hd)
theorem tok_end (w : List Nat) (m : Nat) : tok (core w m) = some (w, []) := by
  have := tok_core w m []
  rw [List.append_nil] at this
  (first | (refine rwG this ?_; try (with_reducible rfl)) | rw [this])
  split
  · rfl
  · simp [bare']
theorem tok_next (w : List Nat) (m b : Nat) (hb : isW b = true) (l : List Nat) : ∃ pre, (∀ c ∈ pre, isW c = true) ∧ tok (writ w m b ++ l) = some (w, pre ++ l) := by
  rw [writ_core, List.append_assoc, List.singleton_append, tok_core]
  by_cases h : m = 0 ∨ w = []
  · (first | refine ifP h ?_ | rw [if_pos h]); exact ⟨[b], by simpa using hb, rfl⟩
  · (first | refine ifN h ?_ | rw [if_neg h]); exact ⟨[], by simp, by rw [bare_w _ _ hb]; rfl⟩
noncomputable def textI : List (List Nat × Nat × Nat) → List Nat
  | [] => []
  | [x] => core x.1 x.2.1
  | x :: y :: r => writ x.1 x.2.1 x.2.2 ++ textI (y :: r)
noncomputable def flatI (items : List (List Nat × Nat × Nat)) : List Nat := (items.map fun x => writ x.1 x.2.1 x.2.2).flatten
theorem textI_flat : ∀ (items : List (List Nat × Nat × Nat)), items ≠ [] → ∃ b, flatI items = textI items ++ [b]
  | [], h => absurd rfl h
  | [x], _ => ⟨x.2.2, by simp [flatI, textI, writ_core]⟩
  | x :: y :: r, _ => by
    obtain ⟨b, hb⟩ := textI_flat (y :: r) (by simp)
    refine ⟨b, ?_⟩
    show writ x.1 x.2.1 x.2.2 ++ flatI (y :: r) = writ x.1 x.2.1 x.2.2 ++ textI (y :: r) ++ [b]
    rw [hb, List.append_assoc]
theorem toks_I : ∀ (items : List (List Nat × Nat × Nat)) (pre : List Nat), items ≠ [] → (∀ c ∈ pre, isW c = true) → (∀ x ∈ items, isW x.2.2 = true) → Toks (pre ++ textI items) (items.map (·.1)) []
  | [], _, h, _, _ => absurd rfl h
  | [x], pre, _, hp, _ => ⟨[], by rw [tok_ws _ _ hp]; exact tok_end _ _, rfl⟩
  | x :: y :: r, pre, _, hp, hw => by
    obtain ⟨pre', h1, h2⟩ := tok_next x.1 x.2.1 x.2.2 (hw x (.head _)) (textI (y :: r))
    exact ⟨_, by rw [tok_ws _ _ hp]; exact h2, toks_I (y :: r) pre' (by simp) h1 fun z hz => hw z (.tail _ hz)⟩
noncomputable def itemsOf (ws : List (List Nat)) : List (List Nat × Nat × Nat) := (List.range ws.length).map fun k => (ws.getD k [], (k + k / 3 + 1) % 3, [10, 9, 13, 32].getD (k % 4) 0)
theorem items_flat (ws : List (List Nat)) : flatI (itemsOf ws) = (wrs ws).flatten := by
  unfold flatI itemsOf wrs wrAt
  rw [List.map_map]; rfl
theorem items_words (ws : List (List Nat)) : (itemsOf ws).map (·.1) = ws := by
  unfold itemsOf
  rw [List.map_map]
  apply List.ext_getElem
  · simp
  · intro i h1 h2
    have hi : i < ws.length := by simpa using h1
    simp [hi]
theorem blank_ws (k : Nat) : isW ([10, 9, 13, 32].getD (k % 4) 0) = true := by
  have : k % 4 < 4 := Nat.mod_lt _ (by decide)
  match k % 4, this with
  | 0, _ => rfl
  | 1, _ => rfl
  | 2, _ => rfl
  | 3, _ => rfl
theorem text_read (k : Nat) (ws : List (List Nat)) (hw : ws ≠ []) : ∃ l, vint (textOf k ws) = some (k, l) ∧ Toks l ws [] := by
  have hne : itemsOf ws ≠ [] := fun e => hw (by have := items_words ws; rw [e] at this; exact this.symm)
  obtain ⟨b, hb⟩ := textI_flat _ hne
  have ht : textOf k ws = octs k ++ textI (itemsOf ws) := by
    unfold textOf fullT
    rw [← items_flat, hb, ← List.append_assoc]
    exact List.take_left' (by simp)
  refine ⟨textI (itemsOf ws), by (first | (refine rwG ht ?_; try (with_reducible rfl)) | rw [ht]); exact vint_octs _ _, ?_⟩
  have := toks_I (itemsOf ws) [] hne (by simp) fun x hx => by
    unfold itemsOf at hx
    obtain ⟨k, _, rfl⟩ := List.mem_map.mp hx
    exact blank_ws k
  rw [items_words] at this
  exact this
theorem writ_len (w : List Nat) (m b : Nat) : (writ w m b).length ≤ 2 * w.length + 3 := by
  unfold writ
  split
  · have := esc_len [34, 92] w
    simp; (first | lia | omega)
  · have := esc_len (if m = 1 then [92, 10, 9, 13, 32] else w) w
    generalize esc (if m = 1 then [92, 10, 9, 13, 32] else w) w = e at this ⊢
    unfold lead34
    split
    · simp; (first | lia | omega)
    · simp; (first | lia | omega)
theorem esc_lt {r w : List Nat} (h : ∀ c ∈ w, c < 128) : ∀ c ∈ esc r w, c < 128 := by
  intro c hc
  unfold esc at hc
  obtain ⟨l, hl, hcl⟩ := List.mem_flatten.mp hc
  obtain ⟨d, hd, rfl⟩ := List.mem_map.mp hl
  unfold esc1 at hcl
  split at hcl
  · simp only [List.mem_cons, List.not_mem_nil, or_false] at hcl
    rcases hcl with rfl | rfl
    · decide
    · exact h _ hd
  · simp only [List.mem_cons, List.not_mem_nil, or_false] at hcl
    subst hcl; exact h _ hd
theorem writ_lt {w : List Nat} {m b : Nat} (hb : b < 128) (h : ∀ c ∈ w, c < 128) : ∀ c ∈ writ w m b, c < 128 := by
  intro c hc
  unfold writ at hc
  split at hc
  · simp only [List.mem_append, List.mem_cons, List.not_mem_nil, or_false] at hc
    rcases hc with ((rfl | hc) | rfl) | rfl
    · decide
    · exact esc_lt h c hc
    · decide
    · exact hb
  · have key : ∀ c ∈ esc (if m = 1 then [92, 10, 9, 13, 32] else w) w ++ [b], c < 128 := fun d hd => by
      rcases List.mem_append.mp hd with hd | hd
      · exact esc_lt h d hd
      · simp at hd; (first | lia | omega)
    generalize esc (if m = 1 then [92, 10, 9, 13, 32] else w) w = e at key hc
    unfold lead34 at hc
    split at hc
    · rcases List.mem_cons.mp hc with rfl | hc
      · decide
      · exact key c hc
    · exact key c hc
theorem fullT_lt {k : Nat} {ws : List (List Nat)} (h : ∀ w ∈ ws, ∀ c ∈ w, c < 128) : ∀ c ∈ fullT k ws, c < 128 := by
  intro c hc
  unfold fullT at hc
  rcases List.mem_append.mp hc with hc | hc
  · exact octs_lt _ _ hc
  · obtain ⟨l, hl, hcl⟩ := List.mem_flatten.mp hc
    unfold wrs at hl
    obtain ⟨j, hj, rfl⟩ := List.mem_map.mp hl
    have hj' : j < ws.length := by simpa using hj
    unfold wrAt at hcl
    refine writ_lt ?_ ?_ c hcl
    · have : j % 4 < 4 := Nat.mod_lt _ (by decide)
      match j % 4, this with
      | 0, _ => decide
      | 1, _ => decide
      | 2, _ => decide
      | 3, _ => decide
    · have e : ws.getD j [] = ws[j] := by simp [hj']
      (first | (refine rwG e ?_; try (with_reducible rfl)) | rw [e])
      exact h _ (List.getElem_mem hj')
theorem flat_len (b : Nat) : ∀ (l : List (List Nat)), (∀ x ∈ l, x.length ≤ b) → l.flatten.length ≤ b * l.length
  | [], _ => by simp
  | x :: r, h => by
    have h1 := h x (.head _)
    have h2 := flat_len b r fun y hy => h y (.tail _ hy)
    rw [List.flatten_cons, List.length_append, List.length_cons, Nat.mul_succ]; (first | lia | omega)
theorem fullT_len {k : Nat} {ws : List (List Nat)} (h : ∀ w ∈ ws, w.length ≤ 2) : (fullT k ws).length ≤ (octs k).length + 7 * ws.length := by
  unfold fullT
  have := flat_len 7 (wrs ws) fun x hx => by
    unfold wrs at hx
    obtain ⟨j, hj, rfl⟩ := List.mem_map.mp hx
    have hj' : j < ws.length := by simpa using hj
    have e : ws.getD j [] = ws[j] := by simp [hj']
    have h2 := h _ (List.getElem_mem hj')
    have h3 := writ_len (ws.getD j []) ((j + j / 3 + 1) % 3) ([10, 9, 13, 32].getD (j % 4) 0)
    rw [e] at h3
    unfold wrAt
    (first | (refine rwG e ?_; try (with_reducible rfl)) | rw [e]); (first | lia | omega)
  rw [List.length_append]
  simp only [wrs, List.length_map, List.length_range] at this ⊢
  (first | lia | omega)
section
variable {f f' : Bool → Nat} (he : ∀ x y, f x = f y ↔ f' x = f' y) (hs : ∀ x y, subCost (f x) (f y) = subCost (f' x) (f' y)) (hp : ∀ x y, price (f x) (f y) = price (f' x) (f' y))
include he in
theorem cpre_map : ∀ a b : List Bool, cpre (a.map f) (b.map f) = cpre (a.map f') (b.map f')
  | [], _ => rfl
  | _ :: _, [] => rfl
  | x :: a, y :: b => by
    show (if f x = f y then cpre (a.map f) (b.map f) + 1 else 0) = (if f' x = f' y then cpre (a.map f') (b.map f') + 1 else 0)
    rw [cpre_map a b]
    by_cases h : f x = f y
    · ((first | refine ifP h ?_ | rw [if_pos h]); (first | refine ifP ((he _ _).mp h) ?_ | rw [if_pos ((he _ _).mp h)]))
    · ((first | refine ifN h ?_ | rw [if_neg h]); (first | refine ifN fun k => h ((he _ _).mpr k) ?_ | rw [if_neg fun k => h ((he _ _).mpr k)]))
include he in
theorem map_eq_iff : ∀ a b : List Bool, a.map f = b.map f ↔ a.map f' = b.map f'
  | [], [] => ⟨fun _ => rfl, fun _ => rfl⟩
  | [], _ :: _ => ⟨fun h => by simp at h, fun h => by simp at h⟩
  | _ :: _, [] => ⟨fun h => by simp at h, fun h => by simp at h⟩
  | x :: a, y :: b => by simp only [List.map_cons, List.cons.injEq]; rw [he x y, map_eq_iff a b]
include hs in
theorem levIn_map (y : Bool) : ∀ (a : List Bool) (row : List Int) (d res mn : Int), levIn (f y) (a.map f) row d res mn = levIn (f' y) (a.map f') row d res mn
  | [], _, _, _, _ => rfl
  | _ :: _, [], _, _, _ => rfl
  | x :: a, r :: row, d, res, mn => by
    simp only [List.map_cons, levIn]
    rw [hs y x, levIn_map y a]
include hs in
theorem levOut_map (a : List Bool) (mc : Int) : ∀ (b : List Bool) (k : Nat) (row : List Int) (res : Int), levOut (a.map f) mc (b.map f) k row res = levOut (a.map f') mc (b.map f') k row res
  | [], _, _, _ => rfl
  | y :: b, k, row, res => by
    simp only [List.map_cons, levOut]
    rw [levIn_map hs y a, levOut_map a mc b]
include hs in
theorem levC_map (a b : List Bool) (mc : Int) : levC (a.map f) (b.map f) mc = levC (a.map f') (b.map f') mc := by
  unfold levC
  simp only [List.length_map]
  rw [levOut_map hs]
include he hs in
theorem lev_map (a b : List Bool) (mc : Int) : lev (a.map f) (b.map f) mc = lev (a.map f') (b.map f') mc := by
  unfold lev
  simp only [cpre_map he, ← List.map_drop, List.length_map, ← List.map_reverse, ← List.map_take, List.map_eq_nil_iff, levC_map hs]
  by_cases h : a.map f = b.map f
  · ((first | refine ifP h ?_ | rw [if_pos h]); (first | refine ifP ((map_eq_iff he a b).mp h) ?_ | rw [if_pos ((map_eq_iff he a b).mp h)]))
  · ((first | refine ifN h ?_ | rw [if_neg h]); (first | refine ifN fun k => h ((map_eq_iff he a b).mpr k) ?_ | rw [if_neg fun k => h ((map_eq_iff he a b).mpr k)]))
include hp in
theorem due_map (a : List Bool) (x : Bool) : dueOf (a.map f) (f x) = dueOf (a.map f') (f' x) := by
  unfold dueOf
  simp only [List.map_map, List.length_map]
  have : (price (f x) ∘ f) = (price (f' x) ∘ f') := by funext y; exact hp x y
  (first | (refine rwG this ?_; try (with_reducible rfl)) | rw [this])
end
noncomputable def pat (q : Nat) (b : Bool) : Nat := if b then 65 else [65, 97, 66].getD q 0
noncomputable def shT : Nat → List Bool
  | 0 => []
  | 1 => [false]
  | 2 => [false, true]
  | 3 => [true, false]
  | _ => [true]
noncomputable def sh3 (κ p : Nat) : List Bool := match p with
  | 0 => shT κ ++ [true, true]
  | 1 => [true] ++ (shT κ ++ [true])
  | _ => [true, true] ++ shT κ
theorem pat_lev : ∀ q : Fin 3, ∀ κ : Fin 5, ∀ p : Fin 3, ∀ x ∈ sh3 κ p, ∀ r : Fin 3, lev ((sh3 κ p).map (pat q)) ([x, x, x].map (pat q)) ((dueOf ((sh3 κ p).map (pat q)) (pat q x) : Int) + ((r : Nat) : Int) - 1) = dueOf ((sh3 κ p).map (pat q)) (pat q x) := by decide +kernel
theorem pat_due : ∀ q : Fin 3, ∀ κ : Fin 5, ∀ p : Fin 3, dueOf ((sh3 κ p).map (pat q)) (pat q true) < 99 ∧ (false ∈ sh3 κ p → pat q false ≠ pat q true → dueOf ((sh3 κ p).map (pat q)) (pat q true) < dueOf ((sh3 κ p).map (pat q)) (pat q false)) := by decide +kernel
theorem pat_true : ∀ κ : Fin 5, ∀ p : Fin 3, true ∈ sh3 κ p ∧ (sh3 κ p).length ≤ 40 := by decide +kernel
theorem pat_of {s g : Nat} (hs : s < 128) (hg : g < 128) : ∃ q : Fin 3, ∀ x y : Bool, ((if x then s else g) = (if y then s else g) ↔ pat q x = pat q y) ∧ subCost (if x then s else g) (if y then s else g) = subCost (pat q x) (pat q y) ∧ price (if x then s else g) (if y then s else g) = price (pat q x) (pat q y) := by
  by_cases h : s = g
  · refine ⟨0, fun x y => ?_⟩
    subst h
    cases x <;> cases y <;> simp [pat, subCost, price]
  · have h' : ¬ g = s := fun e => h e.symm
    have sy : (((g : Int) - s).natAbs = 32 ∧ 65 ≤ min g s ∧ min g s ≤ 90) = (((s : Int) - g).natAbs = 32 ∧ 65 ≤ min s g ∧ min s g ≤ 90) := by rw [Nat.min_comm g s, ← Int.natAbs_neg ((g : Int) - s), Int.neg_sub]
    by_cases h1 : ((s : Int) - g).natAbs = 32 ∧ 65 ≤ min s g ∧ min s g ≤ 90
    · refine ⟨1, fun x y => ?_⟩
      have l1 : low s = low g := by unfold low; split <;> split <;> (first | lia | omega)
      have p1 : price s g = 1 := by unfold price; ((first | refine ifN h ?_ | rw [if_neg h]); (first | refine ifP h1 ?_ | rw [if_pos h1]))
      have p2 : price g s = 1 := by unfold price; ((first | refine ifN h' ?_ | rw [if_neg h']); (first | refine ifP (sy ▸ h1) ?_ | rw [if_pos (sy ▸ h1)]))
      have c1 : subCost s g = 1 := by unfold subCost; ((first | refine ifN h ?_ | rw [if_neg h]); (first | refine ifP l1 ?_ | rw [if_pos l1]))
      have c2 : subCost g s = 1 := by unfold subCost; ((first | refine ifN h' ?_ | rw [if_neg h']); (first | refine ifP l1.symm ?_ | rw [if_pos l1.symm]))
      have e1 : price s s = 0 := by unfold price; (first | refine ifP rfl ?_ | rw [if_pos rfl])
      have e2 : price g g = 0 := by unfold price; (first | refine ifP rfl ?_ | rw [if_pos rfl])
      have e3 : subCost s s = 0 := by unfold subCost; (first | refine ifP rfl ?_ | rw [if_pos rfl])
      have e4 : subCost g g = 0 := by unfold subCost; (first | refine ifP rfl ?_ | rw [if_pos rfl])
      cases x <;> cases y
      · exact ⟨by simp, e4.trans (by decide), e2.trans (by decide)⟩
      · exact ⟨by simp [pat, h'], c2.trans (by decide), p2.trans (by decide)⟩
      · exact ⟨by simp [pat, h], c1.trans (by decide), p1.trans (by decide)⟩
      · exact ⟨by simp, e3.trans (by decide), e1.trans (by decide)⟩
    · refine ⟨2, fun x y => ?_⟩
      have l1 : low s ≠ low g := by unfold low; split <;> split <;> (first | lia | omega)
      have p1 : price s g = 2 := by unfold price; ((first | refine ifN h ?_ | rw [if_neg h]); (first | refine ifN h1 ?_ | rw [if_neg h1]))
      have p2 : price g s = 2 := by unfold price; ((first | refine ifN h' ?_ | rw [if_neg h']); (first | refine ifN (sy ▸ h1) ?_ | rw [if_neg (sy ▸ h1)]))
      have c1 : subCost s g = 2 := by unfold subCost; ((first | refine ifN h ?_ | rw [if_neg h]); (first | refine ifN l1 ?_ | rw [if_neg l1]))
      have c2 : subCost g s = 2 := by unfold subCost; ((first | refine ifN h' ?_ | rw [if_neg h']); (first | refine ifN fun k => l1 k.symm ?_ | rw [if_neg fun k => l1 k.symm]))
      have e1 : price s s = 0 := by unfold price; (first | refine ifP rfl ?_ | rw [if_pos rfl])
      have e2 : price g g = 0 := by unfold price; (first | refine ifP rfl ?_ | rw [if_pos rfl])
      have e3 : subCost s s = 0 := by unfold subCost; (first | refine ifP rfl ?_ | rw [if_pos rfl])
      have e4 : subCost g g = 0 := by unfold subCost; (first | refine ifP rfl ?_ | rw [if_pos rfl])
      cases x <;> cases y
      · exact ⟨by simp, e4.trans (by decide), e2.trans (by decide)⟩
      · exact ⟨by simp [pat, h'], c2.trans (by decide), p2.trans (by decide)⟩
      · exact ⟨by simp [pat, h], c1.trans (by decide), p1.trans (by decide)⟩
      · exact ⟨by simp, e3.trans (by decide), e1.trans (by decide)⟩
theorem near_keep (text : List Nat) : ∀ (cs : List Nat) (l : Nat) (n : List Nat), (∀ c ∈ cs, ¬ dueOf text c < l) → nearGo text cs l n = n
  | [], _, _, _ => rfl
  | c :: r, l, n, h => by
    unfold nearGo
    (first | refine ifN (h c (.head _)) ?_ | rw [if_neg (h c (.head _))])
    exact near_keep text r l n fun d hd => h d (.tail _ hd)
theorem near_is (text : List Nat) (s : Nat) : ∀ (cs : List Nat) (l : Nat) (n : List Nat), s ∈ cs → dueOf text s < l → (∀ c ∈ cs, c ≠ s → dueOf text s < dueOf text c) → nearGo text cs l n = [s]
  | [], _, _, h, _, _ => by cases h
  | c :: r, l, n, h, hl, hc => by
    unfold nearGo
    have hr : ∀ d ∈ r, d ≠ s → dueOf text s < dueOf text d := fun d hd => hc d (.tail _ hd)
    by_cases e : c = s
    · subst e
      (first | refine ifP hl ?_ | rw [if_pos hl])
      exact near_keep text r _ _ fun d hd => by
        by_cases e2 : d = c
        · subst e2; (first | lia | omega)
        · have := hr d hd e2; (first | lia | omega)
    · have hs : s ∈ r := by
        rcases List.mem_cons.mp h with e2 | h
        · exact absurd e2.symm e
        · exact h
      split
      · exact near_is text s r _ _ hs (hc c (.head _) e) hr
      · exact near_is text s r _ _ hs hl hr
theorem tells_sh {s g : Nat} (hs : s < 128) (hg : g < 128) (κ : Fin 5) (p : Fin 3) (turn : Nat) : TellsT ((sh3 κ p).map fun b => if b then s else g) turn s := by
  obtain ⟨q, hq⟩ := pat_of hs hg
  have he : ∀ x y : Bool, ((fun b : Bool => if b then s else g) x = (fun b : Bool => if b then s else g) y ↔ pat q x = pat q y) := fun x y => (hq x y).1
  have hsc : ∀ x y : Bool, subCost ((fun b : Bool => if b then s else g) x) ((fun b : Bool => if b then s else g) y) = subCost (pat q x) (pat q y) := fun x y => (hq x y).2.1
  have hpr : ∀ x y : Bool, price ((fun b : Bool => if b then s else g) x) ((fun b : Bool => if b then s else g) y) = price (pat q x) (pat q y) := fun x y => (hq x y).2.2
  obtain ⟨ht, hl⟩ := pat_true κ p
  refine ⟨fun c hc => ?_, by simpa using hl, fun c hc => ?_, fun cs hpw hmem => ?_⟩
  · obtain ⟨b, _, rfl⟩ := List.mem_map.mp hc
    cases b
    · exact hg
    · exact hs
  · obtain ⟨x, hx, rfl⟩ := List.mem_map.mp hc
    have := pat_lev q κ p x hx ⟨(turn + 2) % 3, Nat.mod_lt _ (by decide)⟩
    rw [due_map (f := fun b : Bool => if b then s else g) (f' := pat q) hpr]
    have h3 := lev_map (f := fun b : Bool => if b then s else g) (f' := pat q) he hsc (sh3 κ p) [x, x, x]
    exact (h3 _).trans this
  · have hd := due_map (f := fun b : Bool => if b then s else g) (f' := pat q) hpr (sh3 κ p)
    obtain ⟨h99, hlt⟩ := pat_due q κ p
    have d1 : dueOf ((sh3 κ p).map fun b => if b then s else g) s = _ := hd true
    have d2 : dueOf ((sh3 κ p).map fun b => if b then s else g) g = _ := hd false
    refine near_is _ s cs 99 [] ((hmem s).mpr (List.mem_map.mpr ⟨true, ht, rfl⟩)) (by (first | (refine rwG d1 ?_; try (with_reducible rfl)) | rw [d1]); exact h99) fun c hc hne => ?_
    obtain ⟨b, hb, rfl⟩ := List.mem_map.mp ((hmem c).mp hc)
    cases b with
    | true => exact absurd rfl hne
    | false =>
      have e : (if false = true then s else g) = g := rfl
      rw [e] at hne ⊢
      ((first | (refine rwG d1 ?_; try (with_reducible rfl)) | rw [d1]); (first | (refine rwG d2 ?_; try (with_reducible rfl)) | rw [d2]))
      exact hlt hb fun e => hne ((he false true).mpr e)
theorem tells3 {s g : Nat} (hs : s < 128) (hg : g < 128) (κ turn : Nat) : TellsT ([spW g s κ, [s], [s]].flatten) turn s ∧ TellsT ([[s], spW g s κ, [s]].flatten) turn s ∧ TellsT ([[s], [s], spW g s κ].flatten) turn s := by
  have hk : ∃ k : Fin 5, spW g s κ = (shT k).map fun b => if b then s else g := by
    match κ with
    | 0 => exact ⟨0, rfl⟩
    | 1 => exact ⟨1, rfl⟩
    | 2 => exact ⟨2, rfl⟩
    | 3 => exact ⟨3, rfl⟩
    | k + 4 => exact ⟨4, rfl⟩
  obtain ⟨k, hk⟩ := hk
  (first | (refine rwG hk ?_; try (with_reducible rfl)) | rw [hk])
  refine ⟨?_, ?_, ?_⟩
  · have := tells_sh hs hg k 0 turn
    rw [show sh3 k (0 : Fin 3) = shT k ++ [true, true] from rfl, List.map_append] at this
    simpa using this
  · have := tells_sh hs hg k 1 turn
    rw [show sh3 k (1 : Fin 3) = [true] ++ (shT k ++ [true]) from rfl, List.map_append, List.map_append] at this
    simpa using this
  · have := tells_sh hs hg k 2 turn
    rw [show sh3 k (2 : Fin 3) = [true, true] ++ shT k from rfl, List.map_append] at this
    simpa using this
theorem send_at : ∀ (signs : List Nat) (L : Nat → List Nat), sendL signs (L 0) (L 1) (L 2) = (List.range (3 * signs.length)).map fun k => (L (k % 3) ++ signs).getD (k / 3) 0
  | [], _ => rfl
  | s :: r, L => by
    have e : ∀ q : List Nat, q ++ s :: r = hd1 q s :: (tl1 q s ++ r) := fun q => by
      have := hdtl q s
      rw [← List.singleton_append, ← List.append_assoc, this]; rfl
    have ih := send_at r fun j => tl1 (L j) s
    show hd1 (L 0) s :: hd1 (L 1) s :: hd1 (L 2) s :: sendL r (tl1 (L 0) s) (tl1 (L 1) s) (tl1 (L 2) s) = _
    rw [ih, List.length_cons, show 3 * (r.length + 1) = 3 + 3 * r.length by (first | lia | omega), List.range_add, List.map_append, List.map_map]
    have h3 : (List.range 3).map (fun k => (L (k % 3) ++ s :: r).getD (k / 3) 0) = [hd1 (L 0) s, hd1 (L 1) s, hd1 (L 2) s] := by
      show [(L 0 ++ s :: r).getD 0 0, (L 1 ++ s :: r).getD 0 0, (L 2 ++ s :: r).getD 0 0] = _
      simp only [e, List.getD_cons_zero]
    (first | (refine rwG h3 ?_; try (with_reducible rfl)) | rw [h3])
    show _ :: _ :: _ :: _ = _ :: _ :: _ :: _
    congr 3
    apply List.map_congr_left
    intro k _
    show _ = (L ((3 + k) % 3) ++ s :: r).getD ((3 + k) / 3) 0
    rw [show (3 + k) % 3 = k % 3 by (first | lia | omega), show (3 + k) / 3 = k / 3 + 1 by (first | lia | omega), e, List.getD_cons_succ]
theorem rep_shift (d top i : Nat) (h : d ≤ top) (Y : List Nat) : (List.replicate d 64 ++ Y).getD i 0 = (List.replicate top 64 ++ Y).getD (top + i - d) 0 := by
  have e : List.replicate top 64 = List.replicate (top - d) 64 ++ List.replicate d 64 := by rw [List.replicate_append_replicate]; congr 1; omega
  rw [e, List.append_assoc, List.getD_eq_getElem?_getD, List.getD_eq_getElem?_getD, List.getElem?_append_right (l₁ := List.replicate (top - d) 64) (by simp; omega)]
  congr 2
  simp; omega
theorem d3_le {d0 d1 d2 top : Nat} (h0 : d0 ≤ top) (h1 : d1 ≤ top) (h2 : d2 ≤ top) (j : Nat) : [d0, d1, d2].getD j 0 ≤ top := by
  match j with
  | 0 => exact h0
  | 1 => exact h1
  | 2 => exact h2
  | j + 3 => exact Nat.zero_le _
theorem sent_slots {d0 d1 d2 top : Nat} (h0 : d0 ≤ top) (h1 : d1 ≤ top) (h2 : d2 ≤ top) (msg : List Nat) :
    sentOf msg top d0 d1 d2 = (List.range (3 * (msg.length + top))).map (slotAt (List.replicate top 64 ++ msg) top d0 d1 d2) := by
  have := send_at (msg ++ List.replicate top 64) fun j => List.replicate ([d0, d1, d2].getD j 0) 64
  unfold sentOf
  refine this.trans ?_
  rw [List.length_append, List.length_replicate]
  apply List.map_congr_left
  intro k _
  unfold slotAt
  rw [rep_shift _ top _ (d3_le h0 h1 h2 _), List.append_assoc]
theorem getD_lt {l : List Nat} (h : ∀ c ∈ l, c < 128) (i : Nat) : l.getD i 0 < 128 := by
  rcases Nat.lt_or_ge i l.length with hi | hi
  · exact h _ (getD_mem hi)
  · rw [List.getD_eq_getElem?_getD, List.getElem?_eq_none hi]; decide
noncomputable def col (k : Nat) : List (List Nat) → List (List Nat)
  | t0 :: t1 :: t2 :: r => [t0, t1, t2].getD k [] :: col k r
  | _ => []
theorem come_at : ∀ (n : Nat) (ts : List (List Nat)) (L : Nat → List (List Nat)), ts.length = 3 * n → comeL ts (L 0) (L 1) (L 2) = (List.range n).map fun i => [(L 0 ++ col 0 ts).getD i [], (L 1 ++ col 1 ts).getD i [], (L 2 ++ col 2 ts).getD i []]
  | 0, [], _, _ => rfl
  | n + 1, t0 :: t1 :: t2 :: r, L, h => by
    have e : ∀ (q : List (List Nat)) (t : List Nat) (Y : List (List Nat)), q ++ t :: Y = hdW q t :: (tlW q t ++ Y) := fun q t Y => by
      have := hdtlW q t
      rw [← List.singleton_append, ← List.append_assoc, this]; rfl
    have ih := come_at n r (fun j => tlW (L j) ([t0, t1, t2].getD j [])) (by simp at h; (first | lia | omega))
    show [hdW (L 0) t0, hdW (L 1) t1, hdW (L 2) t2] :: comeL r (tlW (L 0) t0) (tlW (L 1) t1) (tlW (L 2) t2) = _
    refine (congrArg _ ih).trans ?_
    rw [List.range_succ_eq_map, List.map_cons, List.map_map]
    have c0 : col 0 (t0 :: t1 :: t2 :: r) = t0 :: col 0 r := rfl
    have c1 : col 1 (t0 :: t1 :: t2 :: r) = t1 :: col 1 r := rfl
    have c2 : col 2 (t0 :: t1 :: t2 :: r) = t2 :: col 2 r := rfl
    simp only [c0, c1, c2, e, List.getD_cons_zero]
    congr 1
  | 0, _ :: _, _, h => by simp at h
  | n + 1, [], _, h => by simp at h
  | n + 1, [_], _, h => by simp at h; (first | lia | omega)
  | n + 1, [_, _], _, h => by simp at h; (first | lia | omega)
theorem col_at : ∀ (n : Nat) (ts : List (List Nat)) (k j : Nat), ts.length = 3 * n → k < 3 → (col k ts).getD j [] = ts.getD (3 * j + k) []
  | 0, [], k, j, _, _ => by
    show ([] : List (List Nat)).getD j [] = _
    simp
  | n + 1, t0 :: t1 :: t2 :: r, k, j, h, hk => by
    show ([t0, t1, t2].getD k [] :: col k r).getD j [] = _
    cases j with
    | zero =>
      match k, hk with
      | 0, _ => rfl
      | 1, _ => rfl
      | 2, _ => rfl
    | succ j =>
      rw [List.getD_cons_succ, col_at n r k j (by simp at h; (first | lia | omega)) hk, show 3 * (j + 1) + k = (3 * j + k) + 1 + 1 + 1 by (first | lia | omega), List.getD_cons_succ, List.getD_cons_succ, List.getD_cons_succ]
  | 0, _ :: _, _, _, h, _ => by simp at h
  | n + 1, [], _, _, h, _ => by simp at h
  | n + 1, [_], _, _, h, _ => by simp at h; (first | lia | omega)
  | n + 1, [_, _], _, _, h, _ => by simp at h; (first | lia | omega)
theorem rep_col {ws : List (List Nat)} {n top d k i : Nat} (h : ws.length = 3 * n) (hk : k < 3) (hd : d ≤ top) : (rep64 (top - d) ++ col k ws).getD i [] = wAt ws top d k i := by
  unfold wAt rep64
  by_cases hi : top ≤ i + d
  · rw [if_pos hi, List.getD_eq_getElem?_getD, List.getElem?_append_right (by simp; (first | lia | omega)), ← List.getD_eq_getElem?_getD, List.length_replicate, col_at n ws k _ h hk]
    congr 1; (first | lia | omega)
  · rw [if_neg hi, List.getD_eq_getElem?_getD, List.getElem?_append_left (by simp; (first | lia | omega)), List.getElem?_replicate, if_pos (by (first | lia | omega))]; rfl
theorem come_rows {ws : List (List Nat)} {n top d0 d1 d2 : Nat} (h : ws.length = 3 * n) (h0 : d0 ≤ top) (h1 : d1 ≤ top) (h2 : d2 ≤ top) :
    comeL ws (rep64 (top - d0)) (rep64 (top - d1)) (rep64 (top - d2)) = (List.range n).map (rowAt ws top d0 d1 d2) := by
  have := come_at n ws (fun j => rep64 (top - [d0, d1, d2].getD j 0)) h
  refine this.trans ?_
  apply List.map_congr_left
  intro i _
  show [(rep64 (top - d0) ++ col 0 ws).getD i [], (rep64 (top - d1) ++ col 1 ws).getD i [], (rep64 (top - d2) ++ col 2 ws).getD i []] = _
  rw [rep_col h (by decide) h0, rep_col h (by decide) h1, rep_col h (by decide) h2]; rfl
noncomputable def posOf3 (top d k i : Nat) : Nat := 3 * (i + d - top) + k
noncomputable abbrev inRun (top d k i st sz : Nat) : Prop := top ≤ i + d ∧ st ≤ posOf3 top d k i ∧ posOf3 top d k i < st + sz
theorem copy_at {d0 d1 d2 top st sz dd k i : Nat} {msg : List Nat} (h0 : d0 ≤ top) (h1 : d1 ≤ top) (h2 : d2 ≤ top) (hk : k < 3) (hi : i < msg.length + top) :
    wAt (spoilL (sentOf msg top d0 d1 d2) st sz dd) top ([d0, d1, d2].getD k 0) k i = if inRun top ([d0, d1, d2].getD k 0) k i st sz then spW (dd % 128) ((List.replicate top 64 ++ msg).getD i 0) (dd / 128 / 4 ^ (posOf3 top ([d0, d1, d2].getD k 0) k i - st) % 4) else [(List.replicate top 64 ++ msg).getD i 0] := by
  have hd := d3_le h0 h1 h2 k
  unfold wAt
  by_cases h : top ≤ i + [d0, d1, d2].getD k 0
  · (first | refine ifP h ?_ | rw [if_pos h])
    have hlen : (sentOf msg top d0 d1 d2).length = 3 * (msg.length + top) := by rw [sent_slots h0 h1 h2]; simp
    have hpos : posOf3 top ([d0, d1, d2].getD k 0) k i < 3 * (msg.length + top) := by unfold posOf3; (first | lia | omega)
    have hS : (sentOf msg top d0 d1 d2).getD (posOf3 top ([d0, d1, d2].getD k 0) k i) 0 = (List.replicate top 64 ++ msg).getD i 0 := by
      rw [sent_slots h0 h1 h2, List.getD_eq_getElem?_getD, List.getElem?_map, List.getElem?_range hpos]
      show slotAt _ _ _ _ _ _ = _
      unfold slotAt
      have e1 : posOf3 top ([d0, d1, d2].getD k 0) k i % 3 = k := by unfold posOf3; (first | lia | omega)
      have e2 : top + posOf3 top ([d0, d1, d2].getD k 0) k i / 3 - [d0, d1, d2].getD k 0 = i := by unfold posOf3; (first | lia | omega)
      rw [e1, e2, List.getD_eq_getElem?_getD, List.getD_eq_getElem?_getD, List.getElem?_append_left (by simp; (first | lia | omega))]
    have hW : (spoilL (sentOf msg top d0 d1 d2) st sz dd).getD (posOf3 top ([d0, d1, d2].getD k 0) k i) [] = spoil st sz dd (sentOf msg top d0 d1 d2) (posOf3 top ([d0, d1, d2].getD k 0) k i) := by
      unfold spoilL
      rw [List.getD_eq_getElem?_getD, List.getElem?_map, List.getElem?_range (by rw [hlen]; exact hpos)]; rfl
    refine Eq.trans hW ?_
    unfold spoil spKind
    (first | (refine rwG hS ?_; try (with_reducible rfl)) | rw [hS])
    by_cases hr : st ≤ posOf3 top ([d0, d1, d2].getD k 0) k i ∧ posOf3 top ([d0, d1, d2].getD k 0) k i < st + sz
    · ((first | refine ifP hr ?_ | rw [if_pos hr]); (first | refine ifP (show inRun _ _ _ _ _ _ from ⟨h, hr.1, hr.2⟩) ?_ | rw [if_pos (show inRun _ _ _ _ _ _ from ⟨h, hr.1, hr.2⟩)]))
    · ((first | refine ifN hr ?_ | rw [if_neg hr]); (first | refine ifN (show ¬ inRun _ _ _ _ _ _ from fun q => hr ⟨q.2.1, q.2.2⟩) ?_ | rw [if_neg (show ¬ inRun _ _ _ _ _ _ from fun q => hr ⟨q.2.1, q.2.2⟩)])); rfl
  · rw [if_neg h, if_neg (show ¬ inRun _ _ _ _ _ _ from fun q => h q.1), List.getD_eq_getElem?_getD, List.getElem?_append_left (by simp; (first | lia | omega)), List.getElem?_replicate, if_pos (by (first | lia | omega))]; rfl
theorem tells_row {s g : Nat} (hs : s < 128) (hg : g < 128) {w0 w1 w2 : List Nat} {turn : Nat} (h : (w0 = [s] ∧ w1 = [s] ∧ ∃ κ, w2 = spW g s κ) ∨ (w0 = [s] ∧ w2 = [s] ∧ ∃ κ, w1 = spW g s κ) ∨ (w1 = [s] ∧ w2 = [s] ∧ ∃ κ, w0 = spW g s κ)) : TellsT ([w0, w1, w2].flatten) turn s := by
  rcases h with ⟨rfl, rfl, κ, rfl⟩ | ⟨rfl, rfl, κ, rfl⟩ | ⟨rfl, rfl, κ, rfl⟩
  · exact (tells3 hs hg κ turn).2.2
  · exact (tells3 hs hg κ turn).2.1
  · exact (tells3 hs hg κ turn).1
theorem room_facts : ∀ d0 d1 d2 : Fin 4, 1 ≤ roomOf d0 d1 d2 ∧ roomOf d0 d1 d2 ≤ 5 ∧ oneOf d0 d1 d2 < 3 ∧ otherOf d0 d1 d2 < 3 ∧ oneOf d0 d1 d2 ≠ otherOf d0 d1 d2 ∧
    roomOf d0 d1 d2 = (3 * (([d0.val, d1.val, d2.val].getD (oneOf d0 d1 d2) 0 : Nat) - ([d0.val, d1.val, d2.val].getD (otherOf d0 d1 d2) 0 : Nat) : Int) + (oneOf d0 d1 d2 : Nat) - (otherOf d0 d1 d2 : Nat)).natAbs ∧
    ∀ j k : Fin 3, j ≠ k → roomOf d0 d1 d2 ≤ (3 * (([d0.val, d1.val, d2.val].getD j 0 : Nat) - ([d0.val, d1.val, d2.val].getD k 0 : Nat) : Int) + (j.val : Nat) - (k.val : Nat)).natAbs := by decide +kernel
theorem spW_len (g s κ : Nat) : (spW g s κ).length ≤ 2 := by
  match κ with
  | 0 => exact Nat.zero_le _
  | 1 => exact Nat.le_succ _
  | 2 => exact Nat.le_refl _
  | 3 => exact Nat.le_refl _
  | _ + 4 => exact Nat.le_succ _
theorem spW_lt {g s : Nat} (hg : g < 128) (hs : s < 128) (κ : Nat) : ∀ c ∈ spW g s κ, c < 128 := by
  match κ with
  | 0 => intro c hc; cases hc
  | 1 => intro c hc; simp [spW] at hc; (first | lia | omega)
  | 2 => intro c hc; simp [spW] at hc; (first | lia | omega)
  | 3 => intro c hc; simp [spW] at hc; (first | lia | omega)
  | _ + 4 => intro c hc; simp [spW] at hc; (first | lia | omega)
theorem plan_ok {d0 d1 d2 top n2 st sz dd : Nat} {msg due read : List Nat} (h0 : d0 ≤ top) (h1 : d1 ≤ top) (h2 : d2 ≤ top) (ht : top < 4) (hm : msg.length ≤ 6) (hm0 : 0 < msg.length) (h128 : ∀ c ∈ sentOf msg top d0 d1 d2, c < 128)
    (hsz : sz < 15) (hdl : due.length = msg.length + top) (hd128 : ∀ c ∈ due, c < 128) (hread : offs due = read) (htell : ∀ i, i < msg.length + top → TellsT ((rowAt (spoilL (sentOf msg top d0 d1 d2) st sz dd) top d0 d1 d2 i).flatten) i (due.getD i 0)) :
    PlanOk (sentOf msg top d0 d1 d2) (msg.length + top) (64 * (msg.length + top) + n2 % 64) top d0 d1 d2 st sz dd due read := by
  have hsl : (sentOf msg top d0 d1 d2).length = 3 * (msg.length + top) := by rw [sent_slots h0 h1 h2]; simp
  have hwl : (spoilL (sentOf msg top d0 d1 d2) st sz dd).length = 3 * (msg.length + top) := by simp [spoilL, hsl]
  have hmem : ∀ w ∈ spoilL (sentOf msg top d0 d1 d2) st sz dd, ∃ j κ, w = spW (dd % 128) ((sentOf msg top d0 d1 d2).getD j 0) κ := fun w hw => by
    unfold spoilL at hw
    obtain ⟨j, _, rfl⟩ := List.mem_map.mp hw
    exact ⟨j, _, rfl⟩
  have ws2 : ∀ w ∈ spoilL (sentOf msg top d0 d1 d2) st sz dd, w.length ≤ 2 := fun w hw => by
    obtain ⟨j, κ, rfl⟩ := hmem w hw
    exact spW_len _ _ _
  have ws128 : ∀ w ∈ spoilL (sentOf msg top d0 d1 d2) st sz dd, ∀ c ∈ w, c < 128 := fun w hw => by
    obtain ⟨j, κ, rfl⟩ := hmem w hw
    exact spW_lt (Nat.mod_lt _ (by decide)) (getD_lt h128 _) _
  have ho := octs_short (show 64 * (msg.length + top) + n2 % 64 < 2 ^ 18 by (first | lia | omega))
  obtain ⟨l, hv, htk⟩ := text_read (64 * (msg.length + top) + n2 % 64) (spoilL (sentOf msg top d0 d1 d2) st sz dd) (fun e => by rw [e] at hwl; simp at hwl; (first | lia | omega))
  refine ⟨hsz, ?_, ws128, fun w hw => by have := ws2 w hw; (first | lia | omega), ?_, ⟨l, _, hv, htk, ?_, come_rows hwl h0 h1 h2⟩, hdl, htell, hd128, hread⟩
  · have := fullT_len (k := 64 * (msg.length + top) + n2 % 64) ws2
    rw [hwl] at this; (first | lia | omega)
  · intro c hc
    exact fullT_lt ws128 c (List.mem_of_mem_take hc)
  · (first | (refine rwG hwl ?_; try (with_reducible rfl)) | rw [hwl]); (first | lia | omega)
noncomputable abbrev D3 (d0 d1 d2 k : Nat) : Nat := [d0, d1, d2].getD k 0
structure RoomOk (d0 d1 d2 : Nat) : Prop where
  lo : 1 ≤ roomOf d0 d1 d2
  hi : roomOf d0 d1 d2 ≤ 5
  one : oneOf d0 d1 d2 < 3
  other : otherOf d0 d1 d2 < 3
  ne : oneOf d0 d1 d2 ≠ otherOf d0 d1 d2
  is_ : roomOf d0 d1 d2 = (3 * ((D3 d0 d1 d2 (oneOf d0 d1 d2) : Nat) - (D3 d0 d1 d2 (otherOf d0 d1 d2) : Nat) : Int) + (oneOf d0 d1 d2 : Nat) - (otherOf d0 d1 d2 : Nat)).natAbs
  le : ∀ j k : Nat, j < 3 → k < 3 → j ≠ k → roomOf d0 d1 d2 ≤ (3 * ((D3 d0 d1 d2 j : Nat) - (D3 d0 d1 d2 k : Nat) : Int) + (j : Nat) - (k : Nat)).natAbs
theorem room_ok {d0 d1 d2 : Nat} (h0 : d0 < 4) (h1 : d1 < 4) (h2 : d2 < 4) : RoomOk d0 d1 d2 := by
  obtain ⟨a, b, c, d, e, f, g⟩ := room_facts ⟨d0, h0⟩ ⟨d1, h1⟩ ⟨d2, h2⟩
  exact ⟨a, b, c, d, e, f, fun j k hj hk hne => g ⟨j, hj⟩ ⟨k, hk⟩ fun e => hne (by simpa using e)⟩
theorem not_both {top d e j k i st room : Nat} (h : room ≤ (3 * ((d : Nat) - (e : Nat) : Int) + (j : Nat) - (k : Nat)).natAbs) (h1 : inRun top d j i st room) (h2 : inRun top e k i st room) : False := by
  unfold inRun posOf3 at h1 h2
  omega
theorem first_of {top d e j k i st room : Nat} (h : room ≤ (3 * ((d : Nat) - (e : Nat) : Int) + (j : Nat) - (k : Nat)).natAbs) (h1 : inRun top d j i st (room + 1)) (h2 : inRun top e k i st (room + 1)) : posOf3 top d j i = st ∨ posOf3 top e k i = st := by
  unfold inRun at h1 h2
  unfold posOf3 at *
  omega
theorem pos_sign {D : Nat → Nat} {top i j a lost : Nat} (h : top ≤ i + D j) (e : posOf3 top (D j) j i = 3 * (lost + D a) + a) (hj : j < 3) (ha : a < 3) : i = top + lost := by
  unfold posOf3 at e
  have : j = a := by (first | lia | omega)
  subst this
  (first | lia | omega)
theorem begin_is (d0 d1 d2 one other lost : Nat) : beginOf d0 d1 d2 one other lost = 3 * (lost + D3 d0 d1 d2 one) + one ∨ beginOf d0 d1 d2 one other lost = 3 * (lost + D3 d0 d1 d2 other) + other := by
  unfold beginOf D3
  (first | lia | omega)
section
variable {d0 d1 d2 top st sz dd i : Nat} {msg : List Nat}
theorem row_of (h0 : d0 ≤ top) (h1 : d1 ≤ top) (h2 : d2 ≤ top) (hi : i < msg.length + top) : ∀ k, k < 3 → ∃ w, (rowAt (spoilL (sentOf msg top d0 d1 d2) st sz dd) top d0 d1 d2 i)[k]? = some w ∧
    w = if inRun top (D3 d0 d1 d2 k) k i st sz then spW (dd % 128) ((List.replicate top 64 ++ msg).getD i 0) (dd / 128 / 4 ^ (posOf3 top (D3 d0 d1 d2 k) k i - st) % 4) else [(List.replicate top 64 ++ msg).getD i 0] := by
  intro k hk
  have := copy_at (st := st) (sz := sz) (dd := dd) h0 h1 h2 hk hi
  match k, hk with
  | 0, _ => exact ⟨_, rfl, this⟩
  | 1, _ => exact ⟨_, rfl, this⟩
  | 2, _ => exact ⟨_, rfl, this⟩
theorem row_three (ws : List (List Nat)) {w0 w1 w2 : List Nat} (e0 : (rowAt ws top d0 d1 d2 i)[0]? = some w0) (e1 : (rowAt ws top d0 d1 d2 i)[1]? = some w1) (e2 : (rowAt ws top d0 d1 d2 i)[2]? = some w2) : rowAt ws top d0 d1 d2 i = [w0, w1, w2] := by
  have a0 := Option.some.inj e0
  have a1 := Option.some.inj e1
  have a2 := Option.some.inj e2
  ((first | (refine rwG a0.symm ?_; try (with_reducible rfl)) | rw [← a0]); (first | (refine rwG a1.symm ?_; try (with_reducible rfl)) | rw [← a1]); (first | (refine rwG a2.symm ?_; try (with_reducible rfl)) | rw [← a2])); rfl
theorem tells_one (h0 : d0 ≤ top) (h1 : d1 ≤ top) (h2 : d2 ≤ top) (hi : i < msg.length + top) (hs : (List.replicate top 64 ++ msg).getD i 0 < 128)
    (hr : ∀ j k, j < 3 → k < 3 → j ≠ k → inRun top (D3 d0 d1 d2 j) j i st sz → inRun top (D3 d0 d1 d2 k) k i st sz → False) : TellsT ((rowAt (spoilL (sentOf msg top d0 d1 d2) st sz dd) top d0 d1 d2 i).flatten) i ((List.replicate top 64 ++ msg).getD i 0) := by
  obtain ⟨w0, a0, b0⟩ := row_of (st := st) (sz := sz) (dd := dd) h0 h1 h2 hi 0 (by decide)
  obtain ⟨w1, a1, b1⟩ := row_of (st := st) (sz := sz) (dd := dd) h0 h1 h2 hi 1 (by decide)
  obtain ⟨w2, a2, b2⟩ := row_of (st := st) (sz := sz) (dd := dd) h0 h1 h2 hi 2 (by decide)
  rw [row_three _ a0 a1 a2]
  refine tells_row hs (Nat.mod_lt dd (by decide)) ?_
  by_cases r0 : inRun top (D3 d0 d1 d2 0) 0 i st sz
  · have r1 := fun r => hr 0 1 (by decide) (by decide) (by decide) r0 r
    have r2 := fun r => hr 0 2 (by decide) (by decide) (by decide) r0 r
    rw [if_pos r0] at b0
    rw [if_neg r1] at b1
    rw [if_neg r2] at b2
    exact .inr (.inr ⟨b1, b2, _, b0⟩)
  · rw [if_neg r0] at b0
    by_cases r1 : inRun top (D3 d0 d1 d2 1) 1 i st sz
    · have r2 := fun r => hr 1 2 (by decide) (by decide) (by decide) r1 r
      rw [if_pos r1] at b1
      rw [if_neg r2] at b2
      exact .inr (.inl ⟨b0, b2, _, b1⟩)
    · rw [if_neg r1] at b1
      refine .inl ⟨b0, b1, ?_⟩
      by_cases r2 : inRun top (D3 d0 d1 d2 2) 2 i st sz
      · rw [if_pos r2] at b2; exact ⟨_, b2⟩
      · rw [if_neg r2] at b2; exact ⟨4, b2⟩
theorem kind_one {e : Nat} (h : e ≤ 5) : 21845 / 4 ^ e % 4 = 1 := by
  match e, h with
  | 0, _ => rfl
  | 1, _ => rfl
  | 2, _ => rfl
  | 3, _ => rfl
  | 4, _ => rfl
  | 5, _ => rfl
  | e + 6, h => (first | lia | omega)
theorem tells_two {tk a b : Nat} (h0 : d0 ≤ top) (h1 : d1 ≤ top) (h2 : d2 ≤ top) (hi : i < msg.length + top) (hs : (List.replicate top 64 ++ msg).getD i 0 < 128) (htk : tk < 128) (hd : dd = 2796160 + tk) (hz : sz ≤ 6)
    (ha : a < 3) (hb : b < 3) (hab : a ≠ b) (ra : inRun top (D3 d0 d1 d2 a) a i st sz) (rb : inRun top (D3 d0 d1 d2 b) b i st sz) : TellsT ((rowAt (spoilL (sentOf msg top d0 d1 d2) st sz dd) top d0 d1 d2 i).flatten) i tk := by
  have e1 : dd % 128 = tk := by (first | lia | omega)
  have e2 : dd / 128 = 21845 := by (first | lia | omega)
  have key : ∀ k, k < 3 → ∃ w, (rowAt (spoilL (sentOf msg top d0 d1 d2) st sz dd) top d0 d1 d2 i)[k]? = some w ∧ (inRun top (D3 d0 d1 d2 k) k i st sz → w = [tk]) ∧ ∃ κ, w = spW ((List.replicate top 64 ++ msg).getD i 0) tk κ := by
    intro k hk
    obtain ⟨w, a, b⟩ := row_of (st := st) (sz := sz) (dd := dd) h0 h1 h2 hi k hk
    refine ⟨w, a, ?_⟩
    by_cases r : inRun top (D3 d0 d1 d2 k) k i st sz
    · rw [if_pos r, e1, e2, kind_one (by have := r.2.2; (first | lia | omega))] at b
      exact ⟨fun _ => b, 4, b⟩
    · rw [if_neg r] at b
      exact ⟨fun h => absurd h r, 1, b⟩
  obtain ⟨w0, a0, c0, k0⟩ := key 0 (by decide)
  obtain ⟨w1, a1, c1, k1⟩ := key 1 (by decide)
  obtain ⟨w2, a2, c2, k2⟩ := key 2 (by decide)
  rw [row_three _ a0 a1 a2]
  refine tells_row htk hs ?_
  have hc : (a = 0 ∧ b = 1) ∨ (a = 1 ∧ b = 0) ∨ (a = 0 ∧ b = 2) ∨ (a = 2 ∧ b = 0) ∨ (a = 1 ∧ b = 2) ∨ (a = 2 ∧ b = 1) := (by decide +kernel : ∀ a b : Fin 3, a.val ≠ b.val → (a.val = 0 ∧ b.val = 1) ∨ (a.val = 1 ∧ b.val = 0) ∨ (a.val = 0 ∧ b.val = 2) ∨ (a.val = 2 ∧ b.val = 0) ∨ (a.val = 1 ∧ b.val = 2) ∨ (a.val = 2 ∧ b.val = 1)) ⟨a, ha⟩ ⟨b, hb⟩ hab
  rcases hc with ⟨rfl, rfl⟩ | ⟨rfl, rfl⟩ | ⟨rfl, rfl⟩ | ⟨rfl, rfl⟩ | ⟨rfl, rfl⟩ | ⟨rfl, rfl⟩
  · exact .inl ⟨c0 ra, c1 rb, k2⟩
  · exact .inl ⟨c0 rb, c1 ra, k2⟩
  · exact .inr (.inl ⟨c0 ra, c2 rb, k1⟩)
  · exact .inr (.inl ⟨c0 rb, c2 ra, k1⟩)
  · exact .inr (.inr ⟨c1 ra, c2 rb, k0⟩)
  · exact .inr (.inr ⟨c1 rb, c2 ra, k0⟩)
end
theorem chgd_at {l : List Nat} {k g : Nat} (h : k < l.length) (i : Nat) : (chgd l k g).getD i 0 = if i = k then g else l.getD i 0 := by
  have e : chgd l k g = l.set k g := by unfold chgd; rw [List.set_eq_take_append_cons_drop, if_pos h]; simp
  rw [e, List.getD_eq_getElem?_getD, List.getD_eq_getElem?_getD, List.getElem?_set]
  by_cases hk : i = k
  · subst hk; ((first | refine ifP rfl ?_ | rw [if_pos rfl]); (first | refine ifP rfl ?_ | rw [if_pos rfl]); (first | refine ifP h ?_ | rw [if_pos h])); rfl
  · ((first | refine ifN (fun e => hk e.symm) ?_ | rw [if_neg (fun e => hk e.symm)]); (first | refine ifN hk ?_ | rw [if_neg hk]))
theorem chgd_len {l : List Nat} {k g : Nat} (h : k < l.length) : (chgd l k g).length = l.length := by
  unfold chgd; simp; (first | lia | omega)
theorem chgd_lt {l : List Nat} {k g : Nat} (hg : g < 128) (h : ∀ c ∈ l, c < 128) : ∀ c ∈ chgd l k g, c < 128 := by
  intro c hc
  unfold chgd at hc
  simp only [List.mem_append, List.mem_cons, List.not_mem_nil, or_false] at hc
  rcases hc with (hc | rfl) | hc
  · exact h c (List.mem_of_mem_take hc)
  · exact hg
  · exact h c (List.mem_of_mem_drop hc)
theorem law_ok {n0 n1 n2 n3 n4 n5 d0 d1 d2 top : Nat} (b0 : d0 < 4) (b1 : d1 < 4) (b2 : d2 < 4) (ht : top = max (max d0 d1) d2) : LawOk d0 d1 d2 top (octs (n0 % 262144) ++ octs (n1 % 262144)) (n0 % 262144) (n1 % 262144) n2 n3 n4 n5 := by
  have hl0 := octs_short (show n0 % 262144 < 2 ^ 18 by (first | lia | omega))
  have hl1 := octs_short (show n1 % 262144 < 2 ^ 18 by (first | lia | omega))
  have hp0 := octs_pos (n0 % 262144)
  have hp1 := octs_pos (n1 % 262144)
  have hoff := offs_sent top (n0 % 262144) (n1 % 262144)
  have hm128 : ∀ c ∈ octs (n0 % 262144) ++ octs (n1 % 262144), c < 128 := fun c hc => by
    rcases List.mem_append.mp hc with hc | hc <;> exact octs_lt _ c hc
  have hml : (octs (n0 % 262144) ++ octs (n1 % 262144)).length ≤ 6 ∧ 2 ≤ (octs (n0 % 262144) ++ octs (n1 % 262144)).length := by rw [List.length_append]; (first | lia | omega)
  generalize n0 % 262144 = s0 at *
  generalize n1 % 262144 = s1 at *
  generalize octs s0 ++ octs s1 = msg at *
  have R := room_ok b0 b1 b2
  have h0 : d0 ≤ top := max0 ht
  have h1 : d1 ≤ top := max1 ht
  have h2 : d2 ≤ top := max2 ht
  have ht4 : top < 4 := max4 ht b0 b1 b2
  have hg128 : ∀ c ∈ List.replicate top 64 ++ msg, c < 128 := fun c hc => by
    rcases List.mem_append.mp hc with hc | hc
    · have := List.eq_of_mem_replicate hc; (first | lia | omega)
    · exact hm128 c hc
  have s128 : ∀ c ∈ sentOf msg top d0 d1 d2, c < 128 := fun c hc => by
    rw [sent_slots h0 h1 h2] at hc
    obtain ⟨k, _, rfl⟩ := List.mem_map.mp hc
    unfold slotAt
    refine getD_lt (fun c hc => ?_) _
    rcases List.mem_append.mp hc with hc | hc
    · exact hg128 c hc
    · have := List.eq_of_mem_replicate hc; (first | lia | omega)
  have hgl : (List.replicate top 64 ++ msg).length = msg.length + top := by simp; (first | lia | omega)
  have hlost : top + n5 % msg.length < (List.replicate top 64 ++ msg).length := by
    (first | (refine rwG hgl ?_; try (with_reducible rfl)) | rw [hgl]); have := Nat.mod_lt n5 (show 0 < msg.length by (first | lia | omega)); (first | lia | omega)
  have htk : n5 / 8 % 128 < 128 := Nat.mod_lt _ (by decide)
  have hlo := R.lo
  have hhi := R.hi
  refine ⟨sent_slots h0 h1 h2 msg, s128, R.one, R.other, by (first | lia | omega), ?_, ?_⟩
  · refine plan_ok h0 h1 h2 ht4 hml.1 (by (first | lia | omega)) s128 (by (first | lia | omega)) hgl hg128 hoff fun i hi => ?_
    exact tells_one h0 h1 h2 hi (getD_lt hg128 i) fun j k hj hk hjk ra rb => not_both (R.le j k hj hk hjk) ra rb
  · refine plan_ok h0 h1 h2 ht4 hml.1 (by (first | lia | omega)) s128 (by (first | lia | omega)) (by rw [chgd_len hlost, hgl]) (chgd_lt htk hg128) (offs_eq _) fun i hi => ?_
    rw [chgd_at hlost]
    have hbg := begin_is d0 d1 d2 (oneOf d0 d1 d2) (otherOf d0 d1 d2) (n5 % msg.length)
    by_cases hil : i = top + n5 % msg.length
    · (first | refine ifP hil ?_ | rw [if_pos hil])
      have his := R.is_
      unfold D3 at his
      refine tells_two h0 h1 h2 hi (getD_lt hg128 i) htk rfl (by (first | lia | omega)) R.one R.other R.ne ?_ ?_
      · unfold inRun posOf3 beginOf D3
        subst hil
        (first | lia | omega)
      · unfold inRun posOf3 beginOf D3
        subst hil
        (first | lia | omega)
    · (first | refine ifN hil ?_ | rw [if_neg hil])
      refine tells_one h0 h1 h2 hi (getD_lt hg128 i) fun j k hj hk hjk ra rb => hil ?_
      rcases first_of (R.le j k hj hk hjk) ra rb with e | e <;> rcases hbg with hb | hb <;> rw [hb] at e
      · exact pos_sign (D := D3 d0 d1 d2) ra.1 e hj R.one
      · exact pos_sign (D := D3 d0 d1 d2) ra.1 e hj R.other
      · exact pos_sign (D := D3 d0 d1 d2) rb.1 e hk R.one
      · exact pos_sign (D := D3 d0 d1 d2) rb.1 e hk R.other
end Mine
set_option maxHeartbeats 8000000
namespace Mine
noncomputable abbrev vw : Program := view PySem.Challenge.pw_sc0034_01 [1, 3, 5, 6, 7, 8, 9, 11, 12, 13, 14, 15, 16, 17, 18, 19, 20, 21, 22]
theorem l_open : looksOpen PySem.Challenge.rw_sc0034_01.row.prog = true := by
  rw [Fast.te12908688711261696721]
  exact look_both (look_both (look_both (look_both (look_both (by decide +kernel) (by decide +kernel)) (by decide +kernel)) (by decide +kernel)) (by decide +kernel)) (by decide +kernel)
theorem l_part : PySem.Challenge.rw_sc0034_01.row.partSaid = true := look_both (look_both (look_both (look_both (look_both (look_both (look_both (look_both (look_both (look_both (look_both (look_both (look_both l_open (by decide +kernel)) (by decide +kernel)) (by decide +kernel)) (by decide +kernel)) (by decide +kernel)) (by decide +kernel)) (by decide +kernel)) (by decide +kernel)) (by decide +kernel)) (by decide +kernel)) (by decide +kernel)) (by decide +kernel)) (by decide +kernel)
theorem said_row : PySem.Challenge.rw_sc0034_01.row.wellSaid = true := look_both (look_both l_part (by decide +kernel)) (by decide +kernel)
theorem said_law : PySem.Challenge.rw_sc0034_01.wellSaid = true := look_both (look_both (look_both (look_both (look_both (look_both (look_both (look_both (look_both (look_both (look_both (look_both (look_both (look_both (look_both (look_both (look_both (look_both said_row (by decide +kernel)) (by decide +kernel)) (by decide +kernel)) (by decide +kernel)) (by decide +kernel)) (by decide +kernel)) (by decide +kernel)) (by decide +kernel)) (by decide +kernel)) (by decide +kernel)) (by decide +kernel)) (by decide +kernel)) (by decide +kernel)) (by decide +kernel)) (by decide +kernel)) (by decide +kernel)) (by decide +kernel)) (by decide +kernel)
theorem law_in (h : PySem.Challenge.rw_sc0034_01.row.wellSaid = true → PySem.Challenge.rw_sc0034_01.row.Holds) : PySem.Challenge.rw_sc0034_01.Holds := holds_law said_law h
theorem head_in {d : DefRec} {kwd : List (Str × Expr)} (H : Hook) (hdef : defOf vw PySem.Challenge.rw_sc0034_01.row.name = some (d, kwd))
    (hp : PySem.Challenge.rw_sc0034_01.row.prog.theDef PySem.Challenge.rw_sc0034_01.row.name = some (d.params, d.body, d.scope)) (hk : kwWritten? d.params.kwonlyargs d.params.kw_defaults = some kwd)
    (left : LeftO PySem.Challenge.rw_sc0034_01.row.prog vw [] (fun s => xlAt vw [] s && recOk [] s) H.obs H.val 1800) (hw : PySem.Challenge.rw_sc0034_01.row.toRowW.promised)
    (call : WalkO vw [] (XL vw []) H.says PySem.Challenge.rw_sc0034_01.row.toRowW d kwd fun f vs => PySem.call f vs) : PySem.Challenge.rw_sc0034_01.row.Holds :=
  holds_open left H.of H.keeps (fun s e => xl_of s (Bool.and_eq_true_iff.mp e).1) XL.keeps hdef hp hk (fun s e => recFacts_of (Bool.and_eq_true_iff.mp e).2) (by rfl) said_row (by decide +kernel) ⟨rfl, rfl, rfl, rfl, rfl, by decide +kernel⟩ hw call
local macro_rules | `(tactic| o_law) => `(tactic| refine Mine.law_in fun said => ?_)
local macro_rules | `(tactic| o_head $H) => `(tactic| refine Mine.head_in $H rfl rfl rfl (fun w => by unfold openEnds topFrom; rw [Fast.te14082659384304107361, Fast.te14364793385576792824, Fast.te4187177175401517315]; kernel_rfl) ?hw ?hc)
open_top hd for PySem.Challenge.rw_sc0034_01
end Mine
namespace Mine
noncomputable def fdOf (K : Frag) (f : Addr) : FuncData := match K.lookup f with
  | some ⟨_, _, .func fd, _⟩ => fd
  | _ => default
noncomputable def isFn (K : Frag) (f : Addr) : Bool := match K.lookup f with
  | some ⟨_, _, .func _, _⟩ => true
  | _ => false
noncomputable def codeRecIn (K : Frag) (cd : Value) (q : Str) : Bool := match cd with
  | .ref c => (match K.lookup c with
    | some ⟨_, _, .fields vs, _⟩ => (match (vs[1]? : Option Value) with
      | some (.str x _) => x == q
      | _ => false)
    | _ => false)
  | _ => false
set_option tactic.hygienic true in
theorem isFn_of {K : Frag} {f : Addr} (e : isFn K f = true) : ∃ o, K.lookup f = some o ∧ o.data = .func (fdOf K f) := by
  unfold isFn at e
  unfold fdOf
  split at e
  · rename_i c d fd sl h
    (first | (refine rwG h ?_; try (with_reducible rfl)) | rw [h])
    exact ⟨_, rfl, rfl⟩
  · cases e
set_option tactic.hygienic true in
theorem codeRec_of {K : Frag} {h : Heap} {cd : Value} {q : Str} (X : K.In h) (e : codeRecIn K cd q = true) : h.CodeRec cd q := by
  unfold codeRecIn at e
  split at e
  · rename_i c
    split at e
    · rename_i vs _ hk
      split at e
      · rename_i x t h1
        exact ⟨c, _, vs, t, rfl, X _ _ hk, rfl, by rw [h1, eq_of_beq e]⟩
      · cases e
    · cases e
  · cases e
theorem bf_of {X : Cx} {f : Addr} {q : Str} {as : List Arg} {body : List Stmt} {sc : Scope} (e1 : isFn X.K f = true) (e2 : FDP q (plainPs as) (.stmts body) sc [] (fdOf X.K f)) (e3 : codeRecIn X.K (fdOf X.K f).code (fdOf X.K f).qualname = true) (e4 : keepIn X.K (.ref f) = true) : BF X f q as body sc := by
  obtain ⟨o, h1, h2⟩ := isFn_of e1
  exact ⟨⟨o, _, X.kin _ _ h1, h2, e2, codeRec_of X.kin e3⟩, e4⟩
theorem glob_of {X : Cx} {x : Str} {v : Value} (e : (nsIn X.K mainGlobals x).map (·.map er) = some (some v)) : GlobIs X x v := by
  cases h : nsIn X.K mainGlobals x with
  | none => rw [h] at e; cases e
  | some o =>
    cases o with
    | none => rw [h] at e; cases e
    | some v' =>
      rw [h] at e
      simp only [Option.map_some, Option.some.injEq] at e
      exact ⟨v', mg_of X.kin X.g h, e⟩
theorem bltn_of {X : Cx} {x : Str} {v v' : Value} (hb : ∀ x : Str, x ≠ "__name__" → X.mb x = bootBuiltins x) (hn : x ≠ "__name__") (e : nsIn X.K mainGlobals x = some none) (e2 : bootBuiltins x = some v') (e3 : er v' = v) : BltnIs X x v :=
  ⟨mg_none_of X.kin X.g e, v', (hb x hn).trans e2, e3⟩
noncomputable abbrev KK (w : World) : Frag := hd.heap_1 w.params
noncomputable abbrev tabs2 : List (Addr × Addr) := [(119, 117), (83, 79)]
section
variable {w : World} {s₁ : Shared} {mg mb : Str → Option Value} {p : Program} {loose : List Str} {mean : ExcName → Option Value}
noncomputable def theX (w : World) (s₁ : Shared) (mg mb : Str → Option Value) (KX : (KK w).In s₁.heap) (hT : TabsAt tabs2 s₁.heap) (T : Top p loose mean mg mb s₁.heap) : Cx where
  prog := PySem.Challenge.pw_sc0034_01
  w := w
  h₀ := ghostOf s₁.heap tabs2
  os := s₁.os
  tabs := [tabC, tabS]
  mg := mg
  mb := mb
  K := KK w
  kin := ghost_K hT KX (by kernel_rfl)
  lim := (ghost_top hT T).nolimit
  g := ghost_ns hT T.g
  b := ghost_ns hT T.b
end
section
variable {w : World} {s₁ : Shared} {mg mb : Str → Option Value} {p : Program} {loose : List Str} {mean : ExcName → Option Value} {KX : (KK w).In s₁.heap} {hT : TabsAt tabs2 s₁.heap} {T : Top p loose mean mg mb s₁.heap}
theorem x_mb : ∀ x : Str, x ≠ "__name__" → (theX w s₁ mg mb KX hT T).mb x = bootBuiltins x := T.builtins
theorem tabs_bm : ∃ bm o, (theX w s₁ mg mb KX hT T).mg "__builtins__" = some (.ref bm) ∧ bm ≠ builtinsNs ∧ bm ≠ mainGlobals ∧ (theX w s₁ mg mb KX hT T).h₀.get? bm = some o ∧ o.cls = .type "module" ∧ o.dict = some builtinsNs ∧ o.data = .plain := by
  obtain ⟨bm, ob, a1, a2, a3, a4, a5, a6⟩ := (ghost_top hT T).bmain
  refine ⟨bm, ob, a1, a2, fun e => ?_, a3, a4, a5, a6⟩
  obtain ⟨o, es, ep, b1, b2, _⟩ := (theX w s₁ mg mb KX hT T).g
  have b1 : (ghostOf s₁.heap tabs2).get? mainGlobals = some o := b1
  rw [e, b1] at a3
  cases a3
  rw [b2] at a6
  cases a6
theorem k_C : TabOf (theX w s₁ mg mb KX hT T) tabC where
  mem := .head _
  uniq := fun t' h e => by
    cases h with
    | head => rfl
    | tail _ h => cases h with
      | head => cases e
      | tail _ h => cases h
  hd := (ghost_code hT).1
  bm := tabs_bm
theorem k_S : TabOf (theX w s₁ mg mb KX hT T) tabS where
  mem := .tail _ (.head _)
  uniq := fun t' h e => by
    cases h with
    | head => cases e
    | tail _ h => cases h with
      | head => rfl
      | tail _ h => cases h
  hd := (ghost_code hT).2.1
  bm := tabs_bm
theorem c_C (o : Obj) (fd : FuncData) (h1 : (theX w s₁ mg mb KX hT T).h₀.get? 120 = some o) (h2 : o.data = .func fd) : fd.code = .ref 119 :=
  law_code (x := "_law_come") (c := 119) (P := 117) (theX w s₁ mg mb KX hT T).kin (theX w s₁ mg mb KX hT T).g (by kernel_rfl) (mg_of (v := .ref 120) (theX w s₁ mg mb KX hT T).kin (theX w s₁ mg mb KX hT T).g (by kernel_rfl)) h1 h2
theorem c_S (o : Obj) (fd : FuncData) (h1 : (theX w s₁ mg mb KX hT T).h₀.get? 84 = some o) (h2 : o.data = .func fd) : fd.code = .ref 83 :=
  law_code (x := "_law_stream") (c := 83) (P := 79) (theX w s₁ mg mb KX hT T).kin (theX w s₁ mg mb KX hT T).g (by kernel_rfl) (mg_of (v := .ref 84) (theX w s₁ mg mb KX hT T).kin (theX w s₁ mg mb KX hT T).g (by kernel_rfl)) h1 h2
theorem b_law : BF (theX w s₁ mg mb KX hT T) 149 (nmOf (topSt 22)) (asOf (topSt 22)) (bodyOf (topSt 22)) (scOf (topSt 22)) :=
  bf_of (by kernel_rfl) ⟨by kernel_rfl, by kernel_rfl, by kernel_rfl, by kernel_rfl, by kernel_rfl, by kernel_rfl, by kernel_rfl, by kernel_rfl, by kernel_rfl⟩ (by kernel_rfl) (by kernel_rfl)
end
section
variable {w : World} {s₁ : Shared} {mg mb : Str → Option Value} {p : Program} {loose : List Str} {mean : ExcName → Option Value} {KX : (KK w).In s₁.heap} {hT : TabsAt tabs2 s₁.heap} {T : Top p loose mean mg mb s₁.heap}
theorem d_Var : Df (theX w s₁ mg mb KX hT T) 3 63 := ⟨glob_of (by kernel_rfl), bf_of (by kernel_rfl) ⟨by kernel_rfl, by kernel_rfl, by kernel_rfl, by kernel_rfl, by kernel_rfl, by kernel_rfl, by kernel_rfl, by kernel_rfl, by kernel_rfl⟩ (by kernel_rfl) (by kernel_rfl)⟩
theorem d_Sub : Df (theX w s₁ mg mb KX hT T) 8 70 := ⟨glob_of (by kernel_rfl), bf_of (by kernel_rfl) ⟨by kernel_rfl, by kernel_rfl, by kernel_rfl, by kernel_rfl, by kernel_rfl, by kernel_rfl, by kernel_rfl, by kernel_rfl, by kernel_rfl⟩ (by kernel_rfl) (by kernel_rfl)⟩
theorem d_Lev : Df (theX w s₁ mg mb KX hT T) 9 77 := ⟨glob_of (by kernel_rfl), bf_of (by kernel_rfl) ⟨by kernel_rfl, by kernel_rfl, by kernel_rfl, by kernel_rfl, by kernel_rfl, by kernel_rfl, by kernel_rfl, by kernel_rfl, by kernel_rfl⟩ (by kernel_rfl) (by kernel_rfl)⟩
theorem d_Stream : Df (theX w s₁ mg mb KX hT T) 11 84 := ⟨glob_of (by kernel_rfl), bf_of (by kernel_rfl) ⟨by kernel_rfl, by kernel_rfl, by kernel_rfl, by kernel_rfl, by kernel_rfl, by kernel_rfl, by kernel_rfl, by kernel_rfl, by kernel_rfl⟩ (by kernel_rfl) (by kernel_rfl)⟩
theorem d_Oct : Df (theX w s₁ mg mb KX hT T) 12 91 := ⟨glob_of (by kernel_rfl), bf_of (by kernel_rfl) ⟨by kernel_rfl, by kernel_rfl, by kernel_rfl, by kernel_rfl, by kernel_rfl, by kernel_rfl, by kernel_rfl, by kernel_rfl, by kernel_rfl⟩ (by kernel_rfl) (by kernel_rfl)⟩
theorem d_Writ : Df (theX w s₁ mg mb KX hT T) 13 96 := ⟨glob_of (by kernel_rfl), bf_of (by kernel_rfl) ⟨by kernel_rfl, by kernel_rfl, by kernel_rfl, by kernel_rfl, by kernel_rfl, by kernel_rfl, by kernel_rfl, by kernel_rfl, by kernel_rfl⟩ (by kernel_rfl) (by kernel_rfl)⟩
theorem d_Line : Df (theX w s₁ mg mb KX hT T) 14 103 := ⟨glob_of (by kernel_rfl), bf_of (by kernel_rfl) ⟨by kernel_rfl, by kernel_rfl, by kernel_rfl, by kernel_rfl, by kernel_rfl, by kernel_rfl, by kernel_rfl, by kernel_rfl, by kernel_rfl⟩ (by kernel_rfl) (by kernel_rfl)⟩
theorem d_Sent : Df (theX w s₁ mg mb KX hT T) 15 108 := ⟨glob_of (by kernel_rfl), bf_of (by kernel_rfl) ⟨by kernel_rfl, by kernel_rfl, by kernel_rfl, by kernel_rfl, by kernel_rfl, by kernel_rfl, by kernel_rfl, by kernel_rfl, by kernel_rfl⟩ (by kernel_rfl) (by kernel_rfl)⟩
theorem d_Spoilt : Df (theX w s₁ mg mb KX hT T) 16 115 := ⟨glob_of (by kernel_rfl), bf_of (by kernel_rfl) ⟨by kernel_rfl, by kernel_rfl, by kernel_rfl, by kernel_rfl, by kernel_rfl, by kernel_rfl, by kernel_rfl, by kernel_rfl, by kernel_rfl⟩ (by kernel_rfl) (by kernel_rfl)⟩
theorem d_Come : Df (theX w s₁ mg mb KX hT T) 17 120 := ⟨glob_of (by kernel_rfl), bf_of (by kernel_rfl) ⟨by kernel_rfl, by kernel_rfl, by kernel_rfl, by kernel_rfl, by kernel_rfl, by kernel_rfl, by kernel_rfl, by kernel_rfl, by kernel_rfl⟩ (by kernel_rfl) (by kernel_rfl)⟩
theorem d_Price : Df (theX w s₁ mg mb KX hT T) 18 127 := ⟨glob_of (by kernel_rfl), bf_of (by kernel_rfl) ⟨by kernel_rfl, by kernel_rfl, by kernel_rfl, by kernel_rfl, by kernel_rfl, by kernel_rfl, by kernel_rfl, by kernel_rfl, by kernel_rfl⟩ (by kernel_rfl) (by kernel_rfl)⟩
theorem d_Near : Df (theX w s₁ mg mb KX hT T) 19 132 := ⟨glob_of (by kernel_rfl), bf_of (by kernel_rfl) ⟨by kernel_rfl, by kernel_rfl, by kernel_rfl, by kernel_rfl, by kernel_rfl, by kernel_rfl, by kernel_rfl, by kernel_rfl, by kernel_rfl⟩ (by kernel_rfl) (by kernel_rfl)⟩
theorem d_Off : Df (theX w s₁ mg mb KX hT T) 20 137 := ⟨glob_of (by kernel_rfl), bf_of (by kernel_rfl) ⟨by kernel_rfl, by kernel_rfl, by kernel_rfl, by kernel_rfl, by kernel_rfl, by kernel_rfl, by kernel_rfl, by kernel_rfl, by kernel_rfl⟩ (by kernel_rfl) (by kernel_rfl)⟩
theorem d_Told : Df (theX w s₁ mg mb KX hT T) 21 144 := ⟨glob_of (by kernel_rfl), bf_of (by kernel_rfl) ⟨by kernel_rfl, by kernel_rfl, by kernel_rfl, by kernel_rfl, by kernel_rfl, by kernel_rfl, by kernel_rfl, by kernel_rfl, by kernel_rfl⟩ (by kernel_rfl) (by kernel_rfl)⟩
theorem m_Init : Md (theX w s₁ mg mb KX hT T) 52 0 28 := ⟨⟨by kernel_rfl, by kernel_rfl, by kernel_rfl, by kernel_rfl, by decide +kernel, by kernel_rfl⟩, bf_of (by kernel_rfl) ⟨by kernel_rfl, by kernel_rfl, by kernel_rfl, by kernel_rfl, by kernel_rfl, by kernel_rfl, by kernel_rfl, by kernel_rfl, by kernel_rfl⟩ (by kernel_rfl) (by kernel_rfl)⟩
theorem m_Read : Md (theX w s₁ mg mb KX hT T) 52 1 35 := ⟨⟨by kernel_rfl, by kernel_rfl, by kernel_rfl, by kernel_rfl, by decide +kernel, by kernel_rfl⟩, bf_of (by kernel_rfl) ⟨by kernel_rfl, by kernel_rfl, by kernel_rfl, by kernel_rfl, by kernel_rfl, by kernel_rfl, by kernel_rfl, by kernel_rfl, by kernel_rfl⟩ (by kernel_rfl) (by kernel_rfl)⟩
theorem m_Get : Md (theX w s₁ mg mb KX hT T) 52 2 42 := ⟨⟨by kernel_rfl, by kernel_rfl, by kernel_rfl, by kernel_rfl, by decide +kernel, by kernel_rfl⟩, bf_of (by kernel_rfl) ⟨by kernel_rfl, by kernel_rfl, by kernel_rfl, by kernel_rfl, by kernel_rfl, by kernel_rfl, by kernel_rfl, by kernel_rfl, by kernel_rfl⟩ (by kernel_rfl) (by kernel_rfl)⟩
theorem m_Push : Md (theX w s₁ mg mb KX hT T) 52 3 49 := ⟨⟨by kernel_rfl, by kernel_rfl, by kernel_rfl, by kernel_rfl, by decide +kernel, by kernel_rfl⟩, bf_of (by kernel_rfl) ⟨by kernel_rfl, by kernel_rfl, by kernel_rfl, by kernel_rfl, by kernel_rfl, by kernel_rfl, by kernel_rfl, by kernel_rfl, by kernel_rfl⟩ (by kernel_rfl) (by kernel_rfl)⟩
theorem b_Len : BltnIs (theX w s₁ mg mb KX hT T) "len" (.builtin "len") := bltn_of x_mb (by decide +kernel) (by kernel_rfl) (v' := .builtin "len") (by kernel_rfl) rfl
theorem b_Min : BltnIs (theX w s₁ mg mb KX hT T) "min" (.builtin "min") := bltn_of x_mb (by decide +kernel) (by kernel_rfl) (v' := .builtin "min") (by kernel_rfl) rfl
theorem b_Max : BltnIs (theX w s₁ mg mb KX hT T) "max" (.builtin "max") := bltn_of x_mb (by decide +kernel) (by kernel_rfl) (v' := .builtin "max") (by kernel_rfl) rfl
theorem b_Chr : BltnIs (theX w s₁ mg mb KX hT T) "chr" (.builtin "chr") := bltn_of x_mb (by decide +kernel) (by kernel_rfl) (v' := .builtin "chr") (by kernel_rfl) rfl
theorem b_Ord : BltnIs (theX w s₁ mg mb KX hT T) "ord" (.builtin "ord") := bltn_of x_mb (by decide +kernel) (by kernel_rfl) (v' := .builtin "ord") (by kernel_rfl) rfl
theorem b_Abs : BltnIs (theX w s₁ mg mb KX hT T) "abs" (.builtin "abs") := bltn_of x_mb (by decide +kernel) (by kernel_rfl) (v' := .builtin "abs") (by kernel_rfl) rfl
theorem b_Sum : BltnIs (theX w s₁ mg mb KX hT T) "sum" (.builtin "sum") := bltn_of x_mb (by decide +kernel) (by kernel_rfl) (v' := .builtin "sum") (by kernel_rfl) rfl
theorem b_Sorted : BltnIs (theX w s₁ mg mb KX hT T) "sorted" (.builtin "sorted") := bltn_of x_mb (by decide +kernel) (by kernel_rfl) (v' := .builtin "sorted") (by kernel_rfl) rfl
theorem b_Iter : BltnIs (theX w s₁ mg mb KX hT T) "iter" (.builtin "iter") := bltn_of x_mb (by decide +kernel) (by kernel_rfl) (v' := .builtin "iter") (by kernel_rfl) rfl
theorem b_Next : BltnIs (theX w s₁ mg mb KX hT T) "next" (.builtin "next") := bltn_of x_mb (by decide +kernel) (by kernel_rfl) (v' := .builtin "next") (by kernel_rfl) rfl
theorem b_List : BltnIs (theX w s₁ mg mb KX hT T) "list" (.type "list") := bltn_of x_mb (by decide +kernel) (by kernel_rfl) (v' := .type "list") (by kernel_rfl) rfl
theorem b_Set : BltnIs (theX w s₁ mg mb KX hT T) "set" (.type "set") := bltn_of x_mb (by decide +kernel) (by kernel_rfl) (v' := .type "set") (by kernel_rfl) rfl
theorem b_Range : BltnIs (theX w s₁ mg mb KX hT T) "range" (.type "range") := bltn_of x_mb (by decide +kernel) (by kernel_rfl) (v' := .type "range") (by kernel_rfl) rfl
theorem b_Enum : BltnIs (theX w s₁ mg mb KX hT T) "enumerate" (.type "enumerate") := bltn_of x_mb (by decide +kernel) (by kernel_rfl) (v' := .type "enumerate") (by kernel_rfl) rfl
theorem b_Stop : BltnIs (theX w s₁ mg mb KX hT T) "StopIteration" (.type "StopIteration") := bltn_of x_mb (by decide +kernel) (by kernel_rfl) (v' := .type "StopIteration") (by kernel_rfl) rfl
theorem p_C : PC (theX w s₁ mg mb KX hT T) 52 := ⟨by kernel_rfl, by kernel_rfl, by kernel_rfl, by kernel_rfl, by kernel_rfl⟩
theorem own_C : ∀ n ∈ ([("lineno" : Str), "instream", "whitespace", "pushback"] : List Str), findIn (theX w s₁ mg mb KX hT T).K (.ref 52) n = some none := by
  intro n hn
  simp only [List.mem_cons, List.not_mem_nil, or_false] at hn
  rcases hn with rfl | rfl | rfl | rfl
  · kernel_rfl
  · kernel_rfl
  · kernel_rfl
  · kernel_rfl
theorem facts : Facts (theX w s₁ mg mb KX hT T) where
  dVar := d_Var
  dSub := d_Sub
  dLev := d_Lev
  dStream := d_Stream
  dOct := d_Oct
  dWrit := d_Writ
  dLine := d_Line
  dSent := d_Sent
  dSpoilt := d_Spoilt
  dCome := d_Come
  dPrice := d_Price
  dNear := d_Near
  dOff := d_Off
  dTold := d_Told
  cls := glob_of (by kernel_rfl)
  pc := p_C
  kpC := by kernel_rfl
  mks := by kernel_rfl
  own := own_C
  mdInit := m_Init
  mdRead := m_Read
  mdGet := m_Get
  mdPush := m_Push
  init := by kernel_rfl
  kS := k_S
  kC := k_C
  cS := c_S
  cC := c_C
  nS := by kernel_rfl
  nL := by kernel_rfl
  nC := rfl
  move := glob_of (by kernel_rfl)
  case_ := glob_of (by kernel_rfl)
  most := glob_of (by kernel_rfl)
  bLen := b_Len
  bMin := b_Min
  bMax := b_Max
  bChr := b_Chr
  bOrd := b_Ord
  bAbs := b_Abs
  bSum := b_Sum
  bSorted := b_Sorted
  bIter := b_Iter
  bNext := b_Next
  bList := b_List
  bSet := b_Set
  bRange := b_Range
  bEnum := b_Enum
  bStop := b_Stop
end
section
variable {w : World} {s₁ : Shared} {mg mb : Str → Option Value} {p : Program} {loose : List Str} {mean : ExcName → Option Value}
theorem law_ends (KX : (KK w).In s₁.heap) (hT : TabsAt tabs2 s₁.heap) (T : Top p loose mean mg mb s₁.heap) {as : Addr} {vals : List Value} {ns : List Int} (hl : s₁.heap.IsList as vals.toArray) (hI : IntsAre vals ns) (hz : ns.length < 1000) (hg : s₁.gens = #[]) :
    wpAny (model PySem.Challenge.pw_sc0034_01 w) callerA (call (.ref 149) [.ref as]) (fun v s' => v = .bool true ∧ (∀ b o, b ∉ tabs2.map (·.2) → s₁.heap.get? b = some o → s'.heap.get? b = some o) ∧ (∀ b ∈ tabs2.map (·.2), ∃ ps, s'.heap.get? b = some (tabObj ps)) ∧ s'.os = s₁.os ∧ s'.gens = #[]) (fun _ _ => False) s₁ := by
  have R : Rel (theX w s₁ mg mb KX hT T) [] s₁ := by
    refine ⟨(theX w s₁ mg mb KX hT T).h₀.get?, ⟨fun _ _ e => e, fun b o e => of_hideAll _ e, fun q hq => absurd hq List.not_mem_nil, List.nodup_nil, fun t ht => ?_, hg, rfl⟩⟩
    have hP : ∀ P, P ∈ tabs2.map (·.2) → (theX w s₁ mg mb KX hT T).h₀.get? P = none ∧ P ∉ ([] : Hp).map (·.1) ∧ ∃ ps, s₁.heap.get? P = some (tabObj ps) ∧ TriplesOk ps.toList ∧ ∀ pos c, codeAmong pos ps.toList = some c → ∃ c', c = .ref c' ∧ GCode (theX w s₁ mg mb KX hT T).h₀.get? c' (t.f pos.line pos.col) := fun P hP => by
      refine ⟨hideAll_none _ hP, List.not_mem_nil, #[], ?_, trivial, fun pos c e => by cases e⟩
      obtain ⟨q, hq, rfl⟩ := List.mem_map.mp hP
      exact (hT q hq).2
    have ht : t = tabC ∨ t = tabS := by
      cases ht with
      | head => exact .inl rfl
      | tail _ h => cases h with
        | head => exact .inr rfl
        | tail _ h => cases h
    rcases ht with rfl | rfl
    · exact hP 117 (.head _)
    · exact hP 79 me1
  have C := c_law (X := theX w s₁ mg mb KX hT T) (A := callerA) (σ := []) (as := as) (ns := ns) (items := vals.toArray) (outer := []) (n := 0) facts b_law (ghost_list hT hl) (by rw [List.toList_toArray]; exact intsAre_er hI) hz
    (fun n0 n1 n2 n3 n4 n5 _ => law_ok (by omega) (by omega) (by omega) rfl) rfl (fun _ h => by cases h) ⟨rfl, by decide +kernel, by decide +kernel⟩
  refine wpAny_mono (C.cw [.ref as] rfl s₁ R) (fun v s' h => ?_) fun _ _ e => e
  obtain ⟨σ', ⟨pp, R'⟩, hv⟩ := h
  refine ⟨er_bool hv, fun b o hb e => R'.keep _ _ (R'.base _ _ (ghost_ne e hb)), fun b hb => ?_, R'.os, R'.gens⟩
  have key : ∀ t ∈ (theX w s₁ mg mb KX hT T).tabs, ∃ ps, s'.heap.get? t.P = some (tabObj ps) := fun t ht => by
    obtain ⟨_, _, ps, h, _⟩ := R'.tabs t ht
    exact ⟨ps, h⟩
  cases hb with
  | head => exact key tabC (.head _)
  | tail _ h => cases h with
    | head => exact key tabS me1
    | tail _ h => cases h
end
end Mine
set_option tactic.hygienic true in
theorem PySem.Challenge.cw_sc0034_01_holds : PySem.Challenge.rw_sc0034_01.Holds :=
  Mine.hd (by
  intro w s₀ s₁ mg mb G Y fa o pm cd doc dV kV ho hd hcd hD hmg hg args vals as hpre hlay hrd hwl hlo
  have KX := km_in_of Y
  have hT8 := km_tabs_of Y
  refine Ground.open G ?_
  intro T B D TE TW
  try (refine guard_noD D (by decide +kernel) ?_; clear D)
  have hT : TabsAt Mine.tabs2 s₁.heap := List.forall_mem_cons.mpr ⟨⟨codeHd_of_K (c := 119) (P := 117) KX (by kernel_rfl), hT8 117 (.head _)⟩, List.forall_mem_cons.mpr ⟨⟨codeHd_of_K (c := 83) (P := 79) KX (by kernel_rfl), hT8 79 (.tail _ (.head _))⟩, fun _ h => nomatch h⟩⟩
  have hm9 : mg "law" = some (.ref 149) := mg_of KX T.g (by kernel_rfl)
  have hfa : fa = 149 := by
    have h := hmg.symm.trans hm9
    exact Value.ref.inj (Option.some.inj h)
  clear hmg ho hd hcd hD G Y
  subst hfa
  wrow_args hpre hlay hrd hwl hlo
  rename_i ns _ _ _ _ _ _ _ la vs _ hL _ _ _ hI _ hc _
  refine wpAny_mono (Mine.law_ends KX hT T hL hI (by omega) hg) (fun v s' h => ?_) fun _ _ e => e.elim
  obtain ⟨rfl, hk, ht, hos, hgs⟩ := h
  refine ⟨.inl ⟨.bool true, .bool true, [], rfl, raisesW_false (by wrow_none_raised), .bool _, by wrow_post, fun _ => ⟨List.nodup_nil, fun a ha => by cases ha⟩⟩, ⟨fun b o e => ?_, fun b o e => ?_⟩, hos, .of_eq hgs⟩
  · by_cases hb : b ∈ Mine.tabs2.map (·.2)
    · obtain ⟨ps, hps⟩ := ht b hb
      obtain ⟨q, hq, rfl⟩ := List.mem_map.mp hb
      have e2 := (hT q hq).2
      rw [e] at e2
      obtain rfl := Option.some.inj e2
      exact .inr (.inl ⟨((hT q hq).1.tab (hT q hq).2).isCodeTable, rfl, #[], ps, rfl, by rw [Array.empty_append]; exact hps⟩)
    · exact .inl (hk b o hb e)
  · by_cases hb : b ∈ Mine.tabs2.map (·.2)
    · obtain ⟨ps, hps⟩ := ht b hb
      exact ⟨_, hps⟩
    · exact ⟨o, hk b o hb e⟩)
